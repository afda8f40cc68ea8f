import PyProof.Rows.All
import Wide.All
import OpenK.AllK
import Wide.FinOn
import PySem.Challenge.RW_ta0022_01
open PySem PySem.W PyProof.Rows
set_option Elab.async false
set_option compiler.extract_closed false
set_option maxRecDepth 100000
set_option maxHeartbeats 0
namespace Mine
theorem two {p : Prop} (h : p) (_ : True) : p := h
section
local macro_rules | `(tactic| o_law) => `(tactic| refine holds_law (by decide +kernel) fun said => ?_)
local macro_rules | `(tactic| o_head $_) => `(tactic| refine two ?walk ?hw)
local macro_rules | `(tactic| w_witness2) => `(tactic| trivial)
open_top frg for PySem.Challenge.rw_ta0022_01
end
noncomputable abbrev prg : Program := PySem.Challenge.rw_ta0022_01.prog
noncomputable def viewQ : Program := { prg with main := { prg.main with body := (prg.main.body.zipIdx.filter fun x => !([0, 2, 4, 58].contains x.2)).map (·.1) } }
abbrev ads : List Addr := [2, 3, 22, 24, 25, 27, 28, 29, 31, 32, 34, 35, 36, 38, 39, 41, 42, 43, 45, 46, 48, 49, 50, 51, 52, 53, 54, 57, 59, 60, 62, 63, 64, 67, 69, 70, 72, 73, 74, 76, 77, 79, 80, 81, 83, 84, 86, 87, 88, 91, 92, 93, 95, 96, 98, 99, 100, 103, 104, 105, 107, 108, 110, 111, 112, 115, 116, 117, 119, 120, 122, 123, 124, 126, 127, 129, 130, 131, 134, 135, 136, 138, 139, 141, 142, 143, 146, 147]
theorem ads_ok : ∀ P : Params, ads = (frg.heap_1 P).map (·.1) := fun _ => by kernel_rfl
noncomputable abbrev hook : Hook := kmHook frg.heap_1 ads ads_ok [82]
abbrev lse : List Str := [Str.ofString "EXACT_TOKEN_TYPES"]
noncomputable abbrev xtQ (s : Shared) : Bool := xlAt viewQ [] s && recOk (RowW.records (OpenRow.toRowW (OpenLaw.row PySem.Challenge.rw_ta0022_01))) s
theorem left_two {p q : Program} {loose : List Str} {Xt : Shared → Bool} {α : Type} {Yf : Shared → α} {Ya : World → α} {N : Nat} {g0 : Bool} (row : String)
    (hf : ∀ w : World, (openEnds treeTable p (w.withFollow row false) N).map (fun s => (openSeen q loose (importedModules p.main.body) Xt g0 s, Yf s)) = some (openGood q loose, Ya (w.withFollow row false)))
    (ht : ∀ w : World, (openEnds treeTable p (w.withFollow row true) N).map (fun s => (openSeen q loose (importedModules p.main.body) Xt g0 s, Yf s)) = some (openGood q loose, Ya (w.withFollow row true))) : LeftO p q loose Xt Yf Ya N g0 :=
  fun w => byRow2 row (P := fun w => (openEnds treeTable p w N).map (fun s => (openSeen q loose (importedModules p.main.body) Xt g0 s, Yf s)) = some (openGood q loose, Ya w)) hf ht w
noncomputable def fo (P : Params) (a : Nat) : Obj := ((frg.heap_1 P).lookup a).getD (Obj.mk Value.none none Data.plain #[])
noncomputable def H1 (P : Params) : Heap := Heap.mk #[(Obj.mk (Value.type "dict") (Option.none) (Data.dict #[(DictEntry.mk (PyData.keyHash P (Str.ofString "__name__")) (Value.str (Str.ofString "__name__") 1) (Value.str (Str.ofString "builtins") 160)), (DictEntry.mk (PyData.keyHash P (Str.ofString "__doc__")) (Value.str (Str.ofString "__doc__") 2) (Value.builtin "builtins.__doc__:str#opaque")), (DictEntry.mk (PyData.keyHash P (Str.ofString "__package__")) (Value.str (Str.ofString "__package__") 3) (Value.builtin "builtins.__package__:str#opaque")), (DictEntry.mk (PyData.keyHash P (Str.ofString "__loader__")) (Value.str (Str.ofString "__loader__") 4) (Value.builtin "builtins.__loader__:shared#opaque")), (DictEntry.mk (PyData.keyHash P (Str.ofString "__spec__")) (Value.str (Str.ofString "__spec__") 5) (Value.builtin "builtins.__spec__#opaque")), (DictEntry.mk (PyData.keyHash P (Str.ofString "__build_class__")) (Value.str (Str.ofString "__build_class__") 6) (Value.builtin "__build_class__")), (DictEntry.mk (PyData.keyHash P (Str.ofString "__import__")) (Value.str (Str.ofString "__import__") 7) (Value.builtin "__import__")), (DictEntry.mk (PyData.keyHash P (Str.ofString "abs")) (Value.str (Str.ofString "abs") 8) (Value.builtin "abs")), (DictEntry.mk (PyData.keyHash P (Str.ofString "all")) (Value.str (Str.ofString "all") 9) (Value.builtin "all")), (DictEntry.mk (PyData.keyHash P (Str.ofString "any")) (Value.str (Str.ofString "any") 10) (Value.builtin "any")), (DictEntry.mk (PyData.keyHash P (Str.ofString "ascii")) (Value.str (Str.ofString "ascii") 11) (Value.builtin "ascii")), (DictEntry.mk (PyData.keyHash P (Str.ofString "bin")) (Value.str (Str.ofString "bin") 12) (Value.builtin "bin")), (DictEntry.mk (PyData.keyHash P (Str.ofString "breakpoint")) (Value.str (Str.ofString "breakpoint") 13) (Value.builtin "breakpoint")), (DictEntry.mk (PyData.keyHash P (Str.ofString "callable")) (Value.str (Str.ofString "callable") 14) (Value.builtin "callable")), (DictEntry.mk (PyData.keyHash P (Str.ofString "chr")) (Value.str (Str.ofString "chr") 15) (Value.builtin "chr")), (DictEntry.mk (PyData.keyHash P (Str.ofString "compile")) (Value.str (Str.ofString "compile") 16) (Value.builtin "compile")), (DictEntry.mk (PyData.keyHash P (Str.ofString "delattr")) (Value.str (Str.ofString "delattr") 17) (Value.builtin "delattr")), (DictEntry.mk (PyData.keyHash P (Str.ofString "dir")) (Value.str (Str.ofString "dir") 18) (Value.builtin "dir")), (DictEntry.mk (PyData.keyHash P (Str.ofString "divmod")) (Value.str (Str.ofString "divmod") 19) (Value.builtin "divmod")), (DictEntry.mk (PyData.keyHash P (Str.ofString "eval")) (Value.str (Str.ofString "eval") 20) (Value.builtin "eval")), (DictEntry.mk (PyData.keyHash P (Str.ofString "exec")) (Value.str (Str.ofString "exec") 21) (Value.builtin "exec")), (DictEntry.mk (PyData.keyHash P (Str.ofString "format")) (Value.str (Str.ofString "format") 22) (Value.builtin "format")), (DictEntry.mk (PyData.keyHash P (Str.ofString "getattr")) (Value.str (Str.ofString "getattr") 23) (Value.builtin "getattr")), (DictEntry.mk (PyData.keyHash P (Str.ofString "globals")) (Value.str (Str.ofString "globals") 24) (Value.builtin "globals")), (DictEntry.mk (PyData.keyHash P (Str.ofString "hasattr")) (Value.str (Str.ofString "hasattr") 25) (Value.builtin "hasattr")), (DictEntry.mk (PyData.keyHash P (Str.ofString "hash")) (Value.str (Str.ofString "hash") 26) (Value.builtin "hash")), (DictEntry.mk (PyData.keyHash P (Str.ofString "hex")) (Value.str (Str.ofString "hex") 27) (Value.builtin "hex")), (DictEntry.mk (PyData.keyHash P (Str.ofString "id")) (Value.str (Str.ofString "id") 28) (Value.builtin "id")), (DictEntry.mk (PyData.keyHash P (Str.ofString "input")) (Value.str (Str.ofString "input") 29) (Value.builtin "input")), (DictEntry.mk (PyData.keyHash P (Str.ofString "isinstance")) (Value.str (Str.ofString "isinstance") 30) (Value.builtin "isinstance")), (DictEntry.mk (PyData.keyHash P (Str.ofString "issubclass")) (Value.str (Str.ofString "issubclass") 31) (Value.builtin "issubclass")), (DictEntry.mk (PyData.keyHash P (Str.ofString "iter")) (Value.str (Str.ofString "iter") 32) (Value.builtin "iter")), (DictEntry.mk (PyData.keyHash P (Str.ofString "aiter")) (Value.str (Str.ofString "aiter") 33) (Value.builtin "aiter")), (DictEntry.mk (PyData.keyHash P (Str.ofString "len")) (Value.str (Str.ofString "len") 34) (Value.builtin "len")), (DictEntry.mk (PyData.keyHash P (Str.ofString "locals")) (Value.str (Str.ofString "locals") 35) (Value.builtin "locals")), (DictEntry.mk (PyData.keyHash P (Str.ofString "max")) (Value.str (Str.ofString "max") 36) (Value.builtin "max")), (DictEntry.mk (PyData.keyHash P (Str.ofString "min")) (Value.str (Str.ofString "min") 37) (Value.builtin "min")), (DictEntry.mk (PyData.keyHash P (Str.ofString "next")) (Value.str (Str.ofString "next") 38) (Value.builtin "next")), (DictEntry.mk (PyData.keyHash P (Str.ofString "anext")) (Value.str (Str.ofString "anext") 39) (Value.builtin "anext")), (DictEntry.mk (PyData.keyHash P (Str.ofString "oct")) (Value.str (Str.ofString "oct") 40) (Value.builtin "oct")), (DictEntry.mk (PyData.keyHash P (Str.ofString "ord")) (Value.str (Str.ofString "ord") 41) (Value.builtin "ord")), (DictEntry.mk (PyData.keyHash P (Str.ofString "pow")) (Value.str (Str.ofString "pow") 42) (Value.builtin "pow")), (DictEntry.mk (PyData.keyHash P (Str.ofString "print")) (Value.str (Str.ofString "print") 43) (Value.builtin "print")), (DictEntry.mk (PyData.keyHash P (Str.ofString "repr")) (Value.str (Str.ofString "repr") 44) (Value.builtin "repr")), (DictEntry.mk (PyData.keyHash P (Str.ofString "round")) (Value.str (Str.ofString "round") 45) (Value.builtin "round")), (DictEntry.mk (PyData.keyHash P (Str.ofString "setattr")) (Value.str (Str.ofString "setattr") 46) (Value.builtin "setattr")), (DictEntry.mk (PyData.keyHash P (Str.ofString "sorted")) (Value.str (Str.ofString "sorted") 47) (Value.builtin "sorted")), (DictEntry.mk (PyData.keyHash P (Str.ofString "sum")) (Value.str (Str.ofString "sum") 48) (Value.builtin "sum")), (DictEntry.mk (PyData.keyHash P (Str.ofString "vars")) (Value.str (Str.ofString "vars") 49) (Value.builtin "vars")), (DictEntry.mk (PyData.keyHash P (Str.ofString "None")) (Value.str (Str.ofString "None") 50) Value.none), (DictEntry.mk (PyData.keyHash P (Str.ofString "Ellipsis")) (Value.str (Str.ofString "Ellipsis") 51) Value.ellipsis), (DictEntry.mk (PyData.keyHash P (Str.ofString "NotImplemented")) (Value.str (Str.ofString "NotImplemented") 52) Value.notImplemented), (DictEntry.mk (PyData.keyHash P (Str.ofString "False")) (Value.str (Str.ofString "False") 53) (Value.bool Bool.false)), (DictEntry.mk (PyData.keyHash P (Str.ofString "True")) (Value.str (Str.ofString "True") 54) (Value.bool Bool.true)), (DictEntry.mk (PyData.keyHash P (Str.ofString "bool")) (Value.str (Str.ofString "bool") 55) (Value.type "bool")), (DictEntry.mk (PyData.keyHash P (Str.ofString "memoryview")) (Value.str (Str.ofString "memoryview") 56) (Value.type "memoryview")), (DictEntry.mk (PyData.keyHash P (Str.ofString "bytearray")) (Value.str (Str.ofString "bytearray") 57) (Value.type "bytearray")), (DictEntry.mk (PyData.keyHash P (Str.ofString "bytes")) (Value.str (Str.ofString "bytes") 58) (Value.type "bytes")), (DictEntry.mk (PyData.keyHash P (Str.ofString "classmethod")) (Value.str (Str.ofString "classmethod") 59) (Value.type "classmethod")), (DictEntry.mk (PyData.keyHash P (Str.ofString "complex")) (Value.str (Str.ofString "complex") 60) (Value.type "complex")), (DictEntry.mk (PyData.keyHash P (Str.ofString "dict")) (Value.str (Str.ofString "dict") 61) (Value.type "dict")), (DictEntry.mk (PyData.keyHash P (Str.ofString "enumerate")) (Value.str (Str.ofString "enumerate") 62) (Value.type "enumerate")), (DictEntry.mk (PyData.keyHash P (Str.ofString "filter")) (Value.str (Str.ofString "filter") 63) (Value.type "filter")), (DictEntry.mk (PyData.keyHash P (Str.ofString "float")) (Value.str (Str.ofString "float") 64) (Value.type "float")), (DictEntry.mk (PyData.keyHash P (Str.ofString "frozenset")) (Value.str (Str.ofString "frozenset") 65) (Value.type "frozenset")), (DictEntry.mk (PyData.keyHash P (Str.ofString "property")) (Value.str (Str.ofString "property") 66) (Value.type "property")), (DictEntry.mk (PyData.keyHash P (Str.ofString "int")) (Value.str (Str.ofString "int") 67) (Value.type "int")), (DictEntry.mk (PyData.keyHash P (Str.ofString "list")) (Value.str (Str.ofString "list") 68) (Value.type "list")), (DictEntry.mk (PyData.keyHash P (Str.ofString "map")) (Value.str (Str.ofString "map") 69) (Value.type "map")), (DictEntry.mk (PyData.keyHash P (Str.ofString "object")) (Value.str (Str.ofString "object") 70) (Value.type "object")), (DictEntry.mk (PyData.keyHash P (Str.ofString "range")) (Value.str (Str.ofString "range") 71) (Value.type "range")), (DictEntry.mk (PyData.keyHash P (Str.ofString "reversed")) (Value.str (Str.ofString "reversed") 72) (Value.type "reversed")), (DictEntry.mk (PyData.keyHash P (Str.ofString "set")) (Value.str (Str.ofString "set") 73) (Value.type "set")), (DictEntry.mk (PyData.keyHash P (Str.ofString "slice")) (Value.str (Str.ofString "slice") 74) (Value.type "slice")), (DictEntry.mk (PyData.keyHash P (Str.ofString "staticmethod")) (Value.str (Str.ofString "staticmethod") 75) (Value.type "staticmethod")), (DictEntry.mk (PyData.keyHash P (Str.ofString "str")) (Value.str (Str.ofString "str") 76) (Value.type "str")), (DictEntry.mk (PyData.keyHash P (Str.ofString "super")) (Value.str (Str.ofString "super") 77) (Value.type "super")), (DictEntry.mk (PyData.keyHash P (Str.ofString "tuple")) (Value.str (Str.ofString "tuple") 78) (Value.type "tuple")), (DictEntry.mk (PyData.keyHash P (Str.ofString "type")) (Value.str (Str.ofString "type") 79) (Value.type "type")), (DictEntry.mk (PyData.keyHash P (Str.ofString "zip")) (Value.str (Str.ofString "zip") 80) (Value.type "zip")), (DictEntry.mk (PyData.keyHash P (Str.ofString "__debug__")) (Value.str (Str.ofString "__debug__") 81) (Value.bool Bool.true)), (DictEntry.mk (PyData.keyHash P (Str.ofString "BaseException")) (Value.str (Str.ofString "BaseException") 82) (Value.type "BaseException")), (DictEntry.mk (PyData.keyHash P (Str.ofString "BaseExceptionGroup")) (Value.str (Str.ofString "BaseExceptionGroup") 83) (Value.type "BaseExceptionGroup")), (DictEntry.mk (PyData.keyHash P (Str.ofString "Exception")) (Value.str (Str.ofString "Exception") 84) (Value.type "Exception")), (DictEntry.mk (PyData.keyHash P (Str.ofString "GeneratorExit")) (Value.str (Str.ofString "GeneratorExit") 85) (Value.type "GeneratorExit")), (DictEntry.mk (PyData.keyHash P (Str.ofString "KeyboardInterrupt")) (Value.str (Str.ofString "KeyboardInterrupt") 86) (Value.type "KeyboardInterrupt")), (DictEntry.mk (PyData.keyHash P (Str.ofString "SystemExit")) (Value.str (Str.ofString "SystemExit") 87) (Value.type "SystemExit")), (DictEntry.mk (PyData.keyHash P (Str.ofString "ArithmeticError")) (Value.str (Str.ofString "ArithmeticError") 88) (Value.type "ArithmeticError")), (DictEntry.mk (PyData.keyHash P (Str.ofString "AssertionError")) (Value.str (Str.ofString "AssertionError") 89) (Value.type "AssertionError")), (DictEntry.mk (PyData.keyHash P (Str.ofString "AttributeError")) (Value.str (Str.ofString "AttributeError") 90) (Value.type "AttributeError")), (DictEntry.mk (PyData.keyHash P (Str.ofString "BufferError")) (Value.str (Str.ofString "BufferError") 91) (Value.type "BufferError")), (DictEntry.mk (PyData.keyHash P (Str.ofString "EOFError")) (Value.str (Str.ofString "EOFError") 92) (Value.type "EOFError")), (DictEntry.mk (PyData.keyHash P (Str.ofString "ImportError")) (Value.str (Str.ofString "ImportError") 93) (Value.type "ImportError")), (DictEntry.mk (PyData.keyHash P (Str.ofString "LookupError")) (Value.str (Str.ofString "LookupError") 94) (Value.type "LookupError")), (DictEntry.mk (PyData.keyHash P (Str.ofString "MemoryError")) (Value.str (Str.ofString "MemoryError") 95) (Value.type "MemoryError")), (DictEntry.mk (PyData.keyHash P (Str.ofString "NameError")) (Value.str (Str.ofString "NameError") 96) (Value.type "NameError")), (DictEntry.mk (PyData.keyHash P (Str.ofString "OSError")) (Value.str (Str.ofString "OSError") 97) (Value.type "OSError")), (DictEntry.mk (PyData.keyHash P (Str.ofString "ReferenceError")) (Value.str (Str.ofString "ReferenceError") 98) (Value.type "ReferenceError")), (DictEntry.mk (PyData.keyHash P (Str.ofString "RuntimeError")) (Value.str (Str.ofString "RuntimeError") 99) (Value.type "RuntimeError")), (DictEntry.mk (PyData.keyHash P (Str.ofString "StopAsyncIteration")) (Value.str (Str.ofString "StopAsyncIteration") 100) (Value.type "StopAsyncIteration")), (DictEntry.mk (PyData.keyHash P (Str.ofString "StopIteration")) (Value.str (Str.ofString "StopIteration") 101) (Value.type "StopIteration")), (DictEntry.mk (PyData.keyHash P (Str.ofString "SyntaxError")) (Value.str (Str.ofString "SyntaxError") 102) (Value.type "SyntaxError")), (DictEntry.mk (PyData.keyHash P (Str.ofString "SystemError")) (Value.str (Str.ofString "SystemError") 103) (Value.type "SystemError")), (DictEntry.mk (PyData.keyHash P (Str.ofString "TypeError")) (Value.str (Str.ofString "TypeError") 104) (Value.type "TypeError")), (DictEntry.mk (PyData.keyHash P (Str.ofString "ValueError")) (Value.str (Str.ofString "ValueError") 105) (Value.type "ValueError")), (DictEntry.mk (PyData.keyHash P (Str.ofString "Warning")) (Value.str (Str.ofString "Warning") 106) (Value.type "Warning")), (DictEntry.mk (PyData.keyHash P (Str.ofString "FloatingPointError")) (Value.str (Str.ofString "FloatingPointError") 107) (Value.type "FloatingPointError")), (DictEntry.mk (PyData.keyHash P (Str.ofString "OverflowError")) (Value.str (Str.ofString "OverflowError") 108) (Value.type "OverflowError")), (DictEntry.mk (PyData.keyHash P (Str.ofString "ZeroDivisionError")) (Value.str (Str.ofString "ZeroDivisionError") 109) (Value.type "ZeroDivisionError")), (DictEntry.mk (PyData.keyHash P (Str.ofString "BytesWarning")) (Value.str (Str.ofString "BytesWarning") 110) (Value.type "BytesWarning")), (DictEntry.mk (PyData.keyHash P (Str.ofString "DeprecationWarning")) (Value.str (Str.ofString "DeprecationWarning") 111) (Value.type "DeprecationWarning")), (DictEntry.mk (PyData.keyHash P (Str.ofString "EncodingWarning")) (Value.str (Str.ofString "EncodingWarning") 112) (Value.type "EncodingWarning")), (DictEntry.mk (PyData.keyHash P (Str.ofString "FutureWarning")) (Value.str (Str.ofString "FutureWarning") 113) (Value.type "FutureWarning")), (DictEntry.mk (PyData.keyHash P (Str.ofString "ImportWarning")) (Value.str (Str.ofString "ImportWarning") 114) (Value.type "ImportWarning")), (DictEntry.mk (PyData.keyHash P (Str.ofString "PendingDeprecationWarning")) (Value.str (Str.ofString "PendingDeprecationWarning") 115) (Value.type "PendingDeprecationWarning")), (DictEntry.mk (PyData.keyHash P (Str.ofString "ResourceWarning")) (Value.str (Str.ofString "ResourceWarning") 116) (Value.type "ResourceWarning")), (DictEntry.mk (PyData.keyHash P (Str.ofString "RuntimeWarning")) (Value.str (Str.ofString "RuntimeWarning") 117) (Value.type "RuntimeWarning")), (DictEntry.mk (PyData.keyHash P (Str.ofString "SyntaxWarning")) (Value.str (Str.ofString "SyntaxWarning") 118) (Value.type "SyntaxWarning")), (DictEntry.mk (PyData.keyHash P (Str.ofString "UnicodeWarning")) (Value.str (Str.ofString "UnicodeWarning") 119) (Value.type "UnicodeWarning")), (DictEntry.mk (PyData.keyHash P (Str.ofString "UserWarning")) (Value.str (Str.ofString "UserWarning") 120) (Value.type "UserWarning")), (DictEntry.mk (PyData.keyHash P (Str.ofString "BlockingIOError")) (Value.str (Str.ofString "BlockingIOError") 121) (Value.type "BlockingIOError")), (DictEntry.mk (PyData.keyHash P (Str.ofString "ChildProcessError")) (Value.str (Str.ofString "ChildProcessError") 122) (Value.type "ChildProcessError")), (DictEntry.mk (PyData.keyHash P (Str.ofString "ConnectionError")) (Value.str (Str.ofString "ConnectionError") 123) (Value.type "ConnectionError")), (DictEntry.mk (PyData.keyHash P (Str.ofString "FileExistsError")) (Value.str (Str.ofString "FileExistsError") 124) (Value.type "FileExistsError")), (DictEntry.mk (PyData.keyHash P (Str.ofString "FileNotFoundError")) (Value.str (Str.ofString "FileNotFoundError") 125) (Value.type "FileNotFoundError")), (DictEntry.mk (PyData.keyHash P (Str.ofString "InterruptedError")) (Value.str (Str.ofString "InterruptedError") 126) (Value.type "InterruptedError")), (DictEntry.mk (PyData.keyHash P (Str.ofString "IsADirectoryError")) (Value.str (Str.ofString "IsADirectoryError") 127) (Value.type "IsADirectoryError")), (DictEntry.mk (PyData.keyHash P (Str.ofString "NotADirectoryError")) (Value.str (Str.ofString "NotADirectoryError") 128) (Value.type "NotADirectoryError")), (DictEntry.mk (PyData.keyHash P (Str.ofString "PermissionError")) (Value.str (Str.ofString "PermissionError") 129) (Value.type "PermissionError")), (DictEntry.mk (PyData.keyHash P (Str.ofString "ProcessLookupError")) (Value.str (Str.ofString "ProcessLookupError") 130) (Value.type "ProcessLookupError")), (DictEntry.mk (PyData.keyHash P (Str.ofString "TimeoutError")) (Value.str (Str.ofString "TimeoutError") 131) (Value.type "TimeoutError")), (DictEntry.mk (PyData.keyHash P (Str.ofString "IndentationError")) (Value.str (Str.ofString "IndentationError") 132) (Value.type "IndentationError")), (DictEntry.mk (PyData.keyHash P (Str.ofString "_IncompleteInputError")) (Value.str (Str.ofString "_IncompleteInputError") 133) (Value.type "_IncompleteInputError")), (DictEntry.mk (PyData.keyHash P (Str.ofString "IndexError")) (Value.str (Str.ofString "IndexError") 134) (Value.type "IndexError")), (DictEntry.mk (PyData.keyHash P (Str.ofString "KeyError")) (Value.str (Str.ofString "KeyError") 135) (Value.type "KeyError")), (DictEntry.mk (PyData.keyHash P (Str.ofString "ModuleNotFoundError")) (Value.str (Str.ofString "ModuleNotFoundError") 136) (Value.type "ModuleNotFoundError")), (DictEntry.mk (PyData.keyHash P (Str.ofString "NotImplementedError")) (Value.str (Str.ofString "NotImplementedError") 137) (Value.type "NotImplementedError")), (DictEntry.mk (PyData.keyHash P (Str.ofString "PythonFinalizationError")) (Value.str (Str.ofString "PythonFinalizationError") 138) (Value.type "PythonFinalizationError")), (DictEntry.mk (PyData.keyHash P (Str.ofString "RecursionError")) (Value.str (Str.ofString "RecursionError") 139) (Value.type "RecursionError")), (DictEntry.mk (PyData.keyHash P (Str.ofString "UnboundLocalError")) (Value.str (Str.ofString "UnboundLocalError") 140) (Value.type "UnboundLocalError")), (DictEntry.mk (PyData.keyHash P (Str.ofString "UnicodeError")) (Value.str (Str.ofString "UnicodeError") 141) (Value.type "UnicodeError")), (DictEntry.mk (PyData.keyHash P (Str.ofString "BrokenPipeError")) (Value.str (Str.ofString "BrokenPipeError") 142) (Value.type "BrokenPipeError")), (DictEntry.mk (PyData.keyHash P (Str.ofString "ConnectionAbortedError")) (Value.str (Str.ofString "ConnectionAbortedError") 143) (Value.type "ConnectionAbortedError")), (DictEntry.mk (PyData.keyHash P (Str.ofString "ConnectionRefusedError")) (Value.str (Str.ofString "ConnectionRefusedError") 144) (Value.type "ConnectionRefusedError")), (DictEntry.mk (PyData.keyHash P (Str.ofString "ConnectionResetError")) (Value.str (Str.ofString "ConnectionResetError") 145) (Value.type "ConnectionResetError")), (DictEntry.mk (PyData.keyHash P (Str.ofString "TabError")) (Value.str (Str.ofString "TabError") 146) (Value.type "TabError")), (DictEntry.mk (PyData.keyHash P (Str.ofString "UnicodeDecodeError")) (Value.str (Str.ofString "UnicodeDecodeError") 147) (Value.type "UnicodeDecodeError")), (DictEntry.mk (PyData.keyHash P (Str.ofString "UnicodeEncodeError")) (Value.str (Str.ofString "UnicodeEncodeError") 148) (Value.type "UnicodeEncodeError")), (DictEntry.mk (PyData.keyHash P (Str.ofString "UnicodeTranslateError")) (Value.str (Str.ofString "UnicodeTranslateError") 149) (Value.type "UnicodeTranslateError")), (DictEntry.mk (PyData.keyHash P (Str.ofString "ExceptionGroup")) (Value.str (Str.ofString "ExceptionGroup") 150) (Value.type "ExceptionGroup")), (DictEntry.mk (PyData.keyHash P (Str.ofString "EnvironmentError")) (Value.str (Str.ofString "EnvironmentError") 151) (Value.type "OSError")), (DictEntry.mk (PyData.keyHash P (Str.ofString "IOError")) (Value.str (Str.ofString "IOError") 152) (Value.type "OSError")), (DictEntry.mk (PyData.keyHash P (Str.ofString "open")) (Value.str (Str.ofString "open") 153) (Value.builtin "open")), (DictEntry.mk (PyData.keyHash P (Str.ofString "quit")) (Value.str (Str.ofString "quit") 154) (Value.builtin "builtins.quit#opaque")), (DictEntry.mk (PyData.keyHash P (Str.ofString "exit")) (Value.str (Str.ofString "exit") 155) (Value.builtin "builtins.exit#opaque")), (DictEntry.mk (PyData.keyHash P (Str.ofString "copyright")) (Value.str (Str.ofString "copyright") 156) (Value.builtin "builtins.copyright#opaque")), (DictEntry.mk (PyData.keyHash P (Str.ofString "credits")) (Value.str (Str.ofString "credits") 157) (Value.builtin "builtins.credits#opaque")), (DictEntry.mk (PyData.keyHash P (Str.ofString "license")) (Value.str (Str.ofString "license") 158) (Value.builtin "builtins.license#opaque")), (DictEntry.mk (PyData.keyHash P (Str.ofString "help")) (Value.str (Str.ofString "help") 159) (Value.builtin "builtins.help#opaque"))] 159) #[]),
  (Obj.mk (Value.type "dict") (Option.none) (Data.dict #[(DictEntry.mk (PyData.keyHash P (Str.ofString "builtins")) (Value.str (Str.ofString "builtins") 162) (Value.ref 4)), (DictEntry.mk (PyData.keyHash P (Str.ofString "__main__")) (Value.str (Str.ofString "__main__") 163) (Value.ref 5))] 2) #[]),
  fo P 2,
  fo P 3,
  (Obj.mk (Value.type "module") (Option.some 0) Data.plain #[]),
  (Obj.mk (Value.type "module") (Option.some 3) Data.plain #[]),
  (Obj.mk (Value.type "dict") (Option.none) (Data.dict #[] 0) #[]),
  (Obj.mk (Value.type "tuple") (Option.none) (Data.seq #[] 0) #[]),
  (Obj.mk Value.none (Option.none) (Data.fields #[]) #[]),
  (Obj.mk (Value.type "code") (Option.none) (Data.fields #[(Value.str (Str.ofString "<module>") 176), (Value.str (Str.ofString "<module>") 177), (Value.str (Str.ofString "/claim/cut.py") 178), (Value.int 1 0), (Value.int 0 0), (Value.int 0 0), (Value.int 0 0), (Value.int 0 0), (Value.ref 7), (Value.bool Bool.false), (Value.int 175 0), (Value.ref 8), Value.none, Value.none, Value.none, Value.none, (Value.int 179 0), (Value.int 1 0), (Value.str (Str.ofString "/claim/cut.py") 180)]) #[]),
  (Obj.mk (Value.type "frame") (Option.none) Data.plain #[(Option.some (Value.ref 9)), (Option.some (Value.ref 3)), (Option.some (Value.ref 3)), (Option.none), (Option.some (Value.str (Str.ofString "__main__") 164)), (Option.none), (Option.some (Value.ref 0))]),
  (Obj.mk (Value.type "tuple") (Option.none) (Data.seq #[] 0) #[]),
  (Obj.mk Value.none (Option.none) (Data.fields #[(Value.int 2 0), (Value.int 0 0), (Value.ref 20), (Value.int 46 0), (Value.int 0 0), (Value.ref 62), (Value.int 106 0), (Value.int 0 0), (Value.ref 72), (Value.int 108 0), (Value.int 0 0), (Value.ref 79), (Value.int 111 0), (Value.int 0 0), (Value.ref 86), (Value.int 120 0), (Value.int 0 0), (Value.ref 91), (Value.int 122 0), (Value.int 0 0), (Value.ref 98), (Value.int 129 0), (Value.int 0 0), (Value.ref 103), (Value.int 137 0), (Value.int 0 0), (Value.ref 110), (Value.int 139 0), (Value.int 0 0), (Value.ref 115), (Value.int 146 0), (Value.int 0 0), (Value.ref 122), (Value.int 159 0), (Value.int 0 0), (Value.ref 129), (Value.int 166 0), (Value.int 0 0), (Value.ref 134), (Value.int 173 0), (Value.int 0 0), (Value.ref 141), (Value.int 184 0), (Value.int 0 0), (Value.ref 146)]) #[]),
  (Obj.mk (Value.type "code") (Option.none) (Data.fields #[(Value.str (Str.ofString "<module>") 182), (Value.str (Str.ofString "<module>") 183), (Value.str (Str.ofString "/claim/cut.py") 184), (Value.int 1 0), (Value.int 0 0), (Value.int 0 0), (Value.int 0 0), (Value.int 0 0), (Value.ref 11), (Value.bool Bool.false), (Value.int 181 0), (Value.ref 12), Value.none, Value.none, Value.none, Value.none, (Value.int 185 0), (Value.int 1 0), (Value.str (Str.ofString "/claim/cut.py") 186)]) #[]),
  (Obj.mk (Value.type "frame") (Option.none) Data.plain #[(Option.some (Value.ref 13)), (Option.some (Value.ref 3)), (Option.some (Value.ref 3)), (Option.none), (Option.some (Value.str (Str.ofString "__main__") 164)), (Option.none), (Option.some (Value.ref 0))]),
  (Obj.mk (Value.type "tuple") (Option.none) (Data.seq #[] 0) #[]),
  (Obj.mk (Value.type "builtin_function_or_method") (Option.none) (Data.fields #[(Value.builtin "type.__prepare__"), (Value.type "type")]) #[]),
  (Obj.mk (Value.type "dict") (Option.none) (Data.dict #[(DictEntry.mk (PyData.keyHash P (Str.ofString "__module__")) (Value.str (Str.ofString "__module__") 196) (Value.str (Str.ofString "cpy313.netrc") 187)), (DictEntry.mk (PyData.keyHash P (Str.ofString "__qualname__")) (Value.str (Str.ofString "__qualname__") 198) (Value.str (Str.ofString "_netrclex") 197)), (DictEntry.mk (PyData.keyHash P (Str.ofString "__firstlineno__")) (Value.str (Str.ofString "__firstlineno__") 200) (Value.int 2 199)), (DictEntry.mk (PyData.keyHash P (Str.ofString "__init__")) (Value.str (Str.ofString "__init__") 208) (Value.ref 28)), (DictEntry.mk (PyData.keyHash P (Str.ofString "_read_char")) (Value.str (Str.ofString "_read_char") 216) (Value.ref 35)), (DictEntry.mk (PyData.keyHash P (Str.ofString "get_token")) (Value.str (Str.ofString "get_token") 226) (Value.ref 42)), (DictEntry.mk (PyData.keyHash P (Str.ofString "push_token")) (Value.str (Str.ofString "push_token") 234) (Value.ref 49)), (DictEntry.mk (PyData.keyHash P (Str.ofString "__static_attributes__")) (Value.str (Str.ofString "__static_attributes__") 239) (Value.ref 50))] 8) #[]),
  (Obj.mk (Value.type "tuple") (Option.none) (Data.seq #[] 0) #[]),
  (Obj.mk Value.none (Option.none) (Data.fields #[(Value.int 4 0), (Value.int 4 0), (Value.ref 27), (Value.int 10 0), (Value.int 4 0), (Value.ref 34), (Value.int 16 0), (Value.int 4 0), (Value.ref 41), (Value.int 43 0), (Value.int 4 0), (Value.ref 48)]) #[]),
  (Obj.mk (Value.type "code") (Option.none) (Data.fields #[(Value.str (Str.ofString "_netrclex") 191), (Value.str (Str.ofString "_netrclex") 192), (Value.str (Str.ofString "/claim/cut.py") 193), (Value.int 2 0), (Value.int 0 0), (Value.int 0 0), (Value.int 0 0), (Value.int 0 0), (Value.ref 18), (Value.bool Bool.false), (Value.int 181 0), (Value.ref 19), Value.none, Value.none, Value.none, Value.none, (Value.int 194 0), (Value.int 2 0), (Value.str (Str.ofString "/claim/cut.py") 195)]) #[]),
  (Obj.mk (Value.type "frame") (Option.none) Data.plain #[(Option.some (Value.ref 20)), (Option.some (Value.ref 3)), (Option.some (Value.ref 17)), (Option.none), (Option.some (Value.str (Str.ofString "cpy313.netrc") 187)), (Option.none), (Option.some (Value.ref 0))]),
  fo P 22,
  (Obj.mk Value.none (Option.none) (Data.fields #[]) #[]),
  fo P 24,
  fo P 25,
  (Obj.mk Value.none (Option.none) (Data.func (FuncData.mk (Str.ofString "__init__") (Str.ofString "_netrclex.__init__") (Arguments.mk [] [(Arg.mk (Str.ofString "self") (Option.none) (Pos.mk 4 17 4 21)), (Arg.mk (Str.ofString "fp") (Option.none) (Pos.mk 4 23 4 25))] (Option.none) [] [] (Option.none) []) (FuncBody.stmts [(Stmt.Assign [(Expr.Attribute (Expr.Name (Str.ofString "self") (Pos.mk 5 8 5 12)) (Str.ofString "lineno") (Pos.mk 5 8 5 19))] (Expr.Constant (Const.int 1) 0 (Pos.mk 5 22 5 23)) (Pos.mk 5 8 5 23)), (Stmt.Assign [(Expr.Attribute (Expr.Name (Str.ofString "self") (Pos.mk 6 8 6 12)) (Str.ofString "instream") (Pos.mk 6 8 6 21))] (Expr.Name (Str.ofString "fp") (Pos.mk 6 24 6 26)) (Pos.mk 6 8 6 26)), (Stmt.Assign [(Expr.Attribute (Expr.Name (Str.ofString "self") (Pos.mk 7 8 7 12)) (Str.ofString "whitespace") (Pos.mk 7 8 7 23))] (Expr.Constant (Const.str (Str.ofString "\n\t\x0d ")) 0 (Pos.mk 7 26 7 35)) (Pos.mk 7 8 7 35)), (Stmt.Assign [(Expr.Attribute (Expr.Name (Str.ofString "self") (Pos.mk 8 8 8 12)) (Str.ofString "pushback") (Pos.mk 8 8 8 21))] (Expr.List [] (Pos.mk 8 24 8 26)) (Pos.mk 8 8 8 26))]) (Scope.mk ScopeKind.function [(Prod.mk (Str.ofString "self") NameKind.local), (Prod.mk (Str.ofString "fp") NameKind.local)] Bool.false Bool.false []) 0 [] Value.none Value.none Value.none Value.none (Option.none) Value.none Value.none 0)) #[]),
  fo P 27,
  fo P 28,
  fo P 29,
  (Obj.mk Value.none (Option.none) (Data.fields #[]) #[]),
  fo P 31,
  fo P 32,
  (Obj.mk Value.none (Option.none) (Data.func (FuncData.mk (Str.ofString "_read_char") (Str.ofString "_netrclex._read_char") (Arguments.mk [] [(Arg.mk (Str.ofString "self") (Option.none) (Pos.mk 10 19 10 23))] (Option.none) [] [] (Option.none) []) (FuncBody.stmts [(Stmt.Assign [(Expr.Name (Str.ofString "ch") (Pos.mk 11 8 11 10))] (Expr.Call (Expr.Attribute (Expr.Attribute (Expr.Name (Str.ofString "self") (Pos.mk 11 13 11 17)) (Str.ofString "instream") (Pos.mk 11 13 11 26)) (Str.ofString "read") (Pos.mk 11 13 11 31)) [(Expr.Constant (Const.int 1) 0 (Pos.mk 11 32 11 33))] [] (Pos.mk 11 13 11 34)) (Pos.mk 11 8 11 34)), (Stmt.If (Expr.Compare (Expr.Name (Str.ofString "ch") (Pos.mk 12 11 12 13)) [CmpOp.Eq] [(Expr.Constant (Const.str (Str.ofString "\n")) 0 (Pos.mk 12 17 12 21))] (Pos.mk 12 11 12 21)) [(Stmt.AugAssign (Expr.Attribute (Expr.Name (Str.ofString "self") (Pos.mk 13 12 13 16)) (Str.ofString "lineno") (Pos.mk 13 12 13 23)) Operator.Add (Expr.Constant (Const.int 1) 0 (Pos.mk 13 27 13 28)) (Pos.mk 13 12 13 28))] [] (Pos.mk 12 8 13 28)), (Stmt.Return (Option.some (Expr.Name (Str.ofString "ch") (Pos.mk 14 15 14 17))) (Pos.mk 14 8 14 17))]) (Scope.mk ScopeKind.function [(Prod.mk (Str.ofString "self") NameKind.local), (Prod.mk (Str.ofString "ch") NameKind.local)] Bool.false Bool.false []) 0 [] Value.none Value.none Value.none Value.none (Option.none) Value.none Value.none 0)) #[]),
  fo P 34,
  fo P 35,
  fo P 36,
  (Obj.mk Value.none (Option.none) (Data.fields #[]) #[]),
  fo P 38,
  fo P 39,
  (Obj.mk Value.none (Option.none) (Data.func (FuncData.mk (Str.ofString "get_token") (Str.ofString "_netrclex.get_token") (Arguments.mk [] [(Arg.mk (Str.ofString "self") (Option.none) (Pos.mk 16 18 16 22))] (Option.none) [] [] (Option.none) []) (FuncBody.stmts [(Stmt.If (Expr.Attribute (Expr.Name (Str.ofString "self") (Pos.mk 17 11 17 15)) (Str.ofString "pushback") (Pos.mk 17 11 17 24)) [(Stmt.Return (Option.some (Expr.Call (Expr.Attribute (Expr.Attribute (Expr.Name (Str.ofString "self") (Pos.mk 18 19 18 23)) (Str.ofString "pushback") (Pos.mk 18 19 18 32)) (Str.ofString "pop") (Pos.mk 18 19 18 36)) [(Expr.Constant (Const.int 0) 0 (Pos.mk 18 37 18 38))] [] (Pos.mk 18 19 18 39))) (Pos.mk 18 12 18 39))] [] (Pos.mk 17 8 18 39)), (Stmt.Assign [(Expr.Name (Str.ofString "token") (Pos.mk 19 8 19 13))] (Expr.Constant (Const.str (Str.ofString "")) 0 (Pos.mk 19 16 19 18)) (Pos.mk 19 8 19 18)), (Stmt.Assign [(Expr.Name (Str.ofString "fiter") (Pos.mk 20 8 20 13))] (Expr.Call (Expr.Name (Str.ofString "iter") (Pos.mk 20 16 20 20)) [(Expr.Attribute (Expr.Name (Str.ofString "self") (Pos.mk 20 21 20 25)) (Str.ofString "_read_char") (Pos.mk 20 21 20 36)), (Expr.Constant (Const.str (Str.ofString "")) 0 (Pos.mk 20 38 20 40))] [] (Pos.mk 20 16 20 41)) (Pos.mk 20 8 20 41)), (Stmt.For (Expr.Name (Str.ofString "ch") (Pos.mk 21 12 21 14)) (Expr.Name (Str.ofString "fiter") (Pos.mk 21 18 21 23)) [(Stmt.If (Expr.Compare (Expr.Name (Str.ofString "ch") (Pos.mk 22 15 22 17)) [CmpOp.In] [(Expr.Attribute (Expr.Name (Str.ofString "self") (Pos.mk 22 21 22 25)) (Str.ofString "whitespace") (Pos.mk 22 21 22 36))] (Pos.mk 22 15 22 36)) [(Stmt.Continue (Pos.mk 23 16 23 24))] [] (Pos.mk 22 12 23 24)), (Stmt.If (Expr.Compare (Expr.Name (Str.ofString "ch") (Pos.mk 24 15 24 17)) [CmpOp.Eq] [(Expr.Constant (Const.str (Str.ofString "\"")) 0 (Pos.mk 24 21 24 24))] (Pos.mk 24 15 24 24)) [(Stmt.For (Expr.Name (Str.ofString "ch") (Pos.mk 25 20 25 22)) (Expr.Name (Str.ofString "fiter") (Pos.mk 25 26 25 31)) [(Stmt.If (Expr.Compare (Expr.Name (Str.ofString "ch") (Pos.mk 26 23 26 25)) [CmpOp.Eq] [(Expr.Constant (Const.str (Str.ofString "\"")) 0 (Pos.mk 26 29 26 32))] (Pos.mk 26 23 26 32)) [(Stmt.Return (Option.some (Expr.Name (Str.ofString "token") (Pos.mk 27 31 27 36))) (Pos.mk 27 24 27 36))] [(Stmt.If (Expr.Compare (Expr.Name (Str.ofString "ch") (Pos.mk 28 25 28 27)) [CmpOp.Eq] [(Expr.Constant (Const.str (Str.ofString "\\")) 0 (Pos.mk 28 31 28 35))] (Pos.mk 28 25 28 35)) [(Stmt.Assign [(Expr.Name (Str.ofString "ch") (Pos.mk 29 24 29 26))] (Expr.Call (Expr.Attribute (Expr.Name (Str.ofString "self") (Pos.mk 29 29 29 33)) (Str.ofString "_read_char") (Pos.mk 29 29 29 44)) [] [] (Pos.mk 29 29 29 46)) (Pos.mk 29 24 29 46))] [] (Pos.mk 28 20 29 46))] (Pos.mk 26 20 29 46)), (Stmt.AugAssign (Expr.Name (Str.ofString "token") (Pos.mk 30 20 30 25)) Operator.Add (Expr.Name (Str.ofString "ch") (Pos.mk 30 29 30 31)) (Pos.mk 30 20 30 31))] [] (Pos.mk 25 16 30 31))] [(Stmt.If (Expr.Compare (Expr.Name (Str.ofString "ch") (Pos.mk 32 19 32 21)) [CmpOp.Eq] [(Expr.Constant (Const.str (Str.ofString "\\")) 0 (Pos.mk 32 25 32 29))] (Pos.mk 32 19 32 29)) [(Stmt.Assign [(Expr.Name (Str.ofString "ch") (Pos.mk 33 20 33 22))] (Expr.Call (Expr.Attribute (Expr.Name (Str.ofString "self") (Pos.mk 33 25 33 29)) (Str.ofString "_read_char") (Pos.mk 33 25 33 40)) [] [] (Pos.mk 33 25 33 42)) (Pos.mk 33 20 33 42))] [] (Pos.mk 32 16 33 42)), (Stmt.AugAssign (Expr.Name (Str.ofString "token") (Pos.mk 34 16 34 21)) Operator.Add (Expr.Name (Str.ofString "ch") (Pos.mk 34 25 34 27)) (Pos.mk 34 16 34 27)), (Stmt.For (Expr.Name (Str.ofString "ch") (Pos.mk 35 20 35 22)) (Expr.Name (Str.ofString "fiter") (Pos.mk 35 26 35 31)) [(Stmt.If (Expr.Compare (Expr.Name (Str.ofString "ch") (Pos.mk 36 23 36 25)) [CmpOp.In] [(Expr.Attribute (Expr.Name (Str.ofString "self") (Pos.mk 36 29 36 33)) (Str.ofString "whitespace") (Pos.mk 36 29 36 44))] (Pos.mk 36 23 36 44)) [(Stmt.Return (Option.some (Expr.Name (Str.ofString "token") (Pos.mk 37 31 37 36))) (Pos.mk 37 24 37 36))] [(Stmt.If (Expr.Compare (Expr.Name (Str.ofString "ch") (Pos.mk 38 25 38 27)) [CmpOp.Eq] [(Expr.Constant (Const.str (Str.ofString "\\")) 0 (Pos.mk 38 31 38 35))] (Pos.mk 38 25 38 35)) [(Stmt.Assign [(Expr.Name (Str.ofString "ch") (Pos.mk 39 24 39 26))] (Expr.Call (Expr.Attribute (Expr.Name (Str.ofString "self") (Pos.mk 39 29 39 33)) (Str.ofString "_read_char") (Pos.mk 39 29 39 44)) [] [] (Pos.mk 39 29 39 46)) (Pos.mk 39 24 39 46))] [] (Pos.mk 38 20 39 46))] (Pos.mk 36 20 39 46)), (Stmt.AugAssign (Expr.Name (Str.ofString "token") (Pos.mk 40 20 40 25)) Operator.Add (Expr.Name (Str.ofString "ch") (Pos.mk 40 29 40 31)) (Pos.mk 40 20 40 31))] [] (Pos.mk 35 16 40 31))] (Pos.mk 24 12 40 31))] [] (Pos.mk 21 8 40 31)), (Stmt.Return (Option.some (Expr.Name (Str.ofString "token") (Pos.mk 41 15 41 20))) (Pos.mk 41 8 41 20))]) (Scope.mk ScopeKind.function [(Prod.mk (Str.ofString "self") NameKind.local), (Prod.mk (Str.ofString "token") NameKind.local), (Prod.mk (Str.ofString "fiter") NameKind.local), (Prod.mk (Str.ofString "ch") NameKind.local), (Prod.mk (Str.ofString "iter") NameKind.globalImplicit)] Bool.false Bool.false []) 0 [] Value.none Value.none Value.none Value.none (Option.none) Value.none Value.none 0)) #[]),
  fo P 41,
  fo P 42,
  fo P 43,
  (Obj.mk Value.none (Option.none) (Data.fields #[]) #[]),
  fo P 45,
  fo P 46,
  (Obj.mk Value.none (Option.none) (Data.func (FuncData.mk (Str.ofString "push_token") (Str.ofString "_netrclex.push_token") (Arguments.mk [] [(Arg.mk (Str.ofString "self") (Option.none) (Pos.mk 43 19 43 23)), (Arg.mk (Str.ofString "token") (Option.none) (Pos.mk 43 25 43 30))] (Option.none) [] [] (Option.none) []) (FuncBody.stmts [(Stmt.Expr (Expr.Call (Expr.Attribute (Expr.Attribute (Expr.Name (Str.ofString "self") (Pos.mk 44 8 44 12)) (Str.ofString "pushback") (Pos.mk 44 8 44 21)) (Str.ofString "append") (Pos.mk 44 8 44 28)) [(Expr.Name (Str.ofString "token") (Pos.mk 44 29 44 34))] [] (Pos.mk 44 8 44 35)) (Pos.mk 44 8 44 35))]) (Scope.mk ScopeKind.function [(Prod.mk (Str.ofString "self") NameKind.local), (Prod.mk (Str.ofString "token") NameKind.local)] Bool.false Bool.false []) 0 [] Value.none Value.none Value.none Value.none (Option.none) Value.none Value.none 0)) #[]),
  fo P 48,
  fo P 49,
  fo P 50,
  fo P 51,
  fo P 52,
  fo P 53,
  fo P 54,
  (Obj.mk (Value.type "super") (Option.none) (Data.fields #[(Value.ref 52), (Value.ref 52), (Value.ref 52)]) #[]),
  (Obj.mk (Value.type "builtin_function_or_method") (Option.none) (Data.fields #[(Value.builtin "object.__init_subclass__"), (Value.ref 52)]) #[]),
  fo P 57,
  (Obj.mk Value.none (Option.none) (Data.fields #[]) #[]),
  fo P 59,
  fo P 60,
  (Obj.mk Value.none (Option.none) (Data.func (FuncData.mk (Str.ofString "Int2AP") (Str.ofString "Int2AP") (Arguments.mk [] [(Arg.mk (Str.ofString "num") (Option.none) (Pos.mk 46 11 46 14))] (Option.none) [] [] (Option.none) []) (FuncBody.stmts [(Stmt.Assign [(Expr.Name (Str.ofString "val") (Pos.mk 47 4 47 7))] (Expr.Constant (Const.bytes []) 0 (Pos.mk 47 10 47 13)) (Pos.mk 47 4 47 13)), (Stmt.Assign [(Expr.Name (Str.ofString "AP") (Pos.mk 48 4 48 6))] (Expr.Constant (Const.bytes [65, 66, 67, 68, 69, 70, 71, 72, 73, 74, 75, 76, 77, 78, 79, 80]) 0 (Pos.mk 48 9 48 28)) (Pos.mk 48 4 48 28)), (Stmt.Assign [(Expr.Name (Str.ofString "num") (Pos.mk 49 4 49 7))] (Expr.Call (Expr.Name (Str.ofString "int") (Pos.mk 49 10 49 13)) [(Expr.Call (Expr.Name (Str.ofString "abs") (Pos.mk 49 14 49 17)) [(Expr.Name (Str.ofString "num") (Pos.mk 49 18 49 21))] [] (Pos.mk 49 14 49 22))] [] (Pos.mk 49 10 49 23)) (Pos.mk 49 4 49 23)), (Stmt.While (Expr.Name (Str.ofString "num") (Pos.mk 50 10 50 13)) [(Stmt.Assign [(Expr.Tuple [(Expr.Name (Str.ofString "num") (Pos.mk 51 8 51 11)), (Expr.Name (Str.ofString "mod") (Pos.mk 51 13 51 16))] 0 (Pos.mk 51 8 51 16))] (Expr.Call (Expr.Name (Str.ofString "divmod") (Pos.mk 51 19 51 25)) [(Expr.Name (Str.ofString "num") (Pos.mk 51 26 51 29)), (Expr.Constant (Const.int 16) 0 (Pos.mk 51 31 51 33))] [] (Pos.mk 51 19 51 34)) (Pos.mk 51 8 51 34)), (Stmt.Assign [(Expr.Name (Str.ofString "val") (Pos.mk 52 8 52 11))] (Expr.BinOp (Expr.Subscript (Expr.Name (Str.ofString "AP") (Pos.mk 52 14 52 16)) (Expr.Slice (Option.some (Expr.Name (Str.ofString "mod") (Pos.mk 52 17 52 20))) (Option.some (Expr.BinOp (Expr.Name (Str.ofString "mod") (Pos.mk 52 21 52 24)) Operator.Add (Expr.Constant (Const.int 1) 0 (Pos.mk 52 27 52 28)) (Pos.mk 52 21 52 28))) (Option.none) (Pos.mk 52 17 52 28)) (Pos.mk 52 14 52 29)) Operator.Add (Expr.Name (Str.ofString "val") (Pos.mk 52 32 52 35)) (Pos.mk 52 14 52 35)) (Pos.mk 52 8 52 35))] [] (Pos.mk 50 4 52 35)), (Stmt.Return (Option.some (Expr.Name (Str.ofString "val") (Pos.mk 53 11 53 14))) (Pos.mk 53 4 53 14))]) (Scope.mk ScopeKind.function [(Prod.mk (Str.ofString "num") NameKind.local), (Prod.mk (Str.ofString "val") NameKind.local), (Prod.mk (Str.ofString "AP") NameKind.local), (Prod.mk (Str.ofString "mod") NameKind.local), (Prod.mk (Str.ofString "int") NameKind.globalImplicit), (Prod.mk (Str.ofString "abs") NameKind.globalImplicit), (Prod.mk (Str.ofString "divmod") NameKind.globalImplicit)] Bool.false Bool.false []) 0 [] Value.none Value.none Value.none Value.none (Option.none) Value.none Value.none 0)) #[]),
  fo P 62,
  fo P 63,
  fo P 64,
  (Obj.mk (Value.type "dict") (Option.none) (Data.dict #[(DictEntry.mk (PyData.keyHash P (Str.ofString "->")) (Value.str (Str.ofString "->") 395) (Value.int 51 351)), (DictEntry.mk (PyData.keyHash P (Str.ofString ".")) (Value.str (Str.ofString ".") 397) (Value.int 23 295)), (DictEntry.mk (PyData.keyHash P (Str.ofString "...")) (Value.str (Str.ofString "...") 399) (Value.int 52 353)), (DictEntry.mk (PyData.keyHash P (Str.ofString "/")) (Value.str (Str.ofString "/") 401) (Value.int 17 283)), (DictEntry.mk (PyData.keyHash P (Str.ofString "//")) (Value.str (Str.ofString "//") 403) (Value.int 47 343)), (DictEntry.mk (PyData.keyHash P (Str.ofString "//=")) (Value.str (Str.ofString "//=") 405) (Value.int 48 345)), (DictEntry.mk (PyData.keyHash P (Str.ofString "/=")) (Value.str (Str.ofString "/=") 407) (Value.int 39 327)), (DictEntry.mk (PyData.keyHash P (Str.ofString ":")) (Value.str (Str.ofString ":") 409) (Value.int 11 271)), (DictEntry.mk (PyData.keyHash P (Str.ofString ":=")) (Value.str (Str.ofString ":=") 411) (Value.int 53 355)), (DictEntry.mk (PyData.keyHash P (Str.ofString ";")) (Value.str (Str.ofString ";") 413) (Value.int 13 275)), (DictEntry.mk (PyData.keyHash P (Str.ofString "<")) (Value.str (Str.ofString "<") 415) (Value.int 20 289)), (DictEntry.mk (PyData.keyHash P (Str.ofString "<<")) (Value.str (Str.ofString "<<") 417) (Value.int 33 315)), (DictEntry.mk (PyData.keyHash P (Str.ofString "<<=")) (Value.str (Str.ofString "<<=") 419) (Value.int 44 337)), (DictEntry.mk (PyData.keyHash P (Str.ofString "<=")) (Value.str (Str.ofString "<=") 421) (Value.int 29 307)), (DictEntry.mk (PyData.keyHash P (Str.ofString "=")) (Value.str (Str.ofString "=") 423) (Value.int 22 293)), (DictEntry.mk (PyData.keyHash P (Str.ofString "==")) (Value.str (Str.ofString "==") 425) (Value.int 27 303)), (DictEntry.mk (PyData.keyHash P (Str.ofString ">")) (Value.str (Str.ofString ">") 427) (Value.int 21 291))] 17) #[]),
  (Obj.mk (Value.type "dict") (Option.none) (Data.dict #[(DictEntry.mk (PyData.keyHash P (Str.ofString ">=")) (Value.str (Str.ofString ">=") 429) (Value.int 30 309)), (DictEntry.mk (PyData.keyHash P (Str.ofString ">>")) (Value.str (Str.ofString ">>") 430) (Value.int 34 317)), (DictEntry.mk (PyData.keyHash P (Str.ofString ">>=")) (Value.str (Str.ofString ">>=") 431) (Value.int 45 339)), (DictEntry.mk (PyData.keyHash P (Str.ofString "@")) (Value.str (Str.ofString "@") 432) (Value.int 49 347)), (DictEntry.mk (PyData.keyHash P (Str.ofString "@=")) (Value.str (Str.ofString "@=") 433) (Value.int 50 349)), (DictEntry.mk (PyData.keyHash P (Str.ofString "[")) (Value.str (Str.ofString "[") 434) (Value.int 9 267)), (DictEntry.mk (PyData.keyHash P (Str.ofString "]")) (Value.str (Str.ofString "]") 435) (Value.int 10 269)), (DictEntry.mk (PyData.keyHash P (Str.ofString "^")) (Value.str (Str.ofString "^") 436) (Value.int 32 313)), (DictEntry.mk (PyData.keyHash P (Str.ofString "^=")) (Value.str (Str.ofString "^=") 437) (Value.int 43 335)), (DictEntry.mk (PyData.keyHash P (Str.ofString "{")) (Value.str (Str.ofString "{") 438) (Value.int 25 299)), (DictEntry.mk (PyData.keyHash P (Str.ofString "|")) (Value.str (Str.ofString "|") 439) (Value.int 18 285)), (DictEntry.mk (PyData.keyHash P (Str.ofString "|=")) (Value.str (Str.ofString "|=") 440) (Value.int 42 333)), (DictEntry.mk (PyData.keyHash P (Str.ofString "}")) (Value.str (Str.ofString "}") 441) (Value.int 26 301)), (DictEntry.mk (PyData.keyHash P (Str.ofString "~")) (Value.str (Str.ofString "~") 442) (Value.int 31 311))] 14) #[]),
  fo P 67,
  (Obj.mk Value.none (Option.none) (Data.fields #[]) #[]),
  fo P 69,
  fo P 70,
  (Obj.mk Value.none (Option.none) (Data.func (FuncData.mk (Str.ofString "ISNONTERMINAL") (Str.ofString "ISNONTERMINAL") (Arguments.mk [] [(Arg.mk (Str.ofString "x") (Option.none) (Pos.mk 106 18 106 19))] (Option.none) [] [] (Option.none) []) (FuncBody.stmts [(Stmt.Return (Option.some (Expr.Compare (Expr.Name (Str.ofString "x") (Pos.mk 107 11 107 12)) [CmpOp.GtE] [(Expr.Name (Str.ofString "NT_OFFSET") (Pos.mk 107 16 107 25))] (Pos.mk 107 11 107 25))) (Pos.mk 107 4 107 25))]) (Scope.mk ScopeKind.function [(Prod.mk (Str.ofString "x") NameKind.local), (Prod.mk (Str.ofString "NT_OFFSET") NameKind.globalImplicit)] Bool.false Bool.false []) 0 [] Value.none Value.none Value.none Value.none (Option.none) Value.none Value.none 0)) #[]),
  fo P 72,
  fo P 73,
  fo P 74,
  (Obj.mk Value.none (Option.none) (Data.fields #[]) #[]),
  fo P 76,
  fo P 77,
  (Obj.mk Value.none (Option.none) (Data.func (FuncData.mk (Str.ofString "ISEOF") (Str.ofString "ISEOF") (Arguments.mk [] [(Arg.mk (Str.ofString "x") (Option.none) (Pos.mk 108 10 108 11))] (Option.none) [] [] (Option.none) []) (FuncBody.stmts [(Stmt.Return (Option.some (Expr.Compare (Expr.Name (Str.ofString "x") (Pos.mk 109 11 109 12)) [CmpOp.Eq] [(Expr.Name (Str.ofString "ENDMARKER") (Pos.mk 109 16 109 25))] (Pos.mk 109 11 109 25))) (Pos.mk 109 4 109 25))]) (Scope.mk ScopeKind.function [(Prod.mk (Str.ofString "x") NameKind.local), (Prod.mk (Str.ofString "ENDMARKER") NameKind.globalImplicit)] Bool.false Bool.false []) 0 [] Value.none Value.none Value.none Value.none (Option.none) Value.none Value.none 0)) #[]),
  fo P 79,
  fo P 80,
  fo P 81,
  (Obj.mk Value.none (Option.none) (Data.fields #[]) #[]),
  fo P 83,
  fo P 84,
  (Obj.mk Value.none (Option.none) (Data.func (FuncData.mk (Str.ofString "_law_stream") (Str.ofString "_law_stream") (Arguments.mk [] [(Arg.mk (Str.ofString "text") (Option.none) (Pos.mk 111 16 111 20))] (Option.none) [] [] (Option.none) []) (FuncBody.stmts [(Stmt.Assign [(Expr.Name (Str.ofString "place") (Pos.mk 112 4 112 9))] (Expr.List [(Expr.Constant (Const.int 0) 0 (Pos.mk 112 13 112 14))] (Pos.mk 112 12 112 15)) (Pos.mk 112 4 112 15)), (Stmt.FunctionDef (Str.ofString "read") (Arguments.mk [] [(Arg.mk (Str.ofString "size") (Option.none) (Pos.mk 114 13 114 17))] (Option.none) [] [] (Option.none) []) [(Stmt.Assign [(Expr.Subscript (Expr.Name (Str.ofString "place") (Pos.mk 115 8 115 13)) (Expr.Constant (Const.int 0) 0 (Pos.mk 115 14 115 15)) (Pos.mk 115 8 115 16))] (Expr.BinOp (Expr.Subscript (Expr.Name (Str.ofString "place") (Pos.mk 115 19 115 24)) (Expr.Constant (Const.int 0) 0 (Pos.mk 115 25 115 26)) (Pos.mk 115 19 115 27)) Operator.Add (Expr.Name (Str.ofString "size") (Pos.mk 115 30 115 34)) (Pos.mk 115 19 115 34)) (Pos.mk 115 8 115 34)), (Stmt.Return (Option.some (Expr.Subscript (Expr.Name (Str.ofString "text") (Pos.mk 116 15 116 19)) (Expr.Slice (Option.some (Expr.BinOp (Expr.Subscript (Expr.Name (Str.ofString "place") (Pos.mk 116 20 116 25)) (Expr.Constant (Const.int 0) 0 (Pos.mk 116 26 116 27)) (Pos.mk 116 20 116 28)) Operator.Sub (Expr.Name (Str.ofString "size") (Pos.mk 116 31 116 35)) (Pos.mk 116 20 116 35))) (Option.some (Expr.Subscript (Expr.Name (Str.ofString "place") (Pos.mk 116 36 116 41)) (Expr.Constant (Const.int 0) 0 (Pos.mk 116 42 116 43)) (Pos.mk 116 36 116 44))) (Option.none) (Pos.mk 116 20 116 44)) (Pos.mk 116 15 116 45))) (Pos.mk 116 8 116 45))] [] (Option.none) [] (Scope.mk ScopeKind.function [(Prod.mk (Str.ofString "size") NameKind.local), (Prod.mk (Str.ofString "place") NameKind.free), (Prod.mk (Str.ofString "text") NameKind.free)] Bool.false Bool.false []) (Option.none) (Str.ofString "read") (Pos.mk 114 4 116 45)), (Stmt.Assign [(Expr.Name (Str.ofString "stream") (Pos.mk 117 4 117 10))] (Expr.Lambda (Arguments.mk [] [] (Option.none) [] [] (Option.none) []) (Expr.Constant Const.none 0 (Pos.mk 117 21 117 25)) (Scope.mk ScopeKind.function [] Bool.false Bool.false []) (Pos.mk 117 13 117 25)) (Pos.mk 117 4 117 25)), (Stmt.Assign [(Expr.Attribute (Expr.Name (Str.ofString "stream") (Pos.mk 118 4 118 10)) (Str.ofString "read") (Pos.mk 118 4 118 15))] (Expr.Name (Str.ofString "read") (Pos.mk 118 18 118 22)) (Pos.mk 118 4 118 22)), (Stmt.Return (Option.some (Expr.Name (Str.ofString "stream") (Pos.mk 119 11 119 17))) (Pos.mk 119 4 119 17))]) (Scope.mk ScopeKind.function [(Prod.mk (Str.ofString "text") NameKind.cell), (Prod.mk (Str.ofString "read") NameKind.local), (Prod.mk (Str.ofString "stream") NameKind.local), (Prod.mk (Str.ofString "place") NameKind.cell)] Bool.false Bool.false []) 0 [] Value.none Value.none Value.none Value.none (Option.none) Value.none Value.none 0)) #[]),
  fo P 86,
  fo P 87,
  fo P 88,
  (Obj.mk Value.none (Option.none) (Data.fields #[]) #[]),
  (Obj.mk Value.none (Option.none) (Data.func (FuncData.mk (Str.ofString "_law_word") (Str.ofString "_law_word") (Arguments.mk [] [(Arg.mk (Str.ofString "number") (Option.none) (Pos.mk 120 14 120 20))] (Option.none) [] [] (Option.none) []) (FuncBody.stmts [(Stmt.Return (Option.some (Expr.Call (Expr.Attribute (Expr.Constant (Const.str (Str.ofString "")) 0 (Pos.mk 121 11 121 13)) (Str.ofString "join") (Pos.mk 121 11 121 18)) [(Expr.ListComp (Expr.Call (Expr.Name (Str.ofString "chr") (Pos.mk 121 20 121 23)) [(Expr.Name (Str.ofString "octet") (Pos.mk 121 24 121 29))] [] (Pos.mk 121 20 121 30)) [(Comprehension.mk (Expr.Name (Str.ofString "octet") (Pos.mk 121 35 121 40)) (Expr.Call (Expr.Name (Str.ofString "Int2AP") (Pos.mk 121 44 121 50)) [(Expr.Name (Str.ofString "number") (Pos.mk 121 51 121 57))] [] (Pos.mk 121 44 121 58)) [] 0)] (Scope.mk ScopeKind.function [(Prod.mk (Str.ofString ".0") NameKind.local), (Prod.mk (Str.ofString "octet") NameKind.local), (Prod.mk (Str.ofString "chr") NameKind.globalImplicit)] Bool.false Bool.false []) (Pos.mk 121 19 121 59))] [] (Pos.mk 121 11 121 60))) (Pos.mk 121 4 121 60))]) (Scope.mk ScopeKind.function [(Prod.mk (Str.ofString "number") NameKind.local), (Prod.mk (Str.ofString "Int2AP") NameKind.globalImplicit)] Bool.false Bool.false [(Prod.mk (Str.ofString "fast") (Const.str (Str.ofString "number"))), (Prod.mk (Str.ofString "fast") (Const.str (Str.ofString "octet")))]) 0 [] Value.none Value.none Value.none Value.none (Option.none) Value.none Value.none 0)) #[]),
  fo P 91,
  fo P 92,
  fo P 93,
  (Obj.mk Value.none (Option.none) (Data.fields #[]) #[]),
  fo P 95,
  fo P 96,
  (Obj.mk Value.none (Option.none) (Data.func (FuncData.mk (Str.ofString "_law_number") (Str.ofString "_law_number") (Arguments.mk [] [(Arg.mk (Str.ofString "word") (Option.none) (Pos.mk 122 16 122 20))] (Option.none) [] [] (Option.none) []) (FuncBody.stmts [(Stmt.Assign [(Expr.Name (Str.ofString "number") (Pos.mk 123 4 123 10))] (Expr.Constant (Const.int 0) 0 (Pos.mk 123 13 123 14)) (Pos.mk 123 4 123 14)), (Stmt.If (Expr.Compare (Expr.Subscript (Expr.Name (Str.ofString "word") (Pos.mk 124 7 124 11)) (Expr.Slice (Option.none) (Option.some (Expr.Constant (Const.int 1) 0 (Pos.mk 124 13 124 14))) (Option.none) (Pos.mk 124 12 124 14)) (Pos.mk 124 7 124 15)) [CmpOp.Eq] [(Expr.Constant (Const.str (Str.ofString "A")) 0 (Pos.mk 124 19 124 22))] (Pos.mk 124 7 124 22)) [(Stmt.Return (Option.some (Expr.UnaryOp UnaryOp.USub (Expr.Constant (Const.int 1) 0 (Pos.mk 125 16 125 17)) (Pos.mk 125 15 125 17))) (Pos.mk 125 8 125 17))] [] (Pos.mk 124 4 125 17)), (Stmt.For (Expr.Name (Str.ofString "sign") (Pos.mk 126 8 126 12)) (Expr.Name (Str.ofString "word") (Pos.mk 126 16 126 20)) [(Stmt.Assign [(Expr.Name (Str.ofString "number") (Pos.mk 127 8 127 14))] (Expr.BinOp (Expr.BinOp (Expr.BinOp (Expr.Name (Str.ofString "number") (Pos.mk 127 17 127 23)) Operator.Mult (Expr.Constant (Const.int 16) 0 (Pos.mk 127 26 127 28)) (Pos.mk 127 17 127 28)) Operator.Add (Expr.Call (Expr.Name (Str.ofString "ord") (Pos.mk 127 31 127 34)) [(Expr.Name (Str.ofString "sign") (Pos.mk 127 35 127 39))] [] (Pos.mk 127 31 127 40)) (Pos.mk 127 17 127 40)) Operator.Sub (Expr.Constant (Const.int 65) 0 (Pos.mk 127 43 127 45)) (Pos.mk 127 17 127 45)) (Pos.mk 127 8 127 45))] [] (Pos.mk 126 4 127 45)), (Stmt.Return (Option.some (Expr.Name (Str.ofString "number") (Pos.mk 128 11 128 17))) (Pos.mk 128 4 128 17))]) (Scope.mk ScopeKind.function [(Prod.mk (Str.ofString "word") NameKind.local), (Prod.mk (Str.ofString "number") NameKind.local), (Prod.mk (Str.ofString "sign") NameKind.local), (Prod.mk (Str.ofString "ord") NameKind.globalImplicit)] Bool.false Bool.false []) 0 [] Value.none Value.none Value.none Value.none (Option.none) Value.none Value.none 0)) #[]),
  fo P 98,
  fo P 99,
  fo P 100,
  (Obj.mk Value.none (Option.none) (Data.fields #[]) #[]),
  (Obj.mk Value.none (Option.none) (Data.func (FuncData.mk (Str.ofString "_law_written") (Str.ofString "_law_written") (Arguments.mk [] [(Arg.mk (Str.ofString "word") (Option.none) (Pos.mk 129 17 129 21)), (Arg.mk (Str.ofString "way") (Option.none) (Pos.mk 129 23 129 26))] (Option.none) [] [] (Option.none) []) (FuncBody.stmts [(Stmt.If (Expr.BoolOp BoolOp.Or [(Expr.Compare (Expr.Name (Str.ofString "word") (Pos.mk 130 7 130 11)) [CmpOp.Eq] [(Expr.Constant (Const.str (Str.ofString "")) 0 (Pos.mk 130 15 130 17))] (Pos.mk 130 7 130 17)), (Expr.Compare (Expr.BinOp (Expr.Name (Str.ofString "way") (Pos.mk 130 21 130 24)) Operator.Mod (Expr.Constant (Const.int 3) 0 (Pos.mk 130 27 130 28)) (Pos.mk 130 21 130 28)) [CmpOp.Eq] [(Expr.Constant (Const.int 2) 0 (Pos.mk 130 32 130 33))] (Pos.mk 130 21 130 33))] (Pos.mk 130 7 130 33)) [(Stmt.Assign [(Expr.Name (Str.ofString "written") (Pos.mk 131 8 131 15))] (Expr.BinOp (Expr.BinOp (Expr.Constant (Const.str (Str.ofString "\"")) 0 (Pos.mk 131 18 131 21)) Operator.Add (Expr.Name (Str.ofString "word") (Pos.mk 131 24 131 28)) (Pos.mk 131 18 131 28)) Operator.Add (Expr.Constant (Const.str (Str.ofString "\"")) 0 (Pos.mk 131 31 131 34)) (Pos.mk 131 18 131 34)) (Pos.mk 131 8 131 34))] [(Stmt.If (Expr.Compare (Expr.BinOp (Expr.Name (Str.ofString "way") (Pos.mk 132 9 132 12)) Operator.Mod (Expr.Constant (Const.int 3) 0 (Pos.mk 132 15 132 16)) (Pos.mk 132 9 132 16)) [CmpOp.Eq] [(Expr.Constant (Const.int 1) 0 (Pos.mk 132 20 132 21))] (Pos.mk 132 9 132 21)) [(Stmt.Assign [(Expr.Name (Str.ofString "written") (Pos.mk 133 8 133 15))] (Expr.Call (Expr.Attribute (Expr.Constant (Const.str (Str.ofString "")) 0 (Pos.mk 133 18 133 20)) (Str.ofString "join") (Pos.mk 133 18 133 25)) [(Expr.ListComp (Expr.BinOp (Expr.Constant (Const.str (Str.ofString "\\")) 0 (Pos.mk 133 27 133 31)) Operator.Add (Expr.Name (Str.ofString "sign") (Pos.mk 133 34 133 38)) (Pos.mk 133 27 133 38)) [(Comprehension.mk (Expr.Name (Str.ofString "sign") (Pos.mk 133 43 133 47)) (Expr.Name (Str.ofString "word") (Pos.mk 133 51 133 55)) [] 0)] (Scope.mk ScopeKind.function [(Prod.mk (Str.ofString ".0") NameKind.local), (Prod.mk (Str.ofString "sign") NameKind.local)] Bool.false Bool.false []) (Pos.mk 133 26 133 56))] [] (Pos.mk 133 18 133 57)) (Pos.mk 133 8 133 57))] [(Stmt.Assign [(Expr.Name (Str.ofString "written") (Pos.mk 135 8 135 15))] (Expr.Name (Str.ofString "word") (Pos.mk 135 18 135 22)) (Pos.mk 135 8 135 22))] (Pos.mk 132 4 135 22))] (Pos.mk 130 4 135 22)), (Stmt.Return (Option.some (Expr.BinOp (Expr.Name (Str.ofString "written") (Pos.mk 136 11 136 18)) Operator.Add (Expr.Subscript (Expr.Constant (Const.str (Str.ofString " \n\t\x0d")) 0 (Pos.mk 136 21 136 30)) (Expr.BinOp (Expr.BinOp (Expr.Name (Str.ofString "way") (Pos.mk 136 31 136 34)) Operator.FloorDiv (Expr.Constant (Const.int 3) 0 (Pos.mk 136 38 136 39)) (Pos.mk 136 31 136 39)) Operator.Mod (Expr.Constant (Const.int 4) 0 (Pos.mk 136 42 136 43)) (Pos.mk 136 31 136 43)) (Pos.mk 136 21 136 44)) (Pos.mk 136 11 136 44))) (Pos.mk 136 4 136 44))]) (Scope.mk ScopeKind.function [(Prod.mk (Str.ofString "word") NameKind.local), (Prod.mk (Str.ofString "way") NameKind.local), (Prod.mk (Str.ofString "written") NameKind.local)] Bool.false Bool.false [(Prod.mk (Str.ofString "fast") (Const.str (Str.ofString "word"))), (Prod.mk (Str.ofString "fast") (Const.str (Str.ofString "way"))), (Prod.mk (Str.ofString "fast") (Const.str (Str.ofString "written"))), (Prod.mk (Str.ofString "fast") (Const.str (Str.ofString "sign")))]) 0 [] Value.none Value.none Value.none Value.none (Option.none) Value.none Value.none 0)) #[]),
  fo P 103,
  fo P 104,
  fo P 105,
  (Obj.mk Value.none (Option.none) (Data.fields #[]) #[]),
  fo P 107,
  fo P 108,
  (Obj.mk Value.none (Option.none) (Data.func (FuncData.mk (Str.ofString "_law_operators") (Str.ofString "_law_operators") (Arguments.mk [] [] (Option.none) [] [] (Option.none) []) (FuncBody.stmts [(Stmt.Return (Option.some (Expr.Call (Expr.Attribute (Expr.Constant (Const.str (Str.ofString "( ) [ ] : , ; + - * / | & < > = . % { } == != <= >= ~ ^ << >> ** += -= *= /= %= &= |= ^= <<= >>= **= // //= @ @= -> ... := !")) 0 (Pos.mk 138 11 138 137)) (Str.ofString "split") (Pos.mk 138 11 138 143)) [(Expr.Constant (Const.str (Str.ofString " ")) 0 (Pos.mk 138 144 138 147))] [] (Pos.mk 138 11 138 148))) (Pos.mk 138 4 138 148))]) (Scope.mk ScopeKind.function [] Bool.false Bool.false []) 0 [] Value.none Value.none Value.none Value.none (Option.none) Value.none Value.none 0)) #[]),
  fo P 110,
  fo P 111,
  fo P 112,
  (Obj.mk Value.none (Option.none) (Data.fields #[]) #[]),
  (Obj.mk Value.none (Option.none) (Data.func (FuncData.mk (Str.ofString "_law_pairs") (Str.ofString "_law_pairs") (Arguments.mk [] [(Arg.mk (Str.ofString "script") (Option.none) (Pos.mk 139 15 139 21)), (Arg.mk (Str.ofString "symbols") (Option.none) (Pos.mk 139 23 139 30))] (Option.none) [] [] (Option.none) []) (FuncBody.stmts [(Stmt.Assign [(Expr.Name (Str.ofString "pairs") (Pos.mk 140 4 140 9))] (Expr.List [] (Pos.mk 140 12 140 14)) (Pos.mk 140 4 140 14)), (Stmt.For (Expr.Name (Str.ofString "k") (Pos.mk 141 8 141 9)) (Expr.Call (Expr.Name (Str.ofString "range") (Pos.mk 141 13 141 18)) [(Expr.Constant (Const.int 4) 0 (Pos.mk 141 19 141 20))] [] (Pos.mk 141 13 141 21)) [(Stmt.Assign [(Expr.Name (Str.ofString "drawn") (Pos.mk 142 8 142 13))] (Expr.BinOp (Expr.Subscript (Expr.List [(Expr.Constant (Const.int 32) 0 (Pos.mk 142 17 142 19)), (Expr.Constant (Const.int 65) 0 (Pos.mk 142 21 142 23)), (Expr.Constant (Const.int 97) 0 (Pos.mk 142 25 142 27)), (Expr.Constant (Const.int 70) 0 (Pos.mk 142 29 142 31))] (Pos.mk 142 16 142 32)) (Expr.Name (Str.ofString "k") (Pos.mk 142 33 142 34)) (Pos.mk 142 16 142 35)) Operator.Add (Expr.IfExp (Expr.Compare (Expr.Name (Str.ofString "k") (Pos.mk 142 62 142 63)) [CmpOp.Lt] [(Expr.Call (Expr.Name (Str.ofString "len") (Pos.mk 142 66 142 69)) [(Expr.Name (Str.ofString "script") (Pos.mk 142 70 142 76))] [] (Pos.mk 142 66 142 77))] (Pos.mk 142 62 142 77)) (Expr.BinOp (Expr.Subscript (Expr.Name (Str.ofString "script") (Pos.mk 142 39 142 45)) (Expr.Name (Str.ofString "k") (Pos.mk 142 46 142 47)) (Pos.mk 142 39 142 48)) Operator.Mod (Expr.Constant (Const.int 1000000) 0 (Pos.mk 142 51 142 58)) (Pos.mk 142 39 142 58)) (Expr.Constant (Const.int 0) 0 (Pos.mk 142 83 142 84)) (Pos.mk 142 39 142 84)) (Pos.mk 142 16 142 85)) (Pos.mk 142 8 142 85)), (Stmt.Assign [(Expr.Name (Str.ofString "known") (Pos.mk 143 8 143 13))] (Expr.BinOp (Expr.Name (Str.ofString "symbols") (Pos.mk 143 16 143 23)) Operator.Add (Expr.ListComp (Expr.BinOp (Expr.Constant (Const.int 256) 0 (Pos.mk 143 27 143 30)) Operator.Add (Expr.Name (Str.ofString "rule") (Pos.mk 143 33 143 37)) (Pos.mk 143 27 143 37)) [(Comprehension.mk (Expr.Name (Str.ofString "rule") (Pos.mk 143 42 143 46)) (Expr.Call (Expr.Name (Str.ofString "range") (Pos.mk 143 50 143 55)) [(Expr.Name (Str.ofString "k") (Pos.mk 143 56 143 57))] [] (Pos.mk 143 50 143 58)) [] 0)] (Scope.mk ScopeKind.function [(Prod.mk (Str.ofString ".0") NameKind.local), (Prod.mk (Str.ofString "rule") NameKind.local)] Bool.false Bool.false []) (Pos.mk 143 26 143 59)) (Pos.mk 143 16 143 59)) (Pos.mk 143 8 143 59)), (Stmt.Expr (Expr.Call (Expr.Attribute (Expr.Name (Str.ofString "pairs") (Pos.mk 144 8 144 13)) (Str.ofString "append") (Pos.mk 144 8 144 20)) [(Expr.List [(Expr.Subscript (Expr.Name (Str.ofString "known") (Pos.mk 144 22 144 27)) (Expr.BinOp (Expr.Name (Str.ofString "drawn") (Pos.mk 144 28 144 33)) Operator.Mod (Expr.Call (Expr.Name (Str.ofString "len") (Pos.mk 144 36 144 39)) [(Expr.Name (Str.ofString "known") (Pos.mk 144 40 144 45))] [] (Pos.mk 144 36 144 46)) (Pos.mk 144 28 144 46)) (Pos.mk 144 22 144 47)), (Expr.Subscript (Expr.Name (Str.ofString "known") (Pos.mk 144 49 144 54)) (Expr.BinOp (Expr.BinOp (Expr.Name (Str.ofString "drawn") (Pos.mk 144 55 144 60)) Operator.FloorDiv (Expr.Constant (Const.int 32) 0 (Pos.mk 144 64 144 66)) (Pos.mk 144 55 144 66)) Operator.Mod (Expr.Call (Expr.Name (Str.ofString "len") (Pos.mk 144 69 144 72)) [(Expr.Name (Str.ofString "known") (Pos.mk 144 73 144 78))] [] (Pos.mk 144 69 144 79)) (Pos.mk 144 55 144 79)) (Pos.mk 144 49 144 80))] (Pos.mk 144 21 144 81))] [] (Pos.mk 144 8 144 82)) (Pos.mk 144 8 144 82))] [] (Pos.mk 141 4 144 82)), (Stmt.Return (Option.some (Expr.Name (Str.ofString "pairs") (Pos.mk 145 11 145 16))) (Pos.mk 145 4 145 16))]) (Scope.mk ScopeKind.function [(Prod.mk (Str.ofString "script") NameKind.local), (Prod.mk (Str.ofString "symbols") NameKind.local), (Prod.mk (Str.ofString "pairs") NameKind.local), (Prod.mk (Str.ofString "k") NameKind.local), (Prod.mk (Str.ofString "drawn") NameKind.local), (Prod.mk (Str.ofString "known") NameKind.local), (Prod.mk (Str.ofString "range") NameKind.globalImplicit), (Prod.mk (Str.ofString "len") NameKind.globalImplicit)] Bool.false Bool.false [(Prod.mk (Str.ofString "fast") (Const.str (Str.ofString "script"))), (Prod.mk (Str.ofString "fast") (Const.str (Str.ofString "symbols"))), (Prod.mk (Str.ofString "fast") (Const.str (Str.ofString "pairs"))), (Prod.mk (Str.ofString "fast") (Const.str (Str.ofString "k"))), (Prod.mk (Str.ofString "fast") (Const.str (Str.ofString "drawn"))), (Prod.mk (Str.ofString "fast") (Const.str (Str.ofString "rule"))), (Prod.mk (Str.ofString "fast") (Const.str (Str.ofString "known")))]) 0 [] Value.none Value.none Value.none Value.none (Option.none) Value.none Value.none 0)) #[]),
  fo P 115,
  fo P 116,
  fo P 117,
  (Obj.mk Value.none (Option.none) (Data.fields #[]) #[]),
  fo P 119,
  fo P 120,
  (Obj.mk Value.none (Option.none) (Data.func (FuncData.mk (Str.ofString "_law_round") (Str.ofString "_law_round") (Arguments.mk [] [(Arg.mk (Str.ofString "lexer") (Option.none) (Pos.mk 146 15 146 20)), (Arg.mk (Str.ofString "left") (Option.none) (Pos.mk 146 22 146 26)), (Arg.mk (Str.ofString "right") (Option.none) (Pos.mk 146 28 146 33)), (Arg.mk (Str.ofString "made") (Option.none) (Pos.mk 146 35 146 39))] (Option.none) [] [] (Option.none) []) (FuncBody.stmts [(Stmt.Assign [(Expr.Name (Str.ofString "held") (Pos.mk 147 4 147 8))] (Expr.Constant (Const.int 0) 0 (Pos.mk 147 11 147 12)) (Pos.mk 147 4 147 12)), (Stmt.Assign [(Expr.Name (Str.ofString "symbol") (Pos.mk 148 4 148 10))] (Expr.Name (Str.ofString "left") (Pos.mk 148 13 148 17)) (Pos.mk 148 4 148 17)), (Stmt.While (Expr.UnaryOp UnaryOp.Not (Expr.Call (Expr.Name (Str.ofString "ISEOF") (Pos.mk 149 14 149 19)) [(Expr.Name (Str.ofString "symbol") (Pos.mk 149 20 149 26))] [] (Pos.mk 149 14 149 27)) (Pos.mk 149 10 149 27)) [(Stmt.Assign [(Expr.Name (Str.ofString "symbol") (Pos.mk 150 8 150 14))] (Expr.Call (Expr.Name (Str.ofString "_law_number") (Pos.mk 150 17 150 28)) [(Expr.Call (Expr.Attribute (Expr.Name (Str.ofString "lexer") (Pos.mk 150 29 150 34)) (Str.ofString "get_token") (Pos.mk 150 29 150 44)) [] [] (Pos.mk 150 29 150 46))] [] (Pos.mk 150 17 150 47)) (Pos.mk 150 8 150 47)), (Stmt.If (Expr.BoolOp BoolOp.And [(Expr.Compare (Expr.Name (Str.ofString "held") (Pos.mk 151 11 151 15)) [CmpOp.Eq] [(Expr.Name (Str.ofString "left") (Pos.mk 151 19 151 23))] (Pos.mk 151 11 151 23)), (Expr.Compare (Expr.Name (Str.ofString "symbol") (Pos.mk 151 28 151 34)) [CmpOp.Eq] [(Expr.Name (Str.ofString "right") (Pos.mk 151 38 151 43))] (Pos.mk 151 28 151 43))] (Pos.mk 151 11 151 43)) [(Stmt.Expr (Expr.Call (Expr.Attribute (Expr.Name (Str.ofString "lexer") (Pos.mk 152 12 152 17)) (Str.ofString "push_token") (Pos.mk 152 12 152 28)) [(Expr.Call (Expr.Name (Str.ofString "_law_word") (Pos.mk 152 29 152 38)) [(Expr.Name (Str.ofString "made") (Pos.mk 152 39 152 43))] [] (Pos.mk 152 29 152 44))] [] (Pos.mk 152 12 152 45)) (Pos.mk 152 12 152 45)), (Stmt.Assign [(Expr.Name (Str.ofString "held") (Pos.mk 153 12 153 16))] (Expr.Constant (Const.int 0) 0 (Pos.mk 153 19 153 20)) (Pos.mk 153 12 153 20))] [(Stmt.If (Expr.UnaryOp UnaryOp.Not (Expr.Call (Expr.Name (Str.ofString "ISEOF") (Pos.mk 155 19 155 24)) [(Expr.Name (Str.ofString "held") (Pos.mk 155 25 155 29))] [] (Pos.mk 155 19 155 30)) (Pos.mk 155 15 155 30)) [(Stmt.Expr (Expr.Call (Expr.Attribute (Expr.Name (Str.ofString "lexer") (Pos.mk 156 16 156 21)) (Str.ofString "push_token") (Pos.mk 156 16 156 32)) [(Expr.Call (Expr.Name (Str.ofString "_law_word") (Pos.mk 156 33 156 42)) [(Expr.Name (Str.ofString "held") (Pos.mk 156 43 156 47))] [] (Pos.mk 156 33 156 48))] [] (Pos.mk 156 16 156 49)) (Pos.mk 156 16 156 49))] [] (Pos.mk 155 12 156 49)), (Stmt.Assign [(Expr.Name (Str.ofString "held") (Pos.mk 157 12 157 16))] (Expr.Name (Str.ofString "symbol") (Pos.mk 157 19 157 25)) (Pos.mk 157 12 157 25))] (Pos.mk 151 8 157 25))] [] (Pos.mk 149 4 157 25)), (Stmt.Expr (Expr.Call (Expr.Attribute (Expr.Name (Str.ofString "lexer") (Pos.mk 158 4 158 9)) (Str.ofString "push_token") (Pos.mk 158 4 158 20)) [(Expr.Call (Expr.Name (Str.ofString "_law_word") (Pos.mk 158 21 158 30)) [(Expr.Constant (Const.int 0) 0 (Pos.mk 158 31 158 32))] [] (Pos.mk 158 21 158 33))] [] (Pos.mk 158 4 158 34)) (Pos.mk 158 4 158 34))]) (Scope.mk ScopeKind.function [(Prod.mk (Str.ofString "lexer") NameKind.local), (Prod.mk (Str.ofString "left") NameKind.local), (Prod.mk (Str.ofString "right") NameKind.local), (Prod.mk (Str.ofString "made") NameKind.local), (Prod.mk (Str.ofString "held") NameKind.local), (Prod.mk (Str.ofString "symbol") NameKind.local), (Prod.mk (Str.ofString "ISEOF") NameKind.globalImplicit), (Prod.mk (Str.ofString "_law_number") NameKind.globalImplicit), (Prod.mk (Str.ofString "_law_word") NameKind.globalImplicit)] Bool.false Bool.false []) 0 [] Value.none Value.none Value.none Value.none (Option.none) Value.none Value.none 0)) #[]),
  fo P 122,
  fo P 123,
  fo P 124,
  (Obj.mk Value.none (Option.none) (Data.fields #[]) #[]),
  fo P 126,
  fo P 127,
  (Obj.mk Value.none (Option.none) (Data.func (FuncData.mk (Str.ofString "_law_row") (Str.ofString "_law_row") (Arguments.mk [] [(Arg.mk (Str.ofString "lexer") (Option.none) (Pos.mk 159 13 159 18))] (Option.none) [] [] (Option.none) []) (FuncBody.stmts [(Stmt.Assign [(Expr.Name (Str.ofString "row") (Pos.mk 160 4 160 7))] (Expr.List [] (Pos.mk 160 10 160 12)) (Pos.mk 160 4 160 12)), (Stmt.Assign [(Expr.Name (Str.ofString "symbol") (Pos.mk 161 4 161 10))] (Expr.Call (Expr.Name (Str.ofString "_law_number") (Pos.mk 161 13 161 24)) [(Expr.Call (Expr.Attribute (Expr.Name (Str.ofString "lexer") (Pos.mk 161 25 161 30)) (Str.ofString "get_token") (Pos.mk 161 25 161 40)) [] [] (Pos.mk 161 25 161 42))] [] (Pos.mk 161 13 161 43)) (Pos.mk 161 4 161 43)), (Stmt.While (Expr.UnaryOp UnaryOp.Not (Expr.Call (Expr.Name (Str.ofString "ISEOF") (Pos.mk 162 14 162 19)) [(Expr.Name (Str.ofString "symbol") (Pos.mk 162 20 162 26))] [] (Pos.mk 162 14 162 27)) (Pos.mk 162 10 162 27)) [(Stmt.Expr (Expr.Call (Expr.Attribute (Expr.Name (Str.ofString "row") (Pos.mk 163 8 163 11)) (Str.ofString "append") (Pos.mk 163 8 163 18)) [(Expr.Name (Str.ofString "symbol") (Pos.mk 163 19 163 25))] [] (Pos.mk 163 8 163 26)) (Pos.mk 163 8 163 26)), (Stmt.Assign [(Expr.Name (Str.ofString "symbol") (Pos.mk 164 8 164 14))] (Expr.Call (Expr.Name (Str.ofString "_law_number") (Pos.mk 164 17 164 28)) [(Expr.Call (Expr.Attribute (Expr.Name (Str.ofString "lexer") (Pos.mk 164 29 164 34)) (Str.ofString "get_token") (Pos.mk 164 29 164 44)) [] [] (Pos.mk 164 29 164 46))] [] (Pos.mk 164 17 164 47)) (Pos.mk 164 8 164 47))] [] (Pos.mk 162 4 164 47)), (Stmt.Return (Option.some (Expr.Name (Str.ofString "row") (Pos.mk 165 11 165 14))) (Pos.mk 165 4 165 14))]) (Scope.mk ScopeKind.function [(Prod.mk (Str.ofString "lexer") NameKind.local), (Prod.mk (Str.ofString "row") NameKind.local), (Prod.mk (Str.ofString "symbol") NameKind.local), (Prod.mk (Str.ofString "_law_number") NameKind.globalImplicit), (Prod.mk (Str.ofString "ISEOF") NameKind.globalImplicit)] Bool.false Bool.false []) 0 [] Value.none Value.none Value.none Value.none (Option.none) Value.none Value.none 0)) #[]),
  fo P 129,
  fo P 130,
  fo P 131,
  (Obj.mk Value.none (Option.none) (Data.fields #[]) #[]),
  (Obj.mk Value.none (Option.none) (Data.func (FuncData.mk (Str.ofString "_law_joined") (Str.ofString "_law_joined") (Arguments.mk [] [(Arg.mk (Str.ofString "row") (Option.none) (Pos.mk 166 16 166 19)), (Arg.mk (Str.ofString "pairs") (Option.none) (Pos.mk 166 21 166 26))] (Option.none) [] [] (Option.none) []) (FuncBody.stmts [(Stmt.While (Expr.Constant (Const.bool Bool.true) 0 (Pos.mk 167 10 167 14)) [(Stmt.Assign [(Expr.Name (Str.ofString "places") (Pos.mk 168 8 168 14))] (Expr.ListComp (Expr.Tuple [(Expr.Call (Expr.Attribute (Expr.Name (Str.ofString "pairs") (Pos.mk 168 19 168 24)) (Str.ofString "index") (Pos.mk 168 19 168 30)) [(Expr.Subscript (Expr.Name (Str.ofString "row") (Pos.mk 168 31 168 34)) (Expr.Slice (Option.some (Expr.Name (Str.ofString "k") (Pos.mk 168 35 168 36))) (Option.some (Expr.BinOp (Expr.Name (Str.ofString "k") (Pos.mk 168 37 168 38)) Operator.Add (Expr.Constant (Const.int 2) 0 (Pos.mk 168 41 168 42)) (Pos.mk 168 37 168 42))) (Option.none) (Pos.mk 168 35 168 42)) (Pos.mk 168 31 168 43))] [] (Pos.mk 168 19 168 44)), (Expr.Name (Str.ofString "k") (Pos.mk 168 46 168 47))] 0 (Pos.mk 168 18 168 48)) [(Comprehension.mk (Expr.Name (Str.ofString "k") (Pos.mk 168 53 168 54)) (Expr.Call (Expr.Name (Str.ofString "range") (Pos.mk 168 58 168 63)) [(Expr.BinOp (Expr.Call (Expr.Name (Str.ofString "len") (Pos.mk 168 64 168 67)) [(Expr.Name (Str.ofString "row") (Pos.mk 168 68 168 71))] [] (Pos.mk 168 64 168 72)) Operator.Sub (Expr.Constant (Const.int 1) 0 (Pos.mk 168 75 168 76)) (Pos.mk 168 64 168 76))] [] (Pos.mk 168 58 168 77)) [(Expr.Compare (Expr.Subscript (Expr.Name (Str.ofString "row") (Pos.mk 168 81 168 84)) (Expr.Slice (Option.some (Expr.Name (Str.ofString "k") (Pos.mk 168 85 168 86))) (Option.some (Expr.BinOp (Expr.Name (Str.ofString "k") (Pos.mk 168 87 168 88)) Operator.Add (Expr.Constant (Const.int 2) 0 (Pos.mk 168 91 168 92)) (Pos.mk 168 87 168 92))) (Option.none) (Pos.mk 168 85 168 92)) (Pos.mk 168 81 168 93)) [CmpOp.In] [(Expr.Name (Str.ofString "pairs") (Pos.mk 168 97 168 102))] (Pos.mk 168 81 168 102))] 0)] (Scope.mk ScopeKind.function [(Prod.mk (Str.ofString ".0") NameKind.local), (Prod.mk (Str.ofString "k") NameKind.local), (Prod.mk (Str.ofString "pairs") NameKind.free), (Prod.mk (Str.ofString "row") NameKind.free)] Bool.false Bool.false []) (Pos.mk 168 17 168 103)) (Pos.mk 168 8 168 103)), (Stmt.If (Expr.Compare (Expr.Name (Str.ofString "places") (Pos.mk 169 11 169 17)) [CmpOp.Eq] [(Expr.List [] (Pos.mk 169 21 169 23))] (Pos.mk 169 11 169 23)) [(Stmt.Return (Option.some (Expr.Name (Str.ofString "row") (Pos.mk 170 19 170 22))) (Pos.mk 170 12 170 22))] [] (Pos.mk 169 8 170 22)), (Stmt.Assign [(Expr.Tuple [(Expr.Name (Str.ofString "rule") (Pos.mk 171 8 171 12)), (Expr.Name (Str.ofString "k") (Pos.mk 171 14 171 15))] 0 (Pos.mk 171 8 171 15))] (Expr.Call (Expr.Name (Str.ofString "min") (Pos.mk 171 18 171 21)) [(Expr.Name (Str.ofString "places") (Pos.mk 171 22 171 28))] [] (Pos.mk 171 18 171 29)) (Pos.mk 171 8 171 29)), (Stmt.Assign [(Expr.Name (Str.ofString "row") (Pos.mk 172 8 172 11))] (Expr.BinOp (Expr.BinOp (Expr.Subscript (Expr.Name (Str.ofString "row") (Pos.mk 172 14 172 17)) (Expr.Slice (Option.none) (Option.some (Expr.Name (Str.ofString "k") (Pos.mk 172 19 172 20))) (Option.none) (Pos.mk 172 18 172 20)) (Pos.mk 172 14 172 21)) Operator.Add (Expr.List [(Expr.BinOp (Expr.Constant (Const.int 256) 0 (Pos.mk 172 25 172 28)) Operator.Add (Expr.Name (Str.ofString "rule") (Pos.mk 172 31 172 35)) (Pos.mk 172 25 172 35))] (Pos.mk 172 24 172 36)) (Pos.mk 172 14 172 36)) Operator.Add (Expr.Subscript (Expr.Name (Str.ofString "row") (Pos.mk 172 39 172 42)) (Expr.Slice (Option.some (Expr.BinOp (Expr.Name (Str.ofString "k") (Pos.mk 172 43 172 44)) Operator.Add (Expr.Constant (Const.int 2) 0 (Pos.mk 172 47 172 48)) (Pos.mk 172 43 172 48))) (Option.none) (Option.none) (Pos.mk 172 43 172 49)) (Pos.mk 172 39 172 50)) (Pos.mk 172 14 172 50)) (Pos.mk 172 8 172 50))] [] (Pos.mk 167 4 172 50))]) (Scope.mk ScopeKind.function [(Prod.mk (Str.ofString "row") NameKind.cell), (Prod.mk (Str.ofString "pairs") NameKind.cell), (Prod.mk (Str.ofString "k") NameKind.local), (Prod.mk (Str.ofString "places") NameKind.local), (Prod.mk (Str.ofString "rule") NameKind.local), (Prod.mk (Str.ofString "range") NameKind.globalImplicit), (Prod.mk (Str.ofString "len") NameKind.globalImplicit), (Prod.mk (Str.ofString "min") NameKind.globalImplicit)] Bool.false Bool.false [(Prod.mk (Str.ofString "fast") (Const.str (Str.ofString "row"))), (Prod.mk (Str.ofString "fast") (Const.str (Str.ofString "pairs"))), (Prod.mk (Str.ofString "fast") (Const.str (Str.ofString "k"))), (Prod.mk (Str.ofString "fast") (Const.str (Str.ofString "places"))), (Prod.mk (Str.ofString "fast") (Const.str (Str.ofString "rule")))]) 0 [] Value.none Value.none Value.none Value.none (Option.none) Value.none Value.none 0)) #[]),
  fo P 134,
  fo P 135,
  fo P 136,
  (Obj.mk Value.none (Option.none) (Data.fields #[]) #[]),
  fo P 138,
  fo P 139,
  (Obj.mk Value.none (Option.none) (Data.func (FuncData.mk (Str.ofString "_law_parted") (Str.ofString "_law_parted") (Arguments.mk [] [(Arg.mk (Str.ofString "row") (Option.none) (Pos.mk 173 16 173 19)), (Arg.mk (Str.ofString "pairs") (Option.none) (Pos.mk 173 21 173 26))] (Option.none) [] [] (Option.none) []) (FuncBody.stmts [(Stmt.Assign [(Expr.Name (Str.ofString "pile") (Pos.mk 174 4 174 8))] (Expr.Subscript (Expr.Name (Str.ofString "row") (Pos.mk 174 11 174 14)) (Expr.Slice (Option.none) (Option.none) (Option.some (Expr.UnaryOp UnaryOp.USub (Expr.Constant (Const.int 1) 0 (Pos.mk 174 18 174 19)) (Pos.mk 174 17 174 19))) (Pos.mk 174 15 174 19)) (Pos.mk 174 11 174 20)) (Pos.mk 174 4 174 20)), (Stmt.Assign [(Expr.Name (Str.ofString "parted") (Pos.mk 175 4 175 10))] (Expr.List [] (Pos.mk 175 13 175 15)) (Pos.mk 175 4 175 15)), (Stmt.While (Expr.Compare (Expr.Name (Str.ofString "pile") (Pos.mk 176 10 176 14)) [CmpOp.NotEq] [(Expr.List [] (Pos.mk 176 18 176 20))] (Pos.mk 176 10 176 20)) [(Stmt.Assign [(Expr.Name (Str.ofString "symbol") (Pos.mk 177 8 177 14))] (Expr.Call (Expr.Attribute (Expr.Name (Str.ofString "pile") (Pos.mk 177 17 177 21)) (Str.ofString "pop") (Pos.mk 177 17 177 25)) [] [] (Pos.mk 177 17 177 27)) (Pos.mk 177 8 177 27)), (Stmt.If (Expr.Call (Expr.Name (Str.ofString "ISNONTERMINAL") (Pos.mk 178 11 178 24)) [(Expr.Name (Str.ofString "symbol") (Pos.mk 178 25 178 31))] [] (Pos.mk 178 11 178 32)) [(Stmt.Expr (Expr.Call (Expr.Attribute (Expr.Name (Str.ofString "pile") (Pos.mk 179 12 179 16)) (Str.ofString "append") (Pos.mk 179 12 179 23)) [(Expr.Subscript (Expr.Subscript (Expr.Name (Str.ofString "pairs") (Pos.mk 179 24 179 29)) (Expr.BinOp (Expr.Name (Str.ofString "symbol") (Pos.mk 179 30 179 36)) Operator.Sub (Expr.Constant (Const.int 256) 0 (Pos.mk 179 39 179 42)) (Pos.mk 179 30 179 42)) (Pos.mk 179 24 179 43)) (Expr.Constant (Const.int 1) 0 (Pos.mk 179 44 179 45)) (Pos.mk 179 24 179 46))] [] (Pos.mk 179 12 179 47)) (Pos.mk 179 12 179 47)), (Stmt.Expr (Expr.Call (Expr.Attribute (Expr.Name (Str.ofString "pile") (Pos.mk 180 12 180 16)) (Str.ofString "append") (Pos.mk 180 12 180 23)) [(Expr.Subscript (Expr.Subscript (Expr.Name (Str.ofString "pairs") (Pos.mk 180 24 180 29)) (Expr.BinOp (Expr.Name (Str.ofString "symbol") (Pos.mk 180 30 180 36)) Operator.Sub (Expr.Constant (Const.int 256) 0 (Pos.mk 180 39 180 42)) (Pos.mk 180 30 180 42)) (Pos.mk 180 24 180 43)) (Expr.Constant (Const.int 0) 0 (Pos.mk 180 44 180 45)) (Pos.mk 180 24 180 46))] [] (Pos.mk 180 12 180 47)) (Pos.mk 180 12 180 47))] [(Stmt.Expr (Expr.Call (Expr.Attribute (Expr.Name (Str.ofString "parted") (Pos.mk 182 12 182 18)) (Str.ofString "append") (Pos.mk 182 12 182 25)) [(Expr.Name (Str.ofString "symbol") (Pos.mk 182 26 182 32))] [] (Pos.mk 182 12 182 33)) (Pos.mk 182 12 182 33))] (Pos.mk 178 8 182 33))] [] (Pos.mk 176 4 182 33)), (Stmt.Return (Option.some (Expr.Name (Str.ofString "parted") (Pos.mk 183 11 183 17))) (Pos.mk 183 4 183 17))]) (Scope.mk ScopeKind.function [(Prod.mk (Str.ofString "row") NameKind.local), (Prod.mk (Str.ofString "pairs") NameKind.local), (Prod.mk (Str.ofString "pile") NameKind.local), (Prod.mk (Str.ofString "parted") NameKind.local), (Prod.mk (Str.ofString "symbol") NameKind.local), (Prod.mk (Str.ofString "ISNONTERMINAL") NameKind.globalImplicit)] Bool.false Bool.false []) 0 [] Value.none Value.none Value.none Value.none (Option.none) Value.none Value.none 0)) #[]),
  fo P 141,
  fo P 142,
  fo P 143,
  (Obj.mk Value.none (Option.none) (Data.fields #[]) #[]),
  (Obj.mk Value.none (Option.none) (Data.func (FuncData.mk (Str.ofString "law") (Str.ofString "law") (Arguments.mk [] [(Arg.mk (Str.ofString "script") (Option.none) (Pos.mk 184 8 184 14))] (Option.none) [] [] (Option.none) []) (FuncBody.stmts [(Stmt.Assign [(Expr.Name (Str.ofString "operators") (Pos.mk 185 4 185 13))] (Expr.Call (Expr.Name (Str.ofString "_law_operators") (Pos.mk 185 16 185 30)) [] [] (Pos.mk 185 16 185 32)) (Pos.mk 185 4 185 32)), (Stmt.Assign [(Expr.Name (Str.ofString "total") (Pos.mk 186 4 186 9))] (Expr.BinOp (Expr.Constant (Const.int 7186778) 0 (Pos.mk 186 12 186 19)) Operator.Add (Expr.Call (Expr.Name (Str.ofString "sum") (Pos.mk 186 22 186 25)) [(Expr.ListComp (Expr.BinOp (Expr.BinOp (Expr.Name (Str.ofString "k") (Pos.mk 186 28 186 29)) Operator.Add (Expr.Constant (Const.int 1) 0 (Pos.mk 186 32 186 33)) (Pos.mk 186 28 186 33)) Operator.Mult (Expr.BinOp (Expr.Subscript (Expr.Name (Str.ofString "script") (Pos.mk 186 38 186 44)) (Expr.Name (Str.ofString "k") (Pos.mk 186 45 186 46)) (Pos.mk 186 38 186 47)) Operator.Mod (Expr.Constant (Const.int 1000000) 0 (Pos.mk 186 50 186 57)) (Pos.mk 186 38 186 57)) (Pos.mk 186 27 186 58)) [(Comprehension.mk (Expr.Name (Str.ofString "k") (Pos.mk 186 63 186 64)) (Expr.Call (Expr.Name (Str.ofString "range") (Pos.mk 186 68 186 73)) [(Expr.Call (Expr.Name (Str.ofString "min") (Pos.mk 186 74 186 77)) [(Expr.Call (Expr.Name (Str.ofString "len") (Pos.mk 186 78 186 81)) [(Expr.Name (Str.ofString "script") (Pos.mk 186 82 186 88))] [] (Pos.mk 186 78 186 89)), (Expr.Constant (Const.int 60) 0 (Pos.mk 186 91 186 93))] [] (Pos.mk 186 74 186 94))] [] (Pos.mk 186 68 186 95)) [] 0)] (Scope.mk ScopeKind.function [(Prod.mk (Str.ofString ".0") NameKind.local), (Prod.mk (Str.ofString "k") NameKind.local), (Prod.mk (Str.ofString "script") NameKind.free)] Bool.false Bool.false []) (Pos.mk 186 26 186 96))] [] (Pos.mk 186 22 186 97)) (Pos.mk 186 12 186 97)) (Pos.mk 186 4 186 97)), (Stmt.Assign [(Expr.Name (Str.ofString "first") (Pos.mk 187 4 187 9))] (Expr.BinOp (Expr.BinOp (Expr.Name (Str.ofString "total") (Pos.mk 187 12 187 17)) Operator.FloorDiv (Expr.Constant (Const.int 4096) 0 (Pos.mk 187 21 187 25)) (Pos.mk 187 12 187 25)) Operator.Mod (Expr.Constant (Const.int 48) 0 (Pos.mk 187 28 187 30)) (Pos.mk 187 12 187 30)) (Pos.mk 187 4 187 30)), (Stmt.Assign [(Expr.Name (Str.ofString "second") (Pos.mk 188 4 188 10))] (Expr.BinOp (Expr.BinOp (Expr.BinOp (Expr.Name (Str.ofString "first") (Pos.mk 188 14 188 19)) Operator.Add (Expr.Constant (Const.int 1) 0 (Pos.mk 188 22 188 23)) (Pos.mk 188 14 188 23)) Operator.Add (Expr.BinOp (Expr.BinOp (Expr.Name (Str.ofString "total") (Pos.mk 188 26 188 31)) Operator.FloorDiv (Expr.Constant (Const.int 196608) 0 (Pos.mk 188 35 188 41)) (Pos.mk 188 26 188 41)) Operator.Mod (Expr.Constant (Const.int 47) 0 (Pos.mk 188 44 188 46)) (Pos.mk 188 26 188 46)) (Pos.mk 188 14 188 46)) Operator.Mod (Expr.Constant (Const.int 48) 0 (Pos.mk 188 50 188 52)) (Pos.mk 188 13 188 52)) (Pos.mk 188 4 188 52)), (Stmt.Assign [(Expr.Name (Str.ofString "drawn") (Pos.mk 189 4 189 9))] (Expr.ListComp (Expr.IfExp (Expr.Compare (Expr.BinOp (Expr.BinOp (Expr.Name (Str.ofString "total") (Pos.mk 189 23 189 28)) Operator.FloorDiv (Expr.BinOp (Expr.Constant (Const.int 2) 0 (Pos.mk 189 32 189 33)) Operator.Pow (Expr.Name (Str.ofString "k") (Pos.mk 189 37 189 38)) (Pos.mk 189 32 189 38)) (Pos.mk 189 23 189 38)) Operator.Mod (Expr.Constant (Const.int 2) 0 (Pos.mk 189 41 189 42)) (Pos.mk 189 23 189 42)) [CmpOp.Eq] [(Expr.Constant (Const.int 1) 0 (Pos.mk 189 46 189 47))] (Pos.mk 189 23 189 47)) (Expr.Name (Str.ofString "second") (Pos.mk 189 13 189 19)) (Expr.Name (Str.ofString "first") (Pos.mk 189 53 189 58)) (Pos.mk 189 13 189 58)) [(Comprehension.mk (Expr.Name (Str.ofString "k") (Pos.mk 189 63 189 64)) (Expr.Call (Expr.Name (Str.ofString "range") (Pos.mk 189 68 189 73)) [(Expr.Constant (Const.int 12) 0 (Pos.mk 189 74 189 76))] [] (Pos.mk 189 68 189 77)) [] 0)] (Scope.mk ScopeKind.function [(Prod.mk (Str.ofString ".0") NameKind.local), (Prod.mk (Str.ofString "k") NameKind.local), (Prod.mk (Str.ofString "first") NameKind.free), (Prod.mk (Str.ofString "second") NameKind.free), (Prod.mk (Str.ofString "total") NameKind.free)] Bool.false Bool.false []) (Pos.mk 189 12 189 78)) (Pos.mk 189 4 189 78)), (Stmt.Assign [(Expr.Name (Str.ofString "text") (Pos.mk 190 4 190 8))] (Expr.Call (Expr.Attribute (Expr.Constant (Const.str (Str.ofString "")) 0 (Pos.mk 190 11 190 13)) (Str.ofString "join") (Pos.mk 190 11 190 18)) [(Expr.ListComp (Expr.Call (Expr.Name (Str.ofString "_law_written") (Pos.mk 190 20 190 32)) [(Expr.Subscript (Expr.Name (Str.ofString "operators") (Pos.mk 190 33 190 42)) (Expr.Subscript (Expr.Name (Str.ofString "drawn") (Pos.mk 190 43 190 48)) (Expr.Name (Str.ofString "k") (Pos.mk 190 49 190 50)) (Pos.mk 190 43 190 51)) (Pos.mk 190 33 190 52)), (Expr.BinOp (Expr.Name (Str.ofString "total") (Pos.mk 190 54 190 59)) Operator.FloorDiv (Expr.BinOp (Expr.Constant (Const.int 3) 0 (Pos.mk 190 63 190 64)) Operator.Pow (Expr.Name (Str.ofString "k") (Pos.mk 190 68 190 69)) (Pos.mk 190 63 190 69)) (Pos.mk 190 54 190 69))] [] (Pos.mk 190 20 190 70)) [(Comprehension.mk (Expr.Name (Str.ofString "k") (Pos.mk 190 75 190 76)) (Expr.Call (Expr.Name (Str.ofString "range") (Pos.mk 190 80 190 85)) [(Expr.Constant (Const.int 12) 0 (Pos.mk 190 86 190 88))] [] (Pos.mk 190 80 190 89)) [] 0)] (Scope.mk ScopeKind.function [(Prod.mk (Str.ofString ".0") NameKind.local), (Prod.mk (Str.ofString "k") NameKind.local), (Prod.mk (Str.ofString "_law_written") NameKind.globalImplicit), (Prod.mk (Str.ofString "drawn") NameKind.free), (Prod.mk (Str.ofString "operators") NameKind.free), (Prod.mk (Str.ofString "total") NameKind.free)] Bool.false Bool.false []) (Pos.mk 190 19 190 90))] [] (Pos.mk 190 11 190 91)) (Pos.mk 190 4 190 91)), (Stmt.Assign [(Expr.Name (Str.ofString "lexer") (Pos.mk 191 4 191 9))] (Expr.Call (Expr.Name (Str.ofString "_netrclex") (Pos.mk 191 12 191 21)) [(Expr.Call (Expr.Name (Str.ofString "_law_stream") (Pos.mk 191 22 191 33)) [(Expr.Name (Str.ofString "text") (Pos.mk 191 34 191 38))] [] (Pos.mk 191 22 191 39))] [] (Pos.mk 191 12 191 40)) (Pos.mk 191 4 191 40)), (Stmt.Assign [(Expr.Name (Str.ofString "words") (Pos.mk 192 4 192 9))] (Expr.ListComp (Expr.Call (Expr.Attribute (Expr.Name (Str.ofString "lexer") (Pos.mk 192 13 192 18)) (Str.ofString "get_token") (Pos.mk 192 13 192 28)) [] [] (Pos.mk 192 13 192 30)) [(Comprehension.mk (Expr.Name (Str.ofString "k") (Pos.mk 192 35 192 36)) (Expr.Call (Expr.Name (Str.ofString "range") (Pos.mk 192 40 192 45)) [(Expr.Constant (Const.int 12) 0 (Pos.mk 192 46 192 48))] [] (Pos.mk 192 40 192 49)) [] 0)] (Scope.mk ScopeKind.function [(Prod.mk (Str.ofString ".0") NameKind.local), (Prod.mk (Str.ofString "k") NameKind.local), (Prod.mk (Str.ofString "lexer") NameKind.free)] Bool.false Bool.false []) (Pos.mk 192 12 192 50)) (Pos.mk 192 4 192 50)), (Stmt.For (Expr.Name (Str.ofString "word") (Pos.mk 193 8 193 12)) (Expr.Name (Str.ofString "words") (Pos.mk 193 16 193 21)) [(Stmt.Expr (Expr.Call (Expr.Attribute (Expr.Name (Str.ofString "lexer") (Pos.mk 194 8 194 13)) (Str.ofString "push_token") (Pos.mk 194 8 194 24)) [(Expr.Call (Expr.Name (Str.ofString "_law_word") (Pos.mk 194 25 194 34)) [(Expr.Subscript (Expr.Name (Str.ofString "EXACT_TOKEN_TYPES") (Pos.mk 194 35 194 52)) (Expr.Name (Str.ofString "word") (Pos.mk 194 53 194 57)) (Pos.mk 194 35 194 58))] [] (Pos.mk 194 25 194 59))] [] (Pos.mk 194 8 194 60)) (Pos.mk 194 8 194 60))] [] (Pos.mk 193 4 194 60)), (Stmt.If (Expr.Compare (Expr.Call (Expr.Name (Str.ofString "_law_word") (Pos.mk 195 7 195 16)) [(Expr.Constant (Const.int 0) 0 (Pos.mk 195 17 195 18))] [] (Pos.mk 195 7 195 19)) [CmpOp.NotEq] [(Expr.Constant (Const.str (Str.ofString "")) 0 (Pos.mk 195 23 195 25))] (Pos.mk 195 7 195 25)) [(Stmt.Return (Option.some (Expr.Constant (Const.bool Bool.false) 0 (Pos.mk 196 15 196 20))) (Pos.mk 196 8 196 20))] [] (Pos.mk 195 4 196 20)), (Stmt.Expr (Expr.Call (Expr.Attribute (Expr.Name (Str.ofString "lexer") (Pos.mk 197 4 197 9)) (Str.ofString "push_token") (Pos.mk 197 4 197 20)) [(Expr.Call (Expr.Name (Str.ofString "_law_word") (Pos.mk 197 21 197 30)) [(Expr.Constant (Const.int 0) 0 (Pos.mk 197 31 197 32))] [] (Pos.mk 197 21 197 33))] [] (Pos.mk 197 4 197 34)) (Pos.mk 197 4 197 34)), (Stmt.Assign [(Expr.Name (Str.ofString "pairs") (Pos.mk 198 4 198 9))] (Expr.Call (Expr.Name (Str.ofString "_law_pairs") (Pos.mk 198 12 198 22)) [(Expr.Name (Str.ofString "script") (Pos.mk 198 23 198 29)), (Expr.List [(Expr.BinOp (Expr.Name (Str.ofString "first") (Pos.mk 198 32 198 37)) Operator.Add (Expr.Constant (Const.int 7) 0 (Pos.mk 198 40 198 41)) (Pos.mk 198 32 198 41)), (Expr.BinOp (Expr.Name (Str.ofString "second") (Pos.mk 198 43 198 49)) Operator.Add (Expr.Constant (Const.int 7) 0 (Pos.mk 198 52 198 53)) (Pos.mk 198 43 198 53))] (Pos.mk 198 31 198 54))] [] (Pos.mk 198 12 198 55)) (Pos.mk 198 4 198 55)), (Stmt.For (Expr.Name (Str.ofString "rule") (Pos.mk 199 8 199 12)) (Expr.Call (Expr.Name (Str.ofString "range") (Pos.mk 199 16 199 21)) [(Expr.Constant (Const.int 4) 0 (Pos.mk 199 22 199 23))] [] (Pos.mk 199 16 199 24)) [(Stmt.Expr (Expr.Call (Expr.Name (Str.ofString "_law_round") (Pos.mk 200 8 200 18)) [(Expr.Name (Str.ofString "lexer") (Pos.mk 200 19 200 24)), (Expr.Subscript (Expr.Subscript (Expr.Name (Str.ofString "pairs") (Pos.mk 200 26 200 31)) (Expr.Name (Str.ofString "rule") (Pos.mk 200 32 200 36)) (Pos.mk 200 26 200 37)) (Expr.Constant (Const.int 0) 0 (Pos.mk 200 38 200 39)) (Pos.mk 200 26 200 40)), (Expr.Subscript (Expr.Subscript (Expr.Name (Str.ofString "pairs") (Pos.mk 200 42 200 47)) (Expr.Name (Str.ofString "rule") (Pos.mk 200 48 200 52)) (Pos.mk 200 42 200 53)) (Expr.Constant (Const.int 1) 0 (Pos.mk 200 54 200 55)) (Pos.mk 200 42 200 56)), (Expr.BinOp (Expr.Constant (Const.int 256) 0 (Pos.mk 200 58 200 61)) Operator.Add (Expr.Name (Str.ofString "rule") (Pos.mk 200 64 200 68)) (Pos.mk 200 58 200 68))] [] (Pos.mk 200 8 200 69)) (Pos.mk 200 8 200 69))] [] (Pos.mk 199 4 200 69)), (Stmt.Assign [(Expr.Name (Str.ofString "row") (Pos.mk 201 4 201 7))] (Expr.Call (Expr.Name (Str.ofString "_law_row") (Pos.mk 201 10 201 18)) [(Expr.Name (Str.ofString "lexer") (Pos.mk 201 19 201 24))] [] (Pos.mk 201 10 201 25)) (Pos.mk 201 4 201 25)), (Stmt.Assign [(Expr.Name (Str.ofString "symbols") (Pos.mk 202 4 202 11))] (Expr.ListComp (Expr.BinOp (Expr.Name (Str.ofString "place") (Pos.mk 202 15 202 20)) Operator.Add (Expr.Constant (Const.int 7) 0 (Pos.mk 202 23 202 24)) (Pos.mk 202 15 202 24)) [(Comprehension.mk (Expr.Name (Str.ofString "place") (Pos.mk 202 29 202 34)) (Expr.Name (Str.ofString "drawn") (Pos.mk 202 38 202 43)) [] 0)] (Scope.mk ScopeKind.function [(Prod.mk (Str.ofString ".0") NameKind.local), (Prod.mk (Str.ofString "place") NameKind.local)] Bool.false Bool.false []) (Pos.mk 202 14 202 44)) (Pos.mk 202 4 202 44)), (Stmt.If (Expr.BoolOp BoolOp.Or [(Expr.Compare (Expr.Name (Str.ofString "row") (Pos.mk 203 7 203 10)) [CmpOp.NotEq] [(Expr.Call (Expr.Name (Str.ofString "_law_joined") (Pos.mk 203 14 203 25)) [(Expr.Name (Str.ofString "symbols") (Pos.mk 203 26 203 33)), (Expr.Name (Str.ofString "pairs") (Pos.mk 203 35 203 40))] [] (Pos.mk 203 14 203 41))] (Pos.mk 203 7 203 41)), (Expr.Compare (Expr.Call (Expr.Name (Str.ofString "_law_parted") (Pos.mk 203 45 203 56)) [(Expr.Name (Str.ofString "row") (Pos.mk 203 57 203 60)), (Expr.Name (Str.ofString "pairs") (Pos.mk 203 62 203 67))] [] (Pos.mk 203 45 203 68)) [CmpOp.NotEq] [(Expr.Name (Str.ofString "symbols") (Pos.mk 203 72 203 79))] (Pos.mk 203 45 203 79))] (Pos.mk 203 7 203 79)) [(Stmt.Return (Option.some (Expr.Constant (Const.bool Bool.false) 0 (Pos.mk 204 15 204 20))) (Pos.mk 204 8 204 20))] [] (Pos.mk 203 4 204 20)), (Stmt.Return (Option.some (Expr.BoolOp BoolOp.And [(Expr.Compare (Expr.Call (Expr.Attribute (Expr.Name (Str.ofString "lexer") (Pos.mk 205 11 205 16)) (Str.ofString "get_token") (Pos.mk 205 11 205 26)) [] [] (Pos.mk 205 11 205 28)) [CmpOp.Eq] [(Expr.Constant (Const.str (Str.ofString "")) 0 (Pos.mk 205 32 205 34))] (Pos.mk 205 11 205 34)), (Expr.Compare (Expr.Attribute (Expr.Name (Str.ofString "lexer") (Pos.mk 205 39 205 44)) (Str.ofString "lineno") (Pos.mk 205 39 205 51)) [CmpOp.Eq] [(Expr.BinOp (Expr.Constant (Const.int 1) 0 (Pos.mk 205 55 205 56)) Operator.Add (Expr.Call (Expr.Attribute (Expr.Name (Str.ofString "text") (Pos.mk 205 59 205 63)) (Str.ofString "count") (Pos.mk 205 59 205 69)) [(Expr.Constant (Const.str (Str.ofString "\n")) 0 (Pos.mk 205 70 205 74))] [] (Pos.mk 205 59 205 75)) (Pos.mk 205 55 205 75))] (Pos.mk 205 39 205 75))] (Pos.mk 205 11 205 75))) (Pos.mk 205 4 205 75))]) (Scope.mk ScopeKind.function [(Prod.mk (Str.ofString "script") NameKind.cell), (Prod.mk (Str.ofString "operators") NameKind.cell), (Prod.mk (Str.ofString "total") NameKind.cell), (Prod.mk (Str.ofString "first") NameKind.cell), (Prod.mk (Str.ofString "second") NameKind.cell), (Prod.mk (Str.ofString "drawn") NameKind.cell), (Prod.mk (Str.ofString "text") NameKind.local), (Prod.mk (Str.ofString "lexer") NameKind.cell), (Prod.mk (Str.ofString "words") NameKind.local), (Prod.mk (Str.ofString "word") NameKind.local), (Prod.mk (Str.ofString "pairs") NameKind.local), (Prod.mk (Str.ofString "rule") NameKind.local), (Prod.mk (Str.ofString "row") NameKind.local), (Prod.mk (Str.ofString "symbols") NameKind.local), (Prod.mk (Str.ofString "_law_operators") NameKind.globalImplicit), (Prod.mk (Str.ofString "sum") NameKind.globalImplicit), (Prod.mk (Str.ofString "range") NameKind.globalImplicit), (Prod.mk (Str.ofString "min") NameKind.globalImplicit), (Prod.mk (Str.ofString "len") NameKind.globalImplicit), (Prod.mk (Str.ofString "_netrclex") NameKind.globalImplicit), (Prod.mk (Str.ofString "_law_stream") NameKind.globalImplicit), (Prod.mk (Str.ofString "_law_word") NameKind.globalImplicit), (Prod.mk (Str.ofString "EXACT_TOKEN_TYPES") NameKind.globalImplicit), (Prod.mk (Str.ofString "_law_pairs") NameKind.globalImplicit), (Prod.mk (Str.ofString "_law_round") NameKind.globalImplicit), (Prod.mk (Str.ofString "_law_row") NameKind.globalImplicit), (Prod.mk (Str.ofString "_law_joined") NameKind.globalImplicit), (Prod.mk (Str.ofString "_law_parted") NameKind.globalImplicit)] Bool.false Bool.false [(Prod.mk (Str.ofString "fast") (Const.str (Str.ofString "script"))), (Prod.mk (Str.ofString "fast") (Const.str (Str.ofString "operators"))), (Prod.mk (Str.ofString "fast") (Const.str (Str.ofString "k"))), (Prod.mk (Str.ofString "fast") (Const.str (Str.ofString "total"))), (Prod.mk (Str.ofString "fast") (Const.str (Str.ofString "first"))), (Prod.mk (Str.ofString "fast") (Const.str (Str.ofString "second"))), (Prod.mk (Str.ofString "fast") (Const.str (Str.ofString "drawn"))), (Prod.mk (Str.ofString "fast") (Const.str (Str.ofString "text"))), (Prod.mk (Str.ofString "fast") (Const.str (Str.ofString "lexer"))), (Prod.mk (Str.ofString "fast") (Const.str (Str.ofString "words"))), (Prod.mk (Str.ofString "fast") (Const.str (Str.ofString "word"))), (Prod.mk (Str.ofString "fast") (Const.str (Str.ofString "pairs"))), (Prod.mk (Str.ofString "fast") (Const.str (Str.ofString "rule"))), (Prod.mk (Str.ofString "fast") (Const.str (Str.ofString "row"))), (Prod.mk (Str.ofString "fast") (Const.str (Str.ofString "place"))), (Prod.mk (Str.ofString "fast") (Const.str (Str.ofString "symbols")))]) 0 [] Value.none Value.none Value.none Value.none (Option.none) Value.none Value.none 0)) #[]),
  fo P 146,
  fo P 147] (Life.mk [] [] [] 0 [] [] Bool.false #[] [] 0 Bool.false Bool.false Bool.false 0 [2000, 10, 10] Bool.false 0 Bool.true [] [] 0 Bool.false)
noncomputable abbrev endF (w : World) : Shared := ⟨H1 w.params, #[], Drawn.mk 0 0 0 0, 562, (start (opening prg)).1.os⟩
theorem runF (w : World) : openEnds treeTable prg (w.withFollow "special-get-raises" false) 4520 = some (endF (w.withFollow "special-get-raises" false)) := by kernel_rfl
theorem runT (w : World) : openEnds treeTable prg (w.withFollow "special-get-raises" true) 4520 = some (endF (w.withFollow "special-get-raises" true)) := by kernel_rfl
theorem looks (w : World) : (openSeen viewQ lse (importedModules prg.main.body) xtQ true (endF w), Hook.obs hook (endF w)) = (openGood viewQ lse, Hook.val hook w) := by kernel_rfl
theorem leftF (w : World) : (openEnds treeTable prg (w.withFollow "special-get-raises" false) 4520).map (fun s => (openSeen viewQ lse (importedModules prg.main.body) xtQ true s, Hook.obs hook s)) = some (openGood viewQ lse, Hook.val hook (w.withFollow "special-get-raises" false)) := (congrArg (Option.map _) (runF w)).trans (congrArg some (looks (w.withFollow "special-get-raises" false)))
theorem leftT (w : World) : (openEnds treeTable prg (w.withFollow "special-get-raises" true) 4520).map (fun s => (openSeen viewQ lse (importedModules prg.main.body) xtQ true s, Hook.obs hook s)) = some (openGood viewQ lse, Hook.val hook (w.withFollow "special-get-raises" true)) := (congrArg (Option.map _) (runT w)).trans (congrArg some (looks (w.withFollow "special-get-raises" true)))
section
local macro_rules | `(tactic| o_law) => `(tactic| refine holds_law (by decide +kernel) fun said => ?_)
local macro_rules | `(tactic| k_head) => `(tactic| refine holds_open (q := viewQ) (loose := lse) (Xt := xtQ) (XP := XL viewQ []) (Yf := Hook.obs (kmHook frg.heap_1 ads ads_ok [82])) (Ya := Hook.val (kmHook frg.heap_1 ads ads_ok [82])) (YP := Hook.says (kmHook frg.heap_1 ads ads_ok [82])) (N := 4520) (left_two "special-get-raises" leftF leftT) (Hook.of (kmHook frg.heap_1 ads ads_ok [82])) (Hook.keeps (kmHook frg.heap_1 ads ads_ok [82])) (fun s e => xl_of s (Bool.and_eq_true_iff.mp e).1) XL.keeps (by rfl) (by rfl) (by rfl) (fun s e => recFacts_of (Bool.and_eq_true_iff.mp e).2) (by rfl) (by first | assumption | decide +kernel) (by decide +kernel) ⟨rfl, rfl, rfl, rfl, rfl, by decide +kernel⟩ ?hw ?hc)
open_top hd for PySem.Challenge.rw_ta0022_01
end
end Mine
open PySem.Calls
open Builtin Builtin.ObjectAttr
namespace Mine
structure Box (p : Prop) : Prop where
  get : p
structure Box2 (p : Prop) : Prop where
  get : p
theorem ne_lt {a b : Nat} (h : a < b) : a ≠ b := Nat.ne_of_lt h
theorem ne_gt {a b : Nat} (h : b < a) : a ≠ b := Nat.ne_of_gt h
theorem ne_ne {a b : Nat} (h : b ≠ a) : a ≠ b := Ne.symm h
theorem offU {a b c d N : Nat} (h : a + c < N) (hb : b + d ≤ c) : a + b + d < N := Nat.lt_of_le_of_lt (by rw [Nat.add_assoc]; exact Nat.add_le_add_left hb a) h
theorem offU1 {a c N : Nat} (h : a + c < N) : a < N := Nat.lt_of_le_of_lt (Nat.le_add_right a c) h
/-- all but the addresses `muts` stays as it was -/
noncomputable def Keeps (muts : List Addr) (h h' : Heap) : Prop := ∀ b o, h.get? b = some o → b ∉ muts → h'.get? b = some o

theorem Keeps.refl {muts : List Addr} {h : Heap} : Keeps muts h h := fun _ _ e _ => e
theorem Keeps.narrow {muts muts' : List Addr} {h h' : Heap} (k : Keeps muts h h') (hs : ∀ a ∈ muts, a ∈ muts' ∨ ∃ o, h.get? a = some o ∧ h'.get? a = some o) : Keeps muts' h h' := fun b ob eb n => by
  by_cases q : b ∈ muts
  · rcases hs b q with r | ⟨o, e, e'⟩
    · exact absurd r n
    · rw [e] at eb; rw [← eb]; exact e'
  · exact k b ob eb q
theorem Keeps.trans {muts : List Addr} {h h' h'' : Heap} (a : Keeps muts h h') (b : Keeps muts h' h'') : Keeps muts h h'' := fun x o e n => b x o (a x o e n) n
theorem Keeps.mono {muts muts' : List Addr} {h h' : Heap} (a : Keeps muts h h') (hs : ∀ x ∈ muts, x ∈ muts') : Keeps muts' h h' := fun x o e n => a x o e fun q => n (hs x q)

section
variable {w : World} {loose : List Str} {mean : ExcName → Option Value} {mg mb : Str → Option Value}

noncomputable abbrev around (dp un : Nat) (gd : Option (List Code)) (outer : List Env) : Around := { handled := none, depth := dp, frames := some outer, guards := gd, units := un }

/-- the contract of a code: run from any heap-level surrounding -/
noncomputable def Spec (w : World) (loose : List Str) (mean : ExcName → Option Value) (mg mb : Str → Option Value) (c : Code) (d u : Nat) (muts own : List Addr) (h : Heap) (Post : Value → Heap → Prop) : Prop :=
  ∀ (dp un : Nat) (gd : Option (List Code)) (base : Heap) (outer : List Env) (h₀ : Heap) (s : Shared) (R : Result → Shared → Prop), s.heap = h → Below (around dp un gd outer) base outer h₀ → (frg.heap_1 w.params).In h₀ → Top topProg loose mean mg mb h₀ →
    (∀ b o, h₀.get? b = some o → h.get? b = some o) → (∀ a ∈ own, h₀.get? a = none) → dp + d < recursionLimit → un + u < cLine →
    (∀ v h' tk', Keeps muts h h' → Post v h' → R (.ok (.ret v)) { s with heap := h', toks := tk' }) → codeAny (model PySem.Challenge.rw_ta0022_01.row.prog w) (around dp un gd outer) c R s

theorem enter {A : Around} {base h₀ : Heap} {outer : List Env} {s : Shared} {R : Result → Shared → Prop} {news : List (Addr × Obj)}
    {name qual : Str} {params : Arguments} {body : List Stmt} {scope : Scope} {dV kV doc pm cdv ct oc : Value} {an od : Option Addr} {osl : Array (Option Value)} {f : Addr} {args : Args} {binds : List (Str × Value)}
    (B : Below A base outer h₀) (X : (frg.heap_1 w.params).In h₀) (T : Top topProg loose mean mg mb h₀) (k : ∀ b o, h₀.get? b = some o → s.heap.get? b = some o)
    (hn : ∀ p ∈ news, s.heap.get? p.1 = some p.2) (hf : ∀ a ∈ news.map (·.1), h₀.get? a = none)
    (ho : (frg.heap_1 w.params).lookup f = some ⟨oc, od, .func (fnOf name qual params body scope dV kV doc pm an cdv ct), osl⟩) (hcd : codeIn (frg.heap_1 w.params) cdv qual = true) (hroom : A.depth < recursionLimit)
    (hbind : BindsTo s (fnOf name qual params body scope dV kV doc pm an cdv ct) args binds) (hloc : ∀ y ∈ binds, scope.names.lookup y.1 = some .local)
    (h : ∀ g L' h₁, Fr g L' h₁ (fun y => binds.reverse.lookup y) → News g L' h₁ news → Below A base outer g → (frg.heap_1 w.params).In g → Top topProg loose mean mg mb g → (∀ p ∈ news, p.1 < L') →
      (∀ h', (∀ b o, g.get? b = some o → h'.get? b = some o) → Keeps (news.map (·.1)) s.heap h') → s.heap.objs.size ≤ L' →
      wpAny (model PySem.Challenge.rw_ta0022_01.row.prog w) (A.deeper (envOf qual scope L' f cdv)) (execs body (envOf qual scope L' f cdv))
        (fun fl s' => R (.ok (.ret (match fl with | .ret v => v | _ => .none))) s')
        (fun _ _ => False)
        { s with heap := h₁, toks := s.toks + binds.length })
    (hcell : ∀ x ∈ scope.names, x.2 ≠ .cell) (hco : scope.isCoroutine = false := by rfl) (hgen : scope.isGenerator = false := by rfl) (hk : scope.kind = .function := by rfl) : codeAny (model PySem.Challenge.rw_ta0022_01.row.prog w) A (.call (.ref f) args) R s := by
  have st : ∀ b o, h₀.get? b = some o → (hideAll s.heap (news.map (·.1))).get? b = some o := fun b o e => hideAll_get _ (k b o e) fun q => by rw [hf b q] at e; cases e
  have BG : Below A base outer (hideAll s.heap (news.map (·.1))) := ⟨B.stack, fun b o e => st b o (B.stays b o e), B.frames.of_keeps fun b o e _ => ⟨o, st b o e, rfl⟩⟩
  refine codeAny_call_def (fd := fnOf name qual params body scope dV kV doc pm an cdv ct) (body := body) (binds := binds) hroom (k _ _ (X _ _ ho)) rfl (T.nolimit.keeps k) (codeRec_of (fun a o e => k _ _ (X a o e)) hcd) rfl hbind hcell hloc (fun h₁ hns hk₁ => ?_) hco hgen hk
  refine wpAny_mono (E := fun _ _ => False) ?_ (fun _ _ x => x) (fun _ _ x => False.elim x)
  exact h (hideAll s.heap (news.map (·.1))) s.heap.objs.size h₁ ⟨hns, fun b o e => hk₁ b o (of_hideAll _ e), Nat.le_of_eq (hideAll_size _ _)⟩
    (fun p hp => ⟨hk₁ _ _ (hn p hp), Nat.ne_of_lt (Heap.lt_size (hn p hp)), hideAll_none _ (List.mem_map_of_mem hp)⟩) BG (fun a o e => st _ _ (X a o e)) (T.keeps st) (fun p hp => Heap.lt_size (hn p hp))
    (fun h' hk b o e n => hk b o (hideAll_get _ e n)) (Nat.le_refl _)

theorem enterX {A : Around} {base h₀ : Heap} {outer : List Env} {s : Shared} {R : Result → Shared → Prop} {news : List (Addr × Obj)}
    {name qual : Str} {params : Arguments} {body : List Stmt} {scope : Scope} {cl : List (Str × Addr)} {doc pm ctv : Value} {c' f : Addr} {args : Args} {binds : List (Str × Value)}
    (B : Below A base outer h₀) (X : (frg.heap_1 w.params).In h₀) (T : Top topProg loose mean mg mb h₀) (k : ∀ b o, h₀.get? b = some o → s.heap.get? b = some o)
    (hn : ∀ p ∈ news, s.heap.get? p.1 = some p.2) (hf : ∀ a ∈ news.map (·.1), h₀.get? a = none)
    (ho : s.heap.get? f = some (fnMade name qual params body scope cl doc pm c' ctv)) (hcd : s.heap.CodeRec (.ref c') qual) (hroom : A.depth < recursionLimit)
    (hbind : BindsTo s (fnX name qual params body scope cl .none .none doc pm none (.ref c') ctv) args binds) (hloc : ∀ y ∈ binds, scope.names.lookup y.1 = some .local)
    (h : ∀ g L' h₁, Fr g L' h₁ (fun y => binds.reverse.lookup y) → News g L' h₁ news → Below A base outer g → (frg.heap_1 w.params).In g → Top topProg loose mean mg mb g → (∀ p ∈ news, p.1 < L') →
      (∀ h', (∀ b o, g.get? b = some o → h'.get? b = some o) → Keeps (news.map (·.1)) s.heap h') → s.heap.objs.size ≤ L' →
      wpAny (model PySem.Challenge.rw_ta0022_01.row.prog w) (A.deeper (envX qual scope L' f (.ref c') cl)) (execs body (envX qual scope L' f (.ref c') cl))
        (fun fl s' => R (.ok (.ret (match fl with | .ret v => v | _ => .none))) s') (fun _ _ => False) { s with heap := h₁, toks := s.toks + binds.length })
    (hcell : ∀ x ∈ scope.names, x.2 ≠ .cell) (hco : scope.isCoroutine = false := by rfl) (hgen : scope.isGenerator = false := by rfl) (hk : scope.kind = .function := by rfl) : codeAny (model PySem.Challenge.rw_ta0022_01.row.prog w) A (.call (.ref f) args) R s := by
  have st : ∀ b o, h₀.get? b = some o → (hideAll s.heap (news.map (·.1))).get? b = some o := fun b o e => hideAll_get _ (k b o e) fun q => by rw [hf b q] at e; cases e
  have BG : Below A base outer (hideAll s.heap (news.map (·.1))) := ⟨B.stack, fun b o e => st b o (B.stays b o e), B.frames.of_keeps fun b o e _ => ⟨o, st b o e, rfl⟩⟩
  refine codeAny_call_def (fd := fnX name qual params body scope cl .none .none doc pm none (.ref c') ctv) (body := body) (binds := binds) hroom ho rfl (T.nolimit.keeps k) hcd rfl hbind hcell hloc (fun h₁ hns hk₁ => ?_) hco hgen hk
  refine wpAny_mono (E := fun _ _ => False) ?_ (fun _ _ x => x) (fun _ _ x => False.elim x)
  exact h (hideAll s.heap (news.map (·.1))) s.heap.objs.size h₁ ⟨hns, fun b o e => hk₁ b o (of_hideAll _ e), Nat.le_of_eq (hideAll_size _ _)⟩
    (fun p hp => ⟨hk₁ _ _ (hn p hp), Nat.ne_of_lt (Heap.lt_size (hn p hp)), hideAll_none _ (List.mem_map_of_mem hp)⟩) BG (fun a o e => st _ _ (X a o e)) (T.keeps st) (fun p hp => Heap.lt_size (hn p hp))
    (fun h' hk b o e n => hk b o (hideAll_get _ e n)) (Nat.le_refl _)

theorem enterC {A : Around} {base h₀ : Heap} {outer : List Env} {s : Shared} {R : Result → Shared → Prop} {news : List (Addr × Obj)}
    {name qual : Str} {params : Arguments} {body : List Stmt} {scope : Scope} {dV kV doc pm cdv ct oc : Value} {an od : Option Addr} {osl : Array (Option Value)} {f : Addr} {args : Args} {binds : List (Str × Value)}
    (B : Below A base outer h₀) (X : (frg.heap_1 w.params).In h₀) (T : Top topProg loose mean mg mb h₀) (k : ∀ b o, h₀.get? b = some o → s.heap.get? b = some o)
    (hn : ∀ p ∈ news, s.heap.get? p.1 = some p.2) (hf : ∀ a ∈ news.map (·.1), h₀.get? a = none)
    (ho : (frg.heap_1 w.params).lookup f = some ⟨oc, od, .func (fnOf name qual params body scope dV kV doc pm an cdv ct), osl⟩) (hcd : codeIn (frg.heap_1 w.params) cdv qual = true) (hroom : A.depth < recursionLimit)
    (hbind : BindsTo s (fnOf name qual params body scope dV kV doc pm an cdv ct) args binds) (hkind : (binds.all fun y => scope.names.lookup y.1 == some .local || scope.names.lookup y.1 == some .cell) = true)
    (hnd : ((cellsFrom 0 scope.names []).map (·.1)).Nodup)
    (h : ∀ g L' h₁ tk cells, Fr g L' h₁ (bindL (envOfC qual scope L' f cdv).kindOf binds fun _ => none) → News g L' h₁ (cells ++ news) → CellsAre (bindC (envOfC qual scope L' f cdv).kindOf binds fun _ => none) (cellsFrom (L' + 1) scope.names []) cells →
      Below A base outer g → (frg.heap_1 w.params).In g → Top topProg loose mean mg mb g → (∀ p ∈ news, p.1 < L') →
      (∀ h', (∀ b o, g.get? b = some o → h'.get? b = some o) → Keeps (news.map (·.1)) s.heap h') → s.heap.objs.size ≤ L' →
      wpAny (model PySem.Challenge.rw_ta0022_01.row.prog w) (A.deeper (envOfC qual scope L' f cdv)) (execs body (envOfC qual scope L' f cdv))
        (fun fl s' => R (.ok (.ret (match fl with | .ret v => v | _ => .none))) s')
        (fun _ _ => False)
        { s with heap := h₁, toks := tk })
    (hco : scope.isCoroutine = false := by rfl) (hgen : scope.isGenerator = false := by rfl) (hk : scope.kind = .function := by rfl) : codeAny (model PySem.Challenge.rw_ta0022_01.row.prog w) A (.call (.ref f) args) R s := by
  have st : ∀ b o, h₀.get? b = some o → (hideAll s.heap (news.map (·.1))).get? b = some o := fun b o e => hideAll_get _ (k b o e) fun q => by rw [hf b q] at e; cases e
  have BG : Below A base outer (hideAll s.heap (news.map (·.1))) := ⟨B.stack, fun b o e => st b o (B.stays b o e), B.frames.of_keeps fun b o e _ => ⟨o, st b o e, rfl⟩⟩
  refine codeAny_call_function hroom (k _ _ (X _ _ ho)) rfl hco hgen rfl (codeRec_of (fun a o e => k _ _ (X a o e)) hcd) (hbind _ _ _ _ ?_)
  refine wpAny_newFunctionEnv_cells hk (kindsX hkind _) fun env' he s' x => ?_
  subst he
  refine ⟨(T.nolimit.keeps k).keeps x.toInCall.keep, codeAny_func ?_⟩
  obtain ⟨h₁, tk, rfl, _⟩ := x.done
  have hk₁ := x.toInCall.keep
  obtain ⟨cells, NC, Y⟩ := Cl.news (h₀ := s.heap) (Nat.le_refl _) fun n c hm => ⟨x.cell n c (lookup_of_mem_nodup (cellsFrom_names scope.names 0 (s.heap.objs.size + 1) [] [] rfl ▸ hnd) hm), x.above n c hm⟩
  refine wpAny_mono (E := fun _ _ => False) ?_ (fun _ _ x => x) (fun _ _ x => False.elim x)
  refine h (hideAll s.heap (news.map (·.1))) s.heap.objs.size h₁ tk cells ⟨x.toInCall.ns, fun b o e => hk₁ b o (of_hideAll _ e), Nat.le_of_eq (hideAll_size _ _)⟩ (fun p hp => ?_) Y BG (fun a o e => st _ _ (X a o e)) (T.keeps st) (fun p hp => Heap.lt_size (hn p hp))
    (fun h' hk b o e n => hk b o (hideAll_get _ e n)) (Nat.le_refl _)
  rcases List.mem_append.mp hp with hp | hp
  · refine ⟨(NC p hp).1, (NC p hp).2.1, ?_⟩
    cases q : (hideAll s.heap (news.map (·.1))).get? p.1 with
    | none => rfl
    | some o => have := of_hideAll _ q; rw [(NC p hp).2.2] at this; cases this
  · exact ⟨hk₁ _ _ (hn p hp), Nat.ne_of_lt (Heap.lt_size (hn p hp)), hideAll_none _ (List.mem_map_of_mem hp)⟩

theorem Fr.keeps2 {h₀ h h' : Heap} {L : Addr} {m : Str → Option Value} {news : List (Addr × Obj)} {muts : List Addr} (F : Fr h₀ L h m) (N : News h₀ L h news) (k : Keeps muts h h') (hm : ∀ a ∈ muts, a ∈ news.map (·.1)) : Fr h₀ L h' m := by
  obtain ⟨oL, a1, a2, hoL, a3⟩ := F.ns
  have nL : L ∉ muts := fun q => by
    obtain ⟨p, hp, e⟩ := List.mem_map.mp (hm L q)
    exact (N p hp).2.1 e
  refine ⟨⟨oL, a1, a2, k _ _ hoL nL, a3⟩, fun b o e => k b o (F.keep b o e) fun q => ?_, F.above⟩
  obtain ⟨p, hp, rfl⟩ := List.mem_map.mp (hm b q)
  rw [(N p hp).2.2] at e; cases e

theorem News.keeps2 {h₀ h h' : Heap} {L : Addr} {news : List (Addr × Obj)} {muts : List Addr} (N : News h₀ L h news) (k : Keeps muts h h') {p : Addr × Obj} (hp : p ∈ news) (hn : p.1 ∉ muts) : h'.get? p.1 = some p.2 ∧ p.1 ≠ L ∧ h₀.get? p.1 = none :=
  ⟨k _ _ (N p hp).1 hn, (N p hp).2⟩
theorem News.mut2 {h₀ h h' : Heap} {L : Addr} {news : List (Addr × Obj)} (N : News h₀ L h news) {p : Addr × Obj} {o' : Obj} (hp : p ∈ news) (ho : h'.get? p.1 = some o') : h'.get? p.1 = some o' ∧ p.1 ≠ L ∧ h₀.get? p.1 = none :=
  ⟨ho, (N p hp).2⟩
theorem News.new2 {h₀ h h' : Heap} {L a : Addr} {m : Str → Option Value} {o : Obj} (F : Fr h₀ L h m) (ho : h'.get? a = some o) (hl : h.objs.size ≤ a) : h'.get? a = some o ∧ a ≠ L ∧ h₀.get? a = none :=
  ⟨ho, Nat.ne_of_gt (Nat.lt_of_lt_of_le F.ns.lt hl), by
    cases q : h₀.get? a with
    | none => rfl
    | some o' => exact absurd (Nat.lt_of_lt_of_le (Heap.lt_size (F.keep _ _ q)) hl) (Nat.lt_irrefl _)⟩

theorem Spec.useC {A A₀ : Around} {base h₀ : Heap} {outer : List Env} {env : Env} {s : Shared} {R : Result → Shared → Prop} {news : List (Addr × Obj)} {c : Code} {L : Addr} {m : Str → Option Value} {d u : Nat} {muts own : List Addr} {Post : Value → Heap → Prop}
    (S : Spec w loose mean mg mb c d u muts own s.heap Post)
    (B : Below A₀ base outer h₀) (F : Fr h₀ L s.heap m) (X : (frg.heap_1 w.params).In h₀) (N : News h₀ L s.heap news) (T : Top topProg loose mean mg mb h₀) (hA : A.frames = some (env :: outer)) (hf : env.frame = some L) (hke : env.scope.kind = .function) (hh : A.handled = none)
    (hm : ∀ a ∈ muts, a ∈ news.map (·.1)) (ho : ∀ a ∈ own, a ∈ news.map (·.1)) (hd : A.depth + d < recursionLimit) (hu : A.units + u < cLine)
    (h : ∀ v h' tk', Fr h₀ L h' m → Keeps muts s.heap h' → Post v h' → R (.ok (.ret v)) { s with heap := h', toks := tk' }) : codeAny (model PySem.Challenge.rw_ta0022_01.row.prog w) A c R s := by
  obtain ⟨FG, BG, st, -⟩ := groundX (R := fun _ _ => True) B F N hA hf hke
  obtain ⟨ah, ad, af, ag, au⟩ := A
  cases hh; cases hA
  exact S ad au ag base (env :: outer) _ s _ rfl BG (X.keeps st) (T.keeps st) (fun b o e => of_hideAll _ e) (fun a ha => hideAll_none _ (ho a ha)) hd hu fun v h' tk' k p => h v h' tk' (Fr.keeps2 F N k hm) k p
theorem Spec.use {A A₀ : Around} {base h₀ : Heap} {outer : List Env} {env : Env} {s : Shared} {Q E : Value → Shared → Prop} {news : List (Addr × Obj)} {f : Addr} {args : List Value} {L : Addr} {m : Str → Option Value} {d u : Nat} {muts own : List Addr} {Post : Value → Heap → Prop}
    (S : Spec w loose mean mg mb (.call (.ref f) ⟨args, []⟩) d u muts own s.heap Post)
    (B : Below A₀ base outer h₀) (F : Fr h₀ L s.heap m) (X : (frg.heap_1 w.params).In h₀) (N : News h₀ L s.heap news) (T : Top topProg loose mean mg mb h₀) (hA : A.frames = some (env :: outer)) (hf : env.frame = some L) (hke : env.scope.kind = .function) (hh : A.handled = none)
    (hm : ∀ a ∈ muts, a ∈ news.map (·.1)) (ho : ∀ a ∈ own, a ∈ news.map (·.1)) (hd : A.depth + d < recursionLimit) (hu : A.units + u < cLine)
    (h : ∀ v h' tk', Fr h₀ L h' m → Keeps muts s.heap h' → Post v h' → Q v { s with heap := h', toks := tk' }) : wpAny (model PySem.Challenge.rw_ta0022_01.row.prog w) A (call (.ref f) args) Q E s :=
  wpAny_call (S.useC B F X N T hA hf hke hh hm ho hd hu h)
theorem Spec.useE {A A₀ : Around} {base h₀ : Heap} {outer : List Env} {env : Env} {s : Shared} {Q E : Value → Shared → Prop} {news : List (Addr × Obj)} {f : Addr} {args : List Value} {L : Addr} {m : Str → Option Value} {d u : Nat} {muts own : List Addr} {cv : Value} {P : Nat → Heap → Prop}
    (S : Spec w loose mean mg mb (.call (.ref f) ⟨args, []⟩) d u muts own s.heap (fun v h' => v = cv ∧ ∃ n, P n h'))
    (B : Below A₀ base outer h₀) (F : Fr h₀ L s.heap m) (X : (frg.heap_1 w.params).In h₀) (N : News h₀ L s.heap news) (T : Top topProg loose mean mg mb h₀) (hA : A.frames = some (env :: outer)) (hf : env.frame = some L) (hke : env.scope.kind = .function) (hh : A.handled = none)
    (hm : ∀ a ∈ muts, a ∈ news.map (·.1)) (ho : ∀ a ∈ own, a ∈ news.map (·.1)) (hd : A.depth + d < recursionLimit) (hu : A.units + u < cLine)
    (h : ∀ n h' tk', Fr h₀ L h' m → Keeps muts s.heap h' → P n h' → Q cv { s with heap := h', toks := tk' }) : wpAny (model PySem.Challenge.rw_ta0022_01.row.prog w) A (call (.ref f) args) Q E s :=
  S.use B F X N T hA hf hke hh hm ho hd hu fun v h' tk' F' K' p => by
    obtain ⟨rfl, n, p⟩ := p
    exact h n h' tk' F' K' p
theorem Spec.useT {A A₀ : Around} {base h₀ : Heap} {outer : List Env} {env : Env} {s : Shared} {Q E : Value → Shared → Prop} {news : List (Addr × Obj)} {f : Addr} {args : List Value} {L : Addr} {m : Str → Option Value} {d u : Nat} {muts own : List Addr} {cv : Tok → Value}
    (S : Spec w loose mean mg mb (.call (.ref f) ⟨args, []⟩) d u muts own s.heap (fun v _ => ∃ t, v = cv t))
    (B : Below A₀ base outer h₀) (F : Fr h₀ L s.heap m) (X : (frg.heap_1 w.params).In h₀) (N : News h₀ L s.heap news) (T : Top topProg loose mean mg mb h₀) (hA : A.frames = some (env :: outer)) (hf : env.frame = some L) (hke : env.scope.kind = .function) (hh : A.handled = none)
    (hm : ∀ a ∈ muts, a ∈ news.map (·.1)) (ho : ∀ a ∈ own, a ∈ news.map (·.1)) (hd : A.depth + d < recursionLimit) (hu : A.units + u < cLine)
    (h : ∀ t h' tk', Fr h₀ L h' m → Keeps muts s.heap h' → Q (cv t) { s with heap := h', toks := tk' }) : wpAny (model PySem.Challenge.rw_ta0022_01.row.prog w) A (call (.ref f) args) Q E s :=
  S.use B F X N T hA hf hke hh hm ho hd hu fun v h' tk' F' K' p => by
    obtain ⟨t, rfl⟩ := p
    exact h t h' tk' F' K'
theorem Spec.use1 {A A₀ : Around} {base h₀ : Heap} {outer : List Env} {env : Env} {s : Shared} {Q E : Value → Shared → Prop} {news : List (Addr × Obj)} {f : Addr} {args : List Value} {L : Addr} {m : Str → Option Value} {d u : Nat} {muts own : List Addr} {cv : Value}
    (S : Spec w loose mean mg mb (.call (.ref f) ⟨args, []⟩) d u muts own s.heap (fun v _ => v = cv))
    (B : Below A₀ base outer h₀) (F : Fr h₀ L s.heap m) (X : (frg.heap_1 w.params).In h₀) (N : News h₀ L s.heap news) (T : Top topProg loose mean mg mb h₀) (hA : A.frames = some (env :: outer)) (hf : env.frame = some L) (hke : env.scope.kind = .function) (hh : A.handled = none)
    (hm : ∀ a ∈ muts, a ∈ news.map (·.1)) (ho : ∀ a ∈ own, a ∈ news.map (·.1)) (hd : A.depth + d < recursionLimit) (hu : A.units + u < cLine)
    (h : ∀ (_ : Nat) h' tk', Fr h₀ L h' m → Keeps muts s.heap h' → Q cv { s with heap := h', toks := tk' }) : wpAny (model PySem.Challenge.rw_ta0022_01.row.prog w) A (call (.ref f) args) Q E s :=
  S.use B F X N T hA hf hke hh hm ho hd hu fun v h' tk' F' K' p => by
    obtain rfl := p
    exact h 0 h' tk' F' K'
theorem hideG {G : Prop} (h : ∀ P : Prop, (G → P) → P) : G := h G id
theorem newsAt {h₀ h : Heap} {L a : Addr} {o : Obj} {news : List (Addr × Obj)} (N : News h₀ L h news) (i : Nat) (hi : news[i]? = some (a, o)) : h.get? a = some o := (N _ (List.mem_of_getElem? hi)).1
end
/-- an iterator of iter(f, sentinel), not yet ended -/
noncomputable abbrev ciObj (f x : Value) : Obj := { cls := .type "callable_iterator", data := .fields #[f, x, .bool false] }

theorem slot_ci_next : Slot "callable_iterator" "__next__" "callable_iterator.__next__" :=
  .of (owner := "callable_iterator") (n := "__next__") (by rw [typeLookup_type, builtinLookup_eq_fast]; kernel_rfl) (by decide +kernel) (by decide +kernel) (by decide +kernel)
    (by first | exact .inl (by decide +kernel) | exact .inr (by decide +kernel)) (by rw [isSubtype_type]; kernel_rfl)
theorem slot_ci_iter : Slot "callable_iterator" "__iter__" "callable_iterator.__iter__" :=
  .of (owner := "callable_iterator") (n := "__iter__") (by rw [typeLookup_type, builtinLookup_eq_fast]; kernel_rfl) (by decide +kernel) (by decide +kernel) (by decide +kernel)
    (by first | exact .inl (by decide +kernel) | exact .inr (by decide +kernel)) (by rw [isSubtype_type]; kernel_rfl)
theorem entry_ci_next : entryFor table "callable_iterator.__next__" = some Builtin.«callable_iterator.__next__» := entryFor_of_tree (by kernel_rfl)
theorem entry_ci_iter : entryFor table "callable_iterator.__iter__" = some Builtin.«dict_keyiterator.__iter__» := entryFor_alias (id' := "dict_keyiterator.__iter__") (by kernel_rfl) rfl (by decide +kernel) (by kernel_rfl)
theorem args_ci_next (a : Value) : argsOk "callable_iterator.__next__" ⟨[a], []⟩ := by unfold argsOk; kernel_rfl
theorem args_ci_iter (a : Value) : argsOk "callable_iterator.__iter__" ⟨[a], []⟩ := by unfold argsOk; kernel_rfl
theorem kind_iter : builtinKind "iter" = none := by decide +kernel
theorem plain_iter : plainId "iter" = true := by decide +kernel
theorem entry_iter : entryFor table "iter" = some Builtin.«iter» := entryFor_of_tree (by kernel_rfl)
theorem args_iter2 (a b : Value) : argsOk "iter" ⟨[a, b], []⟩ := by unfold argsOk; kernel_rfl
theorem slot_method_call : Slot "method" "__call__" "method.__call__" :=
  .of (owner := "method") (n := "__call__") (by rw [typeLookup_type, builtinLookup_eq_fast]; kernel_rfl) (by decide +kernel) (by decide +kernel) (by decide +kernel)
    (by first | exact .inl (by decide +kernel) | exact .inr (by decide +kernel)) (by rw [isSubtype_type]; kernel_rfl)

section
variable {prog : Program} {w : World} {A : Around} {E : Value → Shared → Prop} {s : Shared} {it q fI x : Addr} {t : Tok} {sv : Value}

theorem ci_typeIs {f y : Value} (h : s.heap.get? it = some (ciObj f y)) : s.TypeIs (.ref it) "callable_iterator" := ⟨_, h, rfl⟩

theorem iter2_call {f y : Value} {Q : Value → Shared → Prop} (hq : s.heap.get? q = some (methodObj f y))
    (h : Q (.ref s.heap.objs.size) { s with heap := s.heap.push (ciObj (.ref q) sv) }) : wpAny (model prog w) A (call (.builtin "iter") [.ref q, sv]) Q E s := by
  refine Calls.call_function_entry kind_iter plain_iter entry_iter (args_iter2 _ _) ?_
  unfold Builtin.«iter»
  show wpAny _ _ (specialOf (.ref q) "__call__" >>= fun r => _) _ _ s
  refine wpAny_bind (wpAny_specialOf (T := "method") ⟨_, hq, rfl⟩ slot_method_call.lookup ?_)
  show wpAny _ _ (do rule "iter.sentinel"; ret (← newFields "callable_iterator" [.ref q, sv, .bool false])) _ _ s
  exact wpAny_bind (wpAny_rule (wpAny_bind (wpAny_newObj_type (wpAny_pure ⟨_, rfl, h⟩))))

theorem ci_pyIter {f y : Value} {Q : Value → Shared → Prop} (hit : s.heap.get? it = some (ciObj f y)) (h : Q (.ref it) s) : wpAny (model prog w) A (pyIter (.ref it)) Q E s := by
  refine wpAny_pyIter_slot (ci_typeIs hit) slot_ci_iter (wpAny_call_entry slot_ci_iter (ci_typeIs hit) entry_ci_iter ?_ (args_ci_iter _))
  show wpAny _ _ (ret (.ref it)) _ _ s
  exact wpAny_pure ⟨_, rfl, "callable_iterator", _, ci_typeIs hit, slot_ci_next.lookup, h⟩

theorem borrows_method {fo : Obj} {fd : FuncData} {Q : Bool → Shared → Prop} (hq : s.heap.get? q = some (methodObj (.ref fI) sv)) (hf : s.heap.get? fI = some fo) (hd : fo.data = .func fd)
    (h : Q true s) : wpAny (model prog w) A (borrowsExactly (.ref q)) Q E s := by
  unfold borrowsExactly
  refine wpAny_bind (wpAny_load hq ?_)
  show wpAny _ _ (load fI >>= fun o => _) _ _ s
  refine wpAny_bind (wpAny_load hf ?_)
  rw [hd]
  exact wpAny_pure h

/-- one step of the iterator: the callee came back with a text that is not the sentinel, or with it -/
theorem ci_next {fo : Obj} {fd : FuncData} {x₀ : Str} {Q : Option Value → Shared → Prop} (hh : A.handled = none) (hit : s.heap.get? it = some (ciObj (.ref q) (.str x₀ t))) (hq : s.heap.get? q = some (methodObj (.ref fI) sv)) (hf : s.heap.get? fI = some fo) (hd : fo.data = .func fd)
    (hc : codeAny (model prog w) A.in1 (.call (.ref fI) ⟨[sv], []⟩) (fun r s' => ∃ c tc h' tk', r = .ok (.ret (.str c tc)) ∧ s' = { s with heap := h', toks := tk' } ∧ h'.get? it = some (ciObj (.ref q) (.str x₀ t)) ∧ h'.get? q = some (methodObj (.ref fI) sv) ∧ h'.get? fI = some fo ∧
      ((x₀ == c) = false → Q (some (.str c tc)) { s with heap := h', toks := tk' }) ∧ ((x₀ == c) = true → ∀ h'', Heap.ExtBut it h' h'' → Q none { s with heap := h'', toks := tk' })) s) : wpAny (model prog w) A (pyNext (.ref it)) Q E s := by
  unfold pyNext
  refine wpAny_bind (wpAny_attempt (wpAny_callSpecial?_slot (name := Str.ofString "__next__") (ci_typeIs hit) slot_ci_next (wpAny_call_entry slot_ci_next (ci_typeIs hit) entry_ci_next ?_ (args_ci_next _))))
  show wpAny _ _ (field (.ref it) 2 >>= _) _ _ s
  refine wpAny_bind (wpAny_field hit rfl (x := .bool false) rfl ?_)
  show wpAny _ _ (if (Value.bool false == Value.bool true) = true then _ else _) _ _ s
  rw [if_neg (show ¬ ((Value.bool false == Value.bool true) = true) from by decide)]
  show wpAny _ _ (field (.ref it) 0 >>= _) _ _ s
  refine wpAny_bind (wpAny_field hit rfl (x := .ref q) rfl ?_)
  refine wpAny_bind (wpAny_attempt ?_)
  unfold callOutOfASlot
  refine wpAny_bind (borrows_method hq hf hd ?_)
  show wpAny _ _ (callBorrowed (.ref q) []) _ _ s
  unfold callBorrowed
  refine X.x_call (method_call hq ?_) (by intro e; cases e)
  show codeAny _ A.in1 _ _ _
  refine codeAny_mono hc ?_
  rintro r s' ⟨c, tc, h', tk', rfl, rfl, hit', hq', hf', hno, hyes⟩
  refine wpAny_pure ?_
  show wpAny _ _ (field (.ref it) 2 >>= _) _ _ _
  refine wpAny_bind (wpAny_field hit' rfl (x := .bool false) rfl ?_)
  show wpAny _ _ (if (Value.bool false == Value.bool true) = true then _ else _) _ _ _
  rw [if_neg (show ¬ ((Value.bool false == Value.bool true) = true) from by decide)]
  show wpAny _ _ (field (.ref it) 1 >>= _) _ _ _
  refine wpAny_bind (wpAny_field hit' rfl (x := .str x₀ t) rfl ?_)
  refine wpAny_bind (wpAny_holding (eqBool_str ?_))
  cases he : (x₀ == c) with
  | false =>
    show wpAny _ _ (ret (.str c tc)) _ _ _
    exact wpAny_pure ⟨_, rfl, wpAny_pure (hno he)⟩
  | true =>
    show wpAny _ _ (rule "callable_iterator.__next__.sentinel" >>= _) _ _ _
    refine wpAny_bind (wpAny_rule ?_)
    show wpAny _ _ ((field (.ref it) 0 >>= fun v => slotLetsGo "callable_iterator.__next__" v _ >>= fun _ => setField (.ref it) 0 .none >>= fun _ => setField (.ref it) 1 .none >>= fun _ => setField (.ref it) 2 (.bool true)) >>= fun _ => _) _ _ _
    refine wpAny_bind (wpAny_bind (wpAny_field hit' rfl (x := .ref q) rfl ?_))
    unfold slotLetsGo
    refine wpAny_bind (wpAny_bind (borrows_method hq' hf' hd ?_))
    refine wpAny_pure ?_
    refine wpAny_bind (wpAny_setField_rec hit' (by simp) fun h1 e1 s1 => ?_)
    refine wpAny_bind (wpAny_setField_rec (s := { s with heap := h1, toks := tk' }) e1 (by simp) fun h2 e2 s2 => ?_)
    refine wpAny_setField_rec (s := { s with heap := h2, toks := tk' }) e2 (by simp) fun h3 e3 s3 => ?_
    show wpAny _ _ (newExc (.type "StopIteration") [] >>= _) _ _ _
    refine wpAny_bind ?_
    simp only [newExc, newTuple]
    refine wpAny_bind (wpAny_newObj_type ?_ (by size_fits))
    refine wpAny_bind (m := firstArgMember _ _) (wpAny_of_eq (a := Value.none) (by first | rfl | (simp only [firstArgMember]; rfl)) ?_)
    refine wpAny_newObj_type ?_ (by size_fits)
    simp only [raiseNew]
    refine wpAny_bind (wpAny_handled ?_)
    rw [show A.in1.handled = none from hh]
    refine wpAny_bind (wpAny_pure (wpAny_throw ?_))
    refine wpAny_bind (wpAny_isInstance (T := "StopIteration") (b := true) ⟨_, Heap.get?_push_size _ rfl, rfl⟩ isSubtype_stop ?_)
    exact wpAny_pure (hyes he _ (((s1.extBut.trans (s2.extBut.trans s3.extBut)).push _).push _))
end
section
variable {prog : Program} {w : World} {A : Around} {E : Value → Shared → Prop} {s : Shared} {it q fI x : Addr} {t : Tok} {sv : Value}
theorem slot_fn_setattr : Slot "function" "__setattr__" "object.__setattr__" :=
  .of (owner := "object") (n := "__setattr__") (by rw [typeLookup_type, builtinLookup_eq_fast]; kernel_rfl) (by decide +kernel) (by decide +kernel) (by decide +kernel)
    (by first | exact .inl (by decide +kernel) | exact .inr (by decide +kernel)) (by rw [isSubtype_type]; kernel_rfl)
theorem entry_osa : entryFor table "object.__setattr__" = some Builtin.«object.__setattr__» := entryFor_of_tree (by kernel_rfl)
theorem args_osa (a b c : Value) : argsOk "object.__setattr__" ⟨[a, b, c], []⟩ := by unfold argsOk; kernel_rfl
theorem fn_no_read : typeLookup (.type "function") (Str.ofString "read") = pure none := by rw [typeLookup_type, builtinLookup_eq_fast]; kernel_rfl
theorem fn_mro : mroOf (.type "function") = pure [.type "function", .type "object"] := by kernel_rfl
theorem fn_refuse (self : Value) : refuseLoop self "__setattr__" [.type "function", .type "object"] = pure () := by kernel_rfl

theorem fn_setattr {f : Addr} {fd : FuncData} {sl : Array (Option Value)} {name : Str} {v : Value} {Q : Unit → Shared → Prop} (hx : s.heap.get? f = some ⟨.type "function", none, .func fd, sl⟩) (hB : typeLookup (.type "function") name = pure none)
    (hq : ∀ h' tk' d, s.heap.objs.size ≤ d → h'.get? f = some ⟨.type "function", some d, .func fd, sl⟩ → h'.Ns d (fun y => if y = name then some v else none) → (∀ b ob, b ≠ f → s.heap.get? b = some ob → h'.get? b = some ob) → Q () { s with heap := h', toks := tk' }) :
    wpAny (model prog w) A (setAttr (.ref f) name v) Q E s := by
  have hc : s.TypeIs (.ref f) "function" := ⟨_, hx, rfl⟩
  unfold setAttr
  refine wpAny_bind (wpAny_mkText (wpAny_bind (wpAny_callSpecial?_slot (name := Str.ofString "__setattr__") hc slot_fn_setattr (wpAny_call_entry slot_fn_setattr hc entry_osa ?_ (args_osa _ _ _)))))
  unfold Builtin.«object.__setattr__»
  show wpAny _ _ (refuseIfOverridden (.ref f) "__setattr__" >>= fun _ => _) _ _ _
  rw [refuse_eq]
  refine wpAny_bind (wpAny_bind (wpAny_typeOf (T := "function") hc ?_))
  rw [fn_mro]
  refine wpAny_bind (wpAny_pure ?_)
  rw [fn_refuse]
  refine wpAny_pure ?_
  show wpAny _ _ (attrName (.str name s.toks) >>= fun _ => _) _ _ _
  refine wpAny_bind (wpAny_of_eq (a := name) rfl ?_)
  refine wpAny_bind (wpAny_typeOf (T := "function") hc ?_)
  rw [hB]
  refine wpAny_bind (wpAny_pure (wpAny_bind ?_))
  refine wpAny_of_eq (a := none) rfl ?_
  show wpAny _ _ (storeInOwnDict (.ref f) (.type "function") (.str name s.toks) name v false) _ _ _
  unfold storeInOwnDict
  refine wpAny_bind (wpAny_of_eq (a := ()) (by rfl) ?_)
  show wpAny _ _ (ownDictForStores (.ref f) >>= fun _ => _) _ _ _
  refine wpAny_bind ?_
  show wpAny _ _ (instanceDict f true) _ _ _
  unfold instanceDict
  refine wpAny_bind (wpAny_loadPart hx ?_)
  show wpAny _ _ (if (!true || !typeHasDict (.type "function")) = true then _ else _) _ _ _
  rw [if_neg (show ¬ ((!true || !typeHasDict (.type "function")) = true) from by decide +kernel)]
  show wpAny _ _ (alloc { cls := .type "dict", data := .dict #[] } >>= fun d => update f (fun o => { o with dict := some d }) >>= fun _ => dictMade (.type "function") f d) _ _ _
  have hx₁ : (s.heap.push { cls := .type "dict", data := .dict #[] }).get? f = some ⟨.type "function", none, .func fd, sl⟩ := Heap.get?_push_of_some _ hx
  have hxs : f ≠ s.heap.objs.size := Nat.ne_of_lt (Heap.lt_size hx)
  refine wpAny_bind (wpAny_alloc ?_)
  refine wpAny_bind (wpAny_update hx₁ ?_)
  refine wpAny_of_eq (a := some s.heap.objs.size) (by first | rfl | kernel_rfl) ?_
  have hgd : ((s.heap.push { cls := .type "dict", data := .dict #[] }).update f fun o => { cls := o.cls, dict := some s.heap.objs.size, data := o.data, slots := o.slots }).get? s.heap.objs.size
      = some { cls := .type "dict", data := .dict #[] } :=
    (Heap.get?_update_ne _ _ _ _ hxs.symm).trans (Heap.get?_push_at rfl rfl)
  have hnd : ((s.heap.push { cls := .type "dict", data := .dict #[] }).update f fun o => { cls := o.cls, dict := some s.heap.objs.size, data := o.data, slots := o.slots }).Ns s.heap.objs.size (fun _ => none) :=
    ⟨_, #[], _, hgd, rfl, fun e he => absurd he (by simp), fun _ => rfl⟩
  show wpAny _ _ (storeInDict s.heap.objs.size (.str name s.toks) name v) _ _ _
  unfold storeInDict newKeyGuard
  refine wpAny_bind (wpAny_pure (wpAny_bind (wpAny_nsSet1 (Heap.Ns1.of_empty hnd) fun h' hn' hs => ?_)))
  obtain ⟨oD, esD, epD, hoD, hdD, hcD⟩ := hn'.count (Within.cons name v Within.nil)
  refine wpAny_bind (wpAny_lookBehind hoD (by rw [hdD]; exact pastItsLine_dict (Nat.le_trans hcD (by rw [List.length_cons, List.length_nil, sizeLine_eq]; omega))) ?_)
  refine wpAny_pure ⟨_, rfl, wpAny_pure ?_⟩
  obtain ⟨o', es, ep, e1, e2, e3, eu, e4⟩ := hn'
  refine hq h' _ s.heap.objs.size (Nat.le_refl _) ?_ ⟨o', es, ep, e1, e2, e3, fun y => by rw [e4 y]⟩ (fun b ob hbx hb => ?_)
  · refine (hs.2 f hxs).trans ?_
    rw [Heap.get?_update_self _ hx₁ (by rfl)]
  · exact (hs.2 b (Nat.ne_of_lt (Heap.lt_size hb))).trans ((Heap.get?_update_ne _ _ _ _ hbx).trans (Heap.get?_push_of_some _ hb))

theorem slot_fn_ga : Slot "function" "__getattribute__" "object.__getattribute__" :=
  .of (owner := "object") (n := "__getattribute__") (by rw [typeLookup_type, builtinLookup_eq_fast]; kernel_rfl) (by decide +kernel) (by decide +kernel) (by decide +kernel)
    (by first | exact .inl (by decide +kernel) | exact .inr (by decide +kernel)) (by rw [isSubtype_type]; kernel_rfl)
theorem entry_oga : entryFor table "object.__getattribute__" = some Builtin.«object.__getattribute__» := entryFor_of_tree (by kernel_rfl)
theorem args_oga (a b : Value) : argsOk "object.__getattribute__" ⟨[a, b], []⟩ := by unfold argsOk; kernel_rfl
theorem fn_no_ga : typeLookup (.type "function") (Str.ofString "__getattr__") = pure none := by rw [typeLookup_type, builtinLookup_eq_fast]; kernel_rfl
theorem canon_oga : (Manifest.canonical "object.__getattribute__" != "object.__getattribute__") = false := by decide +kernel

theorem fn_getmethod {f d : Addr} {fd : FuncData} {sl : Array (Option Value)} {name : Str} {r : Addr} {m : Str → Option Value} {Q : Value × List Value → Shared → Prop} (hx : s.heap.get? f = some ⟨.type "function", some d, .func fd, sl⟩) (hn : s.heap.Ns d m) (hm : m name = some (.ref r))
    (hB : typeLookup (.type "function") name = pure none) (h : ∀ tk', Q (.ref r, []) { s with toks := tk' }) :
    wpAny (model prog w) A (getMethod (.ref f) name) Q E s := by
  have hc : s.TypeIs (.ref f) "function" := ⟨_, hx, rfl⟩
  unfold getMethod
  refine wpAny_bind (wpAny_specialOf hc slot_fn_ga.lookup ?_)
  show wpAny _ _ (if (Manifest.canonical "object.__getattribute__" != "object.__getattribute__") = true then _ else _) _ _ _
  rw [if_neg (by rw [canon_oga]; decide)]
  refine wpAny_bind (wpAny_specialOf hc fn_no_ga ?_)
  show wpAny _ _ (specialOf (.ref f) name >>= fun _ => _) _ _ _
  refine wpAny_bind (wpAny_specialOf hc hB ?_)
  show wpAny _ _ (getAttr (.ref f) name >>= fun v => pure (v, [])) _ _ _
  refine wpAny_bind ?_
  unfold getAttr
  refine wpAny_bind (wpAny_mkText ?_)
  unfold getAttrBy
  refine wpAny_holding (wpAny_bind (wpAny_typeOf (T := "function") hc ?_))
  rw [slot_fn_ga.lookup]
  refine wpAny_bind (wpAny_pure ?_)
  show wpAny _ _ (getAttrByItsOwn (.ref f) (.str name s.toks) (.type "function") (.builtin "object.__getattribute__") true false) _ _ _
  unfold getAttrByItsOwn
  refine wpAny_bind (wpAny_of_eq (a := none) rfl ?_)
  refine wpAny_bind (wpAny_attempt ?_)
  refine wpAny_holding ?_
  show wpAny _ _ (boundAndCalled (.builtin "object.__getattribute__") (.ref f) (.str name s.toks)) _ _ _
  unfold boundAndCalled
  rw [slot_fn_ga.bind]
  refine wpAny_bind (wpAny_pure ?_)
  show wpAny _ _ (call (.builtin "object.__getattribute__") [.ref f, .str name s.toks]) _ _ _
  refine wpAny_call_entry slot_fn_ga hc entry_oga ?_ (args_oga _ _)
  unfold Builtin.«object.__getattribute__»
  refine wpAny_bind (wpAny_of_eq (a := (.ref f, [.str name s.toks])) rfl ?_)
  refine wpAny_bind (wpAny_of_eq (a := name) rfl ?_)
  refine wpAny_bind (wpAny_typeOf (T := "function") hc ?_)
  refine wpAny_bind ?_
  unfold ObjectAttr.find
  rw [hB]
  refine wpAny_bind (wpAny_pure ?_)
  refine wpAny_bind (wpAny_of_eq (a := none) rfl ?_)
  refine wpAny_bind (wpAny_of_eq (a := none) rfl ?_)
  show wpAny _ _ (ownThenClass (.ref f) name none none) _ _ _
  unfold ownThenClass
  refine wpAny_bind ?_
  show wpAny _ _ (ObjectAttr.ownDict f >>= fun d => inDict name d) _ _ _
  refine wpAny_bind ?_
  unfold ObjectAttr.ownDict loadHead
  refine wpAny_bind (wpAny_loadPart hx ?_)
  show wpAny _ _ (instanceDict f false) _ _ _
  unfold instanceDict
  refine wpAny_bind (wpAny_loadPart hx ?_)
  refine wpAny_pure ?_
  show wpAny _ _ (nsGet d name) _ _ _
  refine wpAny_nsGet hn ?_
  rw [hm]
  refine wpAny_bind (wpAny_rule (wpAny_pure ?_))
  refine wpAny_pure ⟨_, rfl, ?_⟩
  exact wpAny_pure (wpAny_pure (h _))

/-- the store of an attribute on a def that has no dict yet, over a ledger -/
theorem setAttr_fnK {f : Addr} {fd : FuncData} {sl : Array (Option Value)} {name : Str} {v : Value} {Q : Unit → Shared → Prop} {h₀ : Heap} {L : Addr} {m : Str → Option Value} {news : List (Addr × Obj)} {g : Obj → List (Addr × Obj)}
    (F : Fr h₀ L s.heap m) (N : News h₀ L s.heap news) (U : UpdF f ⟨.type "function", none, .func fd, sl⟩ news g) (hB : typeLookup (.type "function") name = pure none)
    (h : ∀ d od h' tk, Fr h₀ L h' m → News h₀ L h' ((d, od) :: g ⟨.type "function", some d, .func fd, sl⟩) → LCg.NsObj od (fun y => if y = name then some v else none) → (∀ p ∈ news, p.1 < d) → Q () { s with heap := h', toks := tk }) :
    wpAny (model prog w) A (setAttr (.ref f) name v) Q E s := by
  obtain ⟨own, rest, rfl, hg, h1, h2⟩ := U.split
  have hm := N (f, ⟨.type "function", none, .func fd, sl⟩) (List.mem_append_right _ (.head _))
  refine fn_setattr hm.1 hB fun h' tk' d hd hx' hn hk => ?_
  obtain ⟨od, hod, hns⟩ := LCg.ns_obj hn
  have hdL : d ≠ L := Nat.ne_of_gt (Nat.lt_of_lt_of_le F.ns.lt hd)
  have hd₀ : h₀.get? d = none := by
    cases q : h₀.get? d with
    | none => rfl
    | some o' => exact absurd (Nat.lt_of_lt_of_le (Heap.lt_size (F.keep _ _ q)) hd) (Nat.lt_irrefl _)
  obtain ⟨oL, a1, a2, hoL, a3⟩ := F.ns
  refine h d od h' tk' ⟨⟨oL, a1, a2, hk _ _ (Ne.symm hm.2.1) hoL, a3⟩, fun b o e => hk _ _ (fun q => by rw [q, hm.2.2] at e; cases e) (F.keep b o e), F.above⟩ ?_ hns (fun p hp => Nat.lt_of_lt_of_le (Heap.lt_size (N p hp).1) hd)
  rw [hg]
  intro p hp
  rcases List.mem_cons.mp hp with rfl | hp
  · exact ⟨hod, hdL, hd₀⟩
  · rcases List.mem_append.mp hp with hp | hp
    · have z := N p (List.mem_append_left _ hp)
      exact ⟨hk _ _ (h1 p hp) z.1, z.2⟩
    · rcases List.mem_cons.mp hp with rfl | hp
      · exact ⟨hx', hm.2⟩
      · have z := N p (List.mem_append_right _ (.tail _ hp))
        exact ⟨hk _ _ (h2 p hp) z.1, z.2⟩

theorem getMethod_fnK {f d r : Addr} {fd : FuncData} {sl : Array (Option Value)} {od : Obj} {name : Str} {m' : Str → Option Value} {Q : Value × List Value → Shared → Prop} {h₀ : Heap} {L : Addr} {news : List (Addr × Obj)}
    (N : News h₀ L s.heap news) (hm : (f, (⟨.type "function", some d, .func fd, sl⟩ : Obj)) ∈ news) (hd : (d, od) ∈ news) (ns : LCg.NsObj od m') (hn : m' name = some (.ref r)) (hB : typeLookup (.type "function") name = pure none)
    (h : ∀ tk', Q (.ref r, []) { s with toks := tk' }) : wpAny (model prog w) A (getMethod (.ref f) name) Q E s :=
  fn_getmethod (N _ hm).1 (ns.ns (N _ hd).1) hn hB h
theorem fnAt_of {h₀ h : Heap} {L q : Addr} {o : Obj} {news : List (Addr × Obj)} (N : News h₀ L h news) (hm : (q, o) ∈ news) (ho : ∃ oc od fd sl, o = (⟨oc, od, .func fd, sl⟩ : Obj)) : FnAt q h := by
  obtain ⟨oc, od, fd, sl, rfl⟩ := ho
  exact FnAt.of N hm

theorem newsUpd1 {h₀ h h2 : Heap} {L a : Addr} {o o' : Obj} {news news' : List (Addr × Obj)} (N : News h₀ L h news) (U : Upd a o o' news news') (K : Keeps [a] h h2) (e : h2.get? a = some o') : News h₀ L h2 news' := by
  obtain ⟨pre, post, rfl, rfl, x, y⟩ := U.split
  intro p hp
  rcases List.mem_append.mp hp with hp | hp
  · have z := N p (List.mem_append_left _ hp)
    exact ⟨K _ _ z.1 (by simpa using x p hp), z.2⟩
  · rcases List.mem_cons.mp hp with rfl | hp
    · exact ⟨e, (N (a, o) (List.mem_append_right _ (.head _))).2⟩
    · have z := N p (List.mem_append_right _ (.tail _ hp))
      exact ⟨K _ _ z.1 (by simpa using y p hp), z.2⟩
theorem newsUpd2 {h₀ h h2 : Heap} {L a b : Addr} {o o' p p' : Obj} {news n1 n2 : List (Addr × Obj)} (N : News h₀ L h news) (U1 : Upd a o o' news n1) (U2 : Upd b p p' n1 n2) (K : Keeps [a, b] h h2) (e1 : h2.get? a = some o') (e2 : h2.get? b = some p') : News h₀ L h2 n2 := by
  obtain ⟨pre, post, rfl, rfl, x, y⟩ := U1.split
  obtain ⟨pre2, post2, hs, rfl, x2, y2⟩ := U2.split
  have old : ∀ q ∈ pre ++ (a, o') :: post, (q = (a, o')) ∨ (h.get? q.1 = some q.2 ∧ q.1 ≠ a) := fun q hq => by
    rcases List.mem_append.mp hq with hq | hq
    · exact .inr ⟨(N q (List.mem_append_left _ hq)).1, x q hq⟩
    · rcases List.mem_cons.mp hq with rfl | hq
      · exact .inl rfl
      · exact .inr ⟨(N q (List.mem_append_right _ (.tail _ hq))).1, y q hq⟩
  have nl : ∀ q ∈ pre ++ (a, o') :: post, q.1 ≠ L ∧ h₀.get? q.1 = none := fun q hq => by
    rcases List.mem_append.mp hq with hq | hq
    · exact (N q (List.mem_append_left _ hq)).2
    · rcases List.mem_cons.mp hq with rfl | hq
      · exact (N (a, o) (List.mem_append_right _ (.head _))).2
      · exact (N q (List.mem_append_right _ (.tail _ hq))).2
  rw [hs] at old nl
  intro q hq
  have one : ∀ q ∈ pre2 ++ (b, p) :: post2, q.1 ≠ b → h2.get? q.1 = some q.2 := fun q hq hb => by
    rcases old q hq with rfl | ⟨z, za⟩
    · exact e1
    · exact K _ _ z (by simp only [List.mem_cons, List.not_mem_nil, or_false, not_or]; exact ⟨za, hb⟩)
  rcases List.mem_append.mp hq with hq | hq
  · exact ⟨one q (List.mem_append_left _ hq) (x2 q hq), nl q (List.mem_append_left _ hq)⟩
  · rcases List.mem_cons.mp hq with rfl | hq
    · exact ⟨e2, nl (b, p) (List.mem_append_right _ (.head _))⟩
    · exact ⟨one q (List.mem_append_right _ (.tail _ hq)) (y2 q hq), nl q (List.mem_append_right _ (.tail _ hq))⟩
theorem newsUpd0 {h₀ h h2 : Heap} {L : Addr} {news : List (Addr × Obj)} (N : News h₀ L h news) (K : Keeps [] h h2) : News h₀ L h2 news := fun p hp => ⟨K _ _ (N p hp).1 (fun z => nomatch z), (N p hp).2⟩
end
section
local macro_rules | `(tactic| k_ne) => `(tactic| first | ((fail_if_success (rename Box2 _ => hb2)); first | (refine ne_lt ?_; walk_at "pick") | (refine ne_gt ?_; walk_at "pick") | (refine ne_ne ?_; walk_at "pick")) | fail "no")
local macro_rules | `(tactic| walk_at "pick") => `(tactic| first | assumption | exact And.left (by assumption) | exact And.left (And.right (by assumption)) | exact And.right (by assumption) | exact And.left (And.right (And.right (by assumption))) | exact And.right (And.right (by assumption)) | exact And.left (And.right (And.right (And.right (by assumption)))) | exact And.right (And.right (And.right (by assumption))) | exact And.left (And.right (And.right (And.right (And.right (by assumption))))) | exact And.right (And.right (And.right (And.right (by assumption)))) | exact And.left (And.right (And.right (And.right (And.right (And.right (by assumption)))))) | exact And.right (And.right (And.right (And.right (And.right (by assumption))))) | exact And.left (And.right (And.right (And.right (And.right (And.right (And.right (by assumption))))))) | exact And.right (And.right (And.right (And.right (And.right (And.right (by assumption)))))) | exact And.left (And.right (And.right (And.right (And.right (And.right (And.right (And.right (by assumption)))))))) | exact And.right (And.right (And.right (And.right (And.right (And.right (And.right (by assumption))))))) | exact And.left (And.right (And.right (And.right (And.right (And.right (And.right (And.right (And.right (by assumption))))))))) | exact And.right (And.right (And.right (And.right (And.right (And.right (And.right (And.right (by assumption)))))))) | fail "no")
section
local macro_rules | `(tactic| walk_at "setAttr ref") => `(tactic| (k_here; k_dflt (refine' setAttr_fnK ?F ?N ?U fn_no_read ?_; (case F => k_asm); (case N => k_asm); (case U => k_updF); k_whole); intro d' od' h' tk' F' N' ns' l1; (try dsimp only at N'); (try k_lt l1); (try k_sweep)))
local macro_rules | `(tactic| walk_at "eval Name") => `(tactic| (k_here; k_dflt (refine' nameX_F ?N ?c ?m ?d ?_ ?a ?b; (case a => rfl); (case b => rfl); (case N => k_asm); (case c => rfl); (case m => k_mem); (case d => k_asm); k_whole)))
local macro_rules | `(tactic| walk_at "getMethod ref") => `(tactic| (k_here; k_dflt (refine' getMethod_fnK ?N ?m ?d ?ns ?e fn_no_read ?_; (case N => k_asm); (case m => k_mem); (case d => k_mem); (case ns => assumption); (case e => exact rfl); k_whole); intro tk'))
local macro_rules | `(tactic| walk_at "callWith ref") => `(tactic| (k_here; k_dflt (refine' callWith_F ?k1 ?_; (case k1 => exact fnAt_of (by k_asm) (by k_mem) (by assumption)); k_whole)))
local macro_rules | `(tactic| walk_at "And") => `(tactic| ((with_reducible show FnAt _ _ ∧ _); refine ⟨fnAt_of (by k_asm) (by k_mem) (by assumption), ?_⟩; try dsimp only [List.nil_append, List.cons_append]))
local macro_rules | `(tactic| walk_at "FnAt") => `(tactic| exact fnAt_of (by k_asm) (by k_mem) (by assumption))
section
theorem start1 : True := by
  w_top off
  trivial
/-- what _law_stream made: addresses and the objects that stay -/
structure SA where
  (st sd rd c1 c2 pl cc : Nat)
  (fdSt : FuncData) (slSt : Array (Option Value)) (oSd oRd o1 o2 oc : Obj)

structure StrmC (S : SA) (h : Heap) : Prop where
  hst : h.get? S.st = some ⟨.type "function", some S.sd, .func S.fdSt, S.slSt⟩
  hsd : h.get? S.sd = some S.oSd
  hrd : h.get? S.rd = some S.oRd
  h1 : h.get? S.c1 = some S.o1
  h2 : h.get? S.c2 = some S.o2
  hcc : h.get? S.cc = some S.oc
structure StrmO (S : SA) : Prop where
  nsd : LCg.NsObj S.oSd (fun y => if y = Str.ofString "read" then some (.ref S.rd) else none)
  frd : ∃ oc od fd sl, S.oRd = ⟨oc, od, .func fd, sl⟩
noncomputable def ReadOK (w : World) (loose : List Str) (mean : ExcName → Option Value) (mg mb : Str → Option Value) (S : SA) (txt : Str) : Prop :=
  ∀ (h : Heap) (p : Int) (tp t : Tok) (n : Nat), h.get? S.rd = some S.oRd → h.get? S.cc = some S.oc → h.get? S.c1 = some S.o1 → h.get? S.c2 = some S.o2 → h.get? S.pl = some (listOf #[.int p tp] n) → 0 ≤ p → p ≤ 1000 → txt.length ≤ 1000 →
    Spec w loose mean mg mb (.call (.ref S.rd) ⟨[.int 1 t], []⟩) 1 20 [S.pl] [S.pl, S.c1, S.c2] h (fun v h' => (∃ t, v = .str (Txt.slice txt (some p) (some (p + 1))) t) ∧ ∃ tp n, h'.get? S.pl = some (listOf #[.int (p + 1) tp] n))

noncomputable def SN (S : SA) : Prop := S.c2 < S.c1 ∧ S.c1 < S.pl ∧ S.pl < S.cc ∧ S.cc < S.rd ∧ S.rd < S.st ∧ S.st < S.sd
theorem enterX3 {w : World} {loose : List Str} {mean : ExcName → Option Value} {mg mb : Str → Option Value} {A : Around} {base h₀ : Heap} {outer : List Env} {s : Shared} {R : Result → Shared → Prop} {a1 a2 a3 : Nat} {x1 x2 x3 : Obj}
    {name qual : Str} {params : Arguments} {body : List Stmt} {scope : Scope} {cl : List (Str × Addr)} {doc pm ctv : Value} {c' f : Addr} {args : Args} {binds : List (Str × Value)}
    (B : Below A base outer h₀) (X : (frg.heap_1 w.params).In h₀) (T : Top topProg loose mean mg mb h₀) (k : ∀ b o, h₀.get? b = some o → s.heap.get? b = some o)
    (e1 : s.heap.get? a1 = some x1) (e2 : s.heap.get? a2 = some x2) (e3 : s.heap.get? a3 = some x3) (hf : ∀ a ∈ [a1, a2, a3], h₀.get? a = none)
    (ho : s.heap.get? f = some (fnMade name qual params body scope cl doc pm c' ctv)) (hcd : s.heap.CodeRec (.ref c') qual) (hroom : A.depth < recursionLimit)
    (hbind : BindsTo s (fnX name qual params body scope cl .none .none doc pm none (.ref c') ctv) args binds) (hloc : ∀ y ∈ binds, scope.names.lookup y.1 = some .local)
    (h : ∀ g L' h₁, Fr g L' h₁ (fun y => binds.reverse.lookup y) → News g L' h₁ [(a1, x1), (a2, x2), (a3, x3)] → Below A base outer g → (frg.heap_1 w.params).In g → Top topProg loose mean mg mb g → (∀ p ∈ [(a1, x1), (a2, x2), (a3, x3)], p.1 < L') →
      (∀ h', (∀ b o, g.get? b = some o → h'.get? b = some o) → Keeps [a1, a2, a3] s.heap h') → s.heap.objs.size ≤ L' →
      wpAny (model PySem.Challenge.rw_ta0022_01.row.prog w) (A.deeper (envX qual scope L' f (.ref c') cl)) (execs body (envX qual scope L' f (.ref c') cl))
        (fun fl s' => R (.ok (.ret (match fl with | .ret v => v | _ => .none))) s') (fun _ _ => False) { s with heap := h₁, toks := s.toks + binds.length })
    (hcell : ∀ x ∈ scope.names, x.2 ≠ .cell) (hco : scope.isCoroutine = false := by rfl) (hgen : scope.isGenerator = false := by rfl) (hk : scope.kind = .function := by rfl) : codeAny (model PySem.Challenge.rw_ta0022_01.row.prog w) A (.call (.ref f) args) R s :=
  enterX (news := [(a1, x1), (a2, x2), (a3, x3)]) B X T k (by simp only [List.forall_mem_cons]; exact ⟨e1, e2, e3, List.forall_mem_nil _⟩) hf ho hcd hroom hbind hloc h hcell hco hgen hk

theorem stream_spec {w : World} {loose : List Str} {mean : ExcName → Option Value} {mg mb : Str → Option Value} (x : Str) (t : Tok) (h : Heap) (hx : x.length ≤ 1000) (hT : h.get? 82 = some (tabObj #[])) :
    Spec w loose mean mg mb (.call (.ref 87) ⟨[.str x t], []⟩) 1 20 [82] [82] h (fun v h' => ∃ (S : SA) (t₀ : Tok) (n : Nat) (ps : Array Value), v = .ref S.st ∧ StrmC S h' ∧ StrmO S ∧ ReadOK w loose mean mg mb S x ∧ h'.get? S.pl = some (listOf #[.int 0 t₀] n) ∧ h'.get? 82 = some (tabObj ps) ∧
      (SN S ∧ h.objs.size ≤ S.c2)) := by
  unfold Spec
  k_fill
  intro dp un gd base outer h₀ s R hs B X T k hmf hroom hunits hret
  subst hs
  (refine' enterC (news := ?news) ?k1 ?k2 ?k3 ?k4 ?kn ?kf ?k6 ?k7 ?k8 ?k9 ?kB ?kD ?_ ?c2 ?c3 ?c4; (case k1 => assumption); (case k2 => assumption); (case k3 => assumption); (case k4 => assumption); (case k6 => k_is); (case k7 => k_is); (case k8 => (first | exact offU1 (by assumption) | (dsimp only [around]; omega))); (case k9 => exact BindsTo.of_eq rfl); (case kB => exact rfl); (case kD => decide +kernel); (case c2 => exact rfl); (case c3 => exact rfl); (case c4 => exact rfl))
  case news => exact [(82, tabObj #[])]
  case kn => exact (List.forall_mem_cons.mpr ⟨hT, List.forall_mem_nil _⟩)
  case kf => exact hmf
  intro g L' h₁ tk cells F N Y B' X' T' hl hK hL
  clear B X T
  have hCH : CodeHd g 86 82 := ⟨_, _, _, _, _, _, _, _, _, X' _ _ (by k_is), rfl, rfl, rfl, rfl, rfl, rfl, rfl, rfl, by decide⟩
  k_lt hl
  obtain ⟨o1, o2, hE, d1, d2⟩ := CellsAre.two Y
  subst hE
  clear Y
  (try simp only [List.cons_append, List.nil_append] at N)
  have e2 : o2.data = .cell (some (.str x t)) := d2
  have e1 : o1.data = .cell none := d1
  clear d1 d2
  (try dsimp only)
  show wpAny _ _ _ _ _ _
  k_fold
  (repeat' (first | (k_unfold; (try dsimp only)) | (dsimp only; k_unfold; try dsimp only) | (k_end; wrow_close) | walk1 | (dsimp only; walk1) | (leave1; (try dsimp only)) | fail "no step"))
  (rename Fr _ _ _ _ => F2); (rename News _ _ _ _ => N2); (rename LCg.NsObj _ _ => ns2)
  refine hret _ _ _ (hK _ (Fr.keep F2)) ⟨⟨_, _, _, _, _, _, _, _, _, _, _, _, _, _⟩, _, _, _, rfl, ⟨newsAt N2 1 rfl, newsAt N2 0 rfl, newsAt N2 3 rfl, newsAt N2 6 rfl, newsAt N2 7 rfl, newsAt N2 4 rfl⟩, ⟨ns2, ⟨_, _, _, _, rfl⟩⟩, ?ro, newsAt N2 5 rfl, newsAt N2 8 rfl, ?nd, ?lo⟩
  all_goals (try dsimp only)
  case nd => unfold SN; dsimp only; omega
  case lo => (try dsimp only); omega
  clear F2 hret hK hmf hT k ns2
  unfold ReadOK Spec
  dsimp only
  clear hunits hroom hL B' X' T' hCH e1 qk ek N2
  intro h p tp t n hr hc h1 h2 hp hp0 hp1 hx dp un gd base outer h₀ s R hs B X T k hmf hroom hunits hret
  subst hs
  refine' enterX3 B X T k hp h1 h2 hmf hr ?kc ?k8 ?k9 ?kB ?_ ?c5 ?c2 ?c3 ?c4
  case kc => exact ⟨_, _, _, _, rfl, hc, by assumption, by assumption⟩
  case k8 => (dsimp only [around]; omega)
  case k9 => exact BindsTo.of_eq rfl
  case c5 => decide
  case kB => exact locs rfl
  case c2 => exact rfl
  case c3 => exact rfl
  case c4 => exact rfl
  intro g L' h₁ F N B' X' T' hl hK hL
  k_lt hl
  clear B X T
  (try dsimp only)
  show wpAny _ _ _ _ _ _
  k_fold
  (repeat' (first | (k_unfold; (try dsimp only)) | (dsimp only; k_unfold; try dsimp only) | (k_end; wrow_close) | walk1 | (dsimp only; walk1) | (leave1; (try dsimp only)) | fail "no step"))
  (rename Fr _ _ _ _ => F3); (rename News _ _ _ _ => N3)
  refine hret _ _ _ (Keeps.narrow (hK _ (Fr.keep F3)) ?_) ⟨⟨_, congrArg (fun z => Value.str (Txt.slice x (some z) (some (p + 1))) _) (Int.add_sub_cancel p 1)⟩, _, _, newsAt N3 0 rfl⟩
  exact List.forall_mem_cons.mpr ⟨.inl (.head _), List.forall_mem_cons.mpr ⟨.inr ⟨_, h1, newsAt N3 1 rfl⟩, List.forall_mem_cons.mpr ⟨.inr ⟨_, h2, newsAt N3 2 rfl⟩, List.forall_mem_nil _⟩⟩⟩
end
section
local macro_rules | `(tactic| walk_at "pad") => `(tactic| skip)
theorem start2 : True := by
  w_top off
  trivial
structure LA where
  (lx dx pb : Nat) (k1 k2 k3 k4 tw : Tok)
noncomputable def lexEs (w : World) (A : LA) (S : SA) (ln : Int) (tl : Tok) : List DictEntry :=
  [⟨PyData.keyHash w.params (Str.ofString "lineno"), .str (Str.ofString "lineno") A.k1, .int ln tl⟩, ⟨PyData.keyHash w.params (Str.ofString "instream"), .str (Str.ofString "instream") A.k2, .ref S.st⟩,
   ⟨PyData.keyHash w.params (Str.ofString "whitespace"), .str (Str.ofString "whitespace") A.k3, .str (Str.ofString "\n\t\r ") A.tw⟩, ⟨PyData.keyHash w.params (Str.ofString "pushback"), .str (Str.ofString "pushback") A.k4, .ref A.pb⟩]
structure LexAt (w : World) (A : LA) (S : SA) (h : Heap) (ln p : Int) : Prop where
  hlx : h.get? A.lx = some (instObj 52 A.dx)
  hdx : ∃ tl, h.get? A.dx = some (dictOf (lexEs w A S ln tl) 4)
  hpl : ∃ tp n, h.get? S.pl = some (listOf #[.int p tp] n)
  strm : StrmC S h
noncomputable def LexN (A : LA) (S : SA) : Prop := SN S ∧ S.sd < A.dx ∧ A.dx < A.lx ∧ A.lx < A.pb

theorem read_char_spec {w : World} {loose : List Str} {mean : ExcName → Option Value} {mg mb : Str → Option Value} {A : LA} {S : SA} {h : Heap} {txt c : Str} {ln p : Int} (SO : StrmO S) (RO : ReadOK w loose mean mg mb S txt) (ND : LexN A S) (LX : LexAt w A S h ln p)
    (hp0 : 0 ≤ p) (hp1 : p ≤ 1000) (hl0 : 0 ≤ ln) (hl1 : ln ≤ 1000) (hx : txt.length ≤ 1000) (hc : Txt.slice txt (some p) (some (p + 1)) = c) :
    Spec w loose mean mg mb (.call (.ref 35) ⟨[.ref A.lx], []⟩) 3 60 [A.dx, S.pl] [A.lx, A.dx, S.st, S.sd, S.rd, S.c1, S.c2, S.pl, S.cc] h
      (fun v h' => (∃ t, v = .str c t) ∧ LexAt w A S h' (if c = Str.ofString "\n" then ln + 1 else ln) (p + 1)) := by
  unfold Spec
  k_fill
  intro dp un gd base outer h₀ s R hs B X T k hmf hroom hunits hret
  subst hs hc
  obtain ⟨hlx, ⟨tl, hdx⟩, ⟨tp, n, hpl⟩, ⟨hst, hsd, hrd, h1, h2, hcc⟩⟩ := LX
  obtain ⟨nsd, frd⟩ := SO
  unfold LexN SN at ND
  (refine' enter (news := ?news) ?k1 ?k2 ?k3 ?k4 ?kn ?kf ?k6 ?k7 ?k8 ?k9 ?kB ?_ ?c5 ?c2 ?c3 ?c4; (case k1 => assumption); (case k2 => assumption); (case k3 => assumption); (case k4 => assumption); (case k6 => k_is); (case k7 => k_is); (case k8 => (first | exact offU1 (by assumption) | (dsimp only [around]; omega))); (case k9 => exact BindsTo.of_eq rfl); (case c5 => decide); (case kB => exact locs rfl); (case c2 => exact rfl); (case c3 => exact rfl); (case c4 => exact rfl))
  case news => exact [(A.lx, instObj 52 A.dx), (A.dx, dictOf (lexEs w A S ln tl) 4), (S.st, ⟨.type "function", some S.sd, .func S.fdSt, S.slSt⟩), (S.sd, S.oSd), (S.rd, S.oRd), (S.c1, S.o1), (S.c2, S.o2), (S.pl, listOf #[.int p tp] n), (S.cc, S.oc)]
  case kn => simp only [List.forall_mem_cons]; exact ⟨hlx, hdx, hst, hsd, hrd, h1, h2, hpl, hcc, List.forall_mem_nil _⟩
  case kf => exact hmf
  intro g L' h₁ F N B' X' T' hl hK hL
  k_lt hl
  clear B X T
  unfold lexEs at N
  (try dsimp only)
  show wpAny _ _ _ _ _ _
  k_fold
  (repeat' (first | (k_unfold; (try dsimp only)) | (dsimp only; k_unfold; try dsimp only) | (k_end; wrow_close) | walk1 | (dsimp only; walk1) | (leave1; (try dsimp only)) | fail "no step"))
  (rename Fr _ _ _ _ => F2); (rename News _ _ _ _ => N2)
  refine' Spec.use (RO h₁ p tp _ n (newsAt N2 4 rfl) (newsAt N2 8 rfl) (newsAt N2 5 rfl) (newsAt N2 6 rfl) (newsAt N2 7 rfl) hp0 hp1 hx) B' F2 X' N2 T' rfl rfl rfl rfl ?hm ?ho ?hd ?hu ?_
  case hm => simp
  case ho => simp
  case hd => first | exact offU (by assumption) (by decide) | (simp only [depth_deeper]; omega)
  case hu => first | exact offU (by assumption) (by decide) | (simp only [units_deeper]; omega)
  rintro v hh2 tk2 F3 K3 ⟨⟨t, rfl⟩, tp2, n2, hpl2⟩
  have N3 := newsUpd1 N2 (by k_upd) K3 hpl2
  clear N2 F2 K3 hpl2
  (repeat' (first | (k_unfold; (try dsimp only)) | (dsimp only; k_unfold; try dsimp only) | (k_end; wrow_close) | walk1 | (dsimp only; walk1) | (leave1; (try dsimp only)) | fail "no step"))
  all_goals
    (rename Fr _ _ _ _ => F5); (rename News _ _ _ _ => N5); (rename (_ == _) = _ => hb)
    refine hret _ _ _ (Keeps.narrow (hK _ (Fr.keep F5)) ?k1) ⟨⟨_, rfl⟩, ⟨newsAt N5 0 rfl, ?k2, ⟨_, _, newsAt N5 7 rfl⟩, ⟨newsAt N5 2 rfl, newsAt N5 3 rfl, newsAt N5 4 rfl, newsAt N5 5 rfl, newsAt N5 6 rfl, newsAt N5 8 rfl⟩⟩⟩
    case k1 =>
      exact List.forall_mem_cons.mpr ⟨.inr ⟨_, hlx, newsAt N5 0 rfl⟩, List.forall_mem_cons.mpr ⟨.inl (.head _), List.forall_mem_cons.mpr ⟨.inr ⟨_, hst, newsAt N5 2 rfl⟩, List.forall_mem_cons.mpr ⟨.inr ⟨_, hsd, newsAt N5 3 rfl⟩,
        List.forall_mem_cons.mpr ⟨.inr ⟨_, hrd, newsAt N5 4 rfl⟩, List.forall_mem_cons.mpr ⟨.inr ⟨_, h1, newsAt N5 5 rfl⟩, List.forall_mem_cons.mpr ⟨.inr ⟨_, h2, newsAt N5 6 rfl⟩, List.forall_mem_cons.mpr ⟨.inl (.tail _ (.head _)), List.forall_mem_cons.mpr ⟨.inr ⟨_, hcc, newsAt N5 8 rfl⟩, List.forall_mem_nil _⟩⟩⟩⟩⟩⟩⟩⟩⟩
    case k2 =>
      first
        | (rw [if_pos (eq_of_beq hb)]; exact ⟨_, newsAt N5 1 rfl⟩)
        | (rw [if_neg (ne_of_beq_false hb)]; exact ⟨_, newsAt N5 1 rfl⟩)
end
end
section
variable {w : World} {loose : List Str} {mean : ExcName → Option Value} {mg mb : Str → Option Value} {A : LA} {S : SA} {txt : Str} {it q : Nat} {te : Tok} {opb : Obj}
noncomputable abbrev lexLed (w : World) (A : LA) (S : SA) (opb : Obj) (ln p : Int) (tl tp : Tok) (n : Nat) : List (Addr × Obj) :=
  [(A.lx, instObj 52 A.dx), (A.dx, dictOf (lexEs w A S ln tl) 4), (S.st, ⟨.type "function", some S.sd, .func S.fdSt, S.slSt⟩), (S.sd, S.oSd), (S.rd, S.oRd), (S.c1, S.o1), (S.c2, S.o2), (S.pl, listOf #[.int p tp] n), (S.cc, S.oc), (A.pb, opb)]
noncomputable abbrev itLed (A : LA) (it q : Nat) (te : Tok) : List (Addr × Obj) := [(it, ciObj (.ref q) (.str Str.empty te)), (q, methodObj (.ref 35) (.ref A.lx))]

noncomputable def lnNext (c : Str) (ln : Int) : Int := if c = Str.ofString "\n" then ln + 1 else ln

theorem lexAt_of {g h : Heap} {L : Addr} {ln p : Int} {tl tp : Tok} {n : Nat} {more : List (Addr × Obj)} (N : News g L h (lexLed w A S opb ln p tl tp n ++ more)) : LexAt w A S h ln p :=
  ⟨newsAt N 0 rfl, ⟨_, newsAt N 1 rfl⟩, ⟨_, _, newsAt N 7 rfl⟩, ⟨newsAt N 2 rfl, newsAt N 3 rfl, newsAt N 4 rfl, newsAt N 5 rfl, newsAt N 6 rfl, newsAt N 8 rfl⟩⟩
/-- the ledger behind a _read_char -/
theorem lexLed_next {g h h' : Heap} {L : Addr} {ln p ln' p' : Int} {tl tp : Tok} {n : Nat} {more : List (Addr × Obj)} (N : News g L h (lexLed w A S opb ln p tl tp n ++ more)) (ND : LexN A S) (K : Keeps [A.dx, S.pl] h h') (LX : LexAt w A S h' ln' p')
    (hm : ∀ r ∈ more, r.1 ≠ A.dx ∧ r.1 ≠ S.pl) : ∃ tl' tp' n', News g L h' (lexLed w A S opb ln' p' tl' tp' n' ++ more) := by
  obtain ⟨-, ⟨tl', hdx⟩, ⟨tp', n', hpl⟩, -⟩ := LX
  refine ⟨tl', tp', n', ?_⟩
  unfold LexN SN at ND
  have off : ∀ r : Addr × Obj, r ∈ lexLed w A S opb ln p tl tp n ++ more → r.1 ≠ A.dx → r.1 ≠ S.pl → h'.get? r.1 = some r.2 ∧ r.1 ≠ L ∧ g.get? r.1 = none := fun r hr h1 h2 =>
    ⟨K _ _ (N r hr).1 (by simp only [List.mem_cons, List.not_mem_nil, or_false, not_or]; exact ⟨h1, h2⟩), (N r hr).2⟩
  have own : ∀ (i : Nat) (a : Nat) (o : Obj), (lexLed w A S opb ln p tl tp n ++ more)[i]? = some (a, o) → a ≠ A.dx → a ≠ S.pl → h'.get? a = some o ∧ a ≠ L ∧ g.get? a = none := fun i a o hi h1 h2 => off (a, o) (List.mem_of_getElem? hi) h1 h2
  intro r hr
  rcases List.mem_append.mp hr with hr | hr
  · rcases List.mem_cons.mp hr with rfl | hr
    · exact own 0 _ _ rfl (neN (by omega)) (neN (by omega))
    · rcases List.mem_cons.mp hr with rfl | hr
      · exact ⟨hdx, (N _ (List.mem_append_left _ (.tail _ (.head _)))).2⟩
      · rcases List.mem_cons.mp hr with rfl | hr
        · exact own 2 _ _ rfl (neN (by omega)) (neN (by omega))
        · rcases List.mem_cons.mp hr with rfl | hr
          · exact own 3 _ _ rfl (neN (by omega)) (neN (by omega))
          · rcases List.mem_cons.mp hr with rfl | hr
            · exact own 4 _ _ rfl (neN (by omega)) (neN (by omega))
            · rcases List.mem_cons.mp hr with rfl | hr
              · exact own 5 _ _ rfl (neN (by omega)) (neN (by omega))
              · rcases List.mem_cons.mp hr with rfl | hr
                · exact own 6 _ _ rfl (neN (by omega)) (neN (by omega))
                · rcases List.mem_cons.mp hr with rfl | hr
                  · exact ⟨hpl, (N (S.pl, _) (List.mem_append_left _ (.tail _ (.tail _ (.tail _ (.tail _ (.tail _ (.tail _ (.tail _ (.head _)))))))))).2⟩
                  · rcases List.mem_cons.mp hr with rfl | hr
                    · exact own 8 _ _ rfl (neN (by omega)) (neN (by omega))
                    · rcases List.mem_cons.mp hr with rfl | hr
                      · exact own 9 _ _ rfl (neN (by omega)) (neN (by omega))
                      · exact nomatch hr
  · exact off r (List.mem_append_right _ hr) (hm r hr).1 (hm r hr).2
end

section
variable {w : World} {loose : List Str} {mean : ExcName → Option Value} {mg mb : Str → Option Value} {A : LA} {S : SA} {txt : Str} {it q : Nat} {te : Tok} {opb : Obj}
  {A' A₀ : Around} {base g : Heap} {outer : List Env} {env : Env} {s : Shared} {Q : Option Value → Shared → Prop} {E : Value → Shared → Prop} {L : Addr} {m : Str → Option Value} {ln p : Int} {tl tp : Tok} {n : Nat} {c : Str}
theorem it_off (hq : A.pb < q) (hi : q < it) (ND : LexN A S) : ∀ r ∈ itLed A it q te, r.1 ≠ A.dx ∧ r.1 ≠ S.pl := by
  unfold LexN SN at ND
  exact List.forall_mem_cons.mpr ⟨⟨neN (by omega), neN (by omega)⟩, List.forall_mem_cons.mpr ⟨⟨neN (by omega), neN (by omega)⟩, List.forall_mem_nil _⟩⟩

theorem lex_next (SO : StrmO S) (RO : ReadOK w loose mean mg mb S txt) (ND : LexN A S) (hq : A.pb < q) (hi : q < it)
    (B : Below A₀ base outer g) (F : Fr g L s.heap m) (X : (frg.heap_1 w.params).In g) (N : News g L s.heap (lexLed w A S opb ln p tl tp n ++ itLed A it q te)) (T : Top topProg loose mean mg mb g) (hA : A'.frames = some (env :: outer)) (hf : env.frame = some L) (hke : env.scope.kind = .function) (hh : A'.handled = none)
    (hd : A'.depth + 3 < recursionLimit) (hu : A'.units + 70 < cLine)
    (hp0 : 0 ≤ p) (hp1 : p ≤ 1000) (hl0 : 0 ≤ ln) (hl1 : ln ≤ 1000) (hx : txt.length ≤ 1000) (hc : Txt.slice txt (some p) (some (p + 1)) = c)
    (hno : (Str.empty == c) = false → ∀ tc h' tk' tl' tp' n', Fr g L h' m → News g L h' (lexLed w A S opb (lnNext c ln) (p + 1) tl' tp' n' ++ itLed A it q te) → Q (some (.str c tc)) { s with heap := h', toks := tk' })
    (hyes : (Str.empty == c) = true → ∀ h' tk' tl' tp' n', Fr g L h' m → News g L h' (lexLed w A S opb (lnNext c ln) (p + 1) tl' tp' n') → Q none { s with heap := h', toks := tk' }) :
    wpAny (model PySem.Challenge.rw_ta0022_01.row.prog w) A' (pyNext (.ref it)) Q E s := by
  revert X
  k_fill
  intro X
  have LX := lexAt_of N
  have off := it_off (te := te) hq hi ND
  have hit := newsAt N 10 rfl
  have hqq := newsAt N 11 rfl
  have h35 := F.keep _ _ (X 35 _ (by k_is))
  refine ci_next (fI := 35) (q := q) (sv := .ref A.lx) (t := te) (x₀ := Str.empty) hh hit hqq h35 rfl ?_
  refine Spec.useC (read_char_spec SO RO ND LX hp0 hp1 hl0 hl1 hx hc) B F X N T (A := A'.in1) hA hf hke hh ?_ ?_ ?_ ?_ ?_
  · simp
  · simp
  · exact hd
  · show A'.units + 1 + 60 < cLine; omega
  rintro v h' tk' F' K ⟨⟨tc, rfl⟩, LX'⟩
  obtain ⟨tl', tp', n', N'⟩ := lexLed_next N ND K LX' off
  refine ⟨c, tc, h', tk', rfl, rfl, newsAt N' 10 rfl, newsAt N' 11 rfl, F'.keep _ _ (X 35 _ (by k_is)), fun he => hno he tc h' tk' tl' tp' n' F' N', fun he h'' X'' => ?_⟩
  unfold LexN SN at ND
  have hitL := (N' (it, ciObj (.ref q) (.str Str.empty te)) (List.mem_append_right _ (.head _))).2
  refine hyes he h'' tk' tl' tp' n' ?_ ?_
  · obtain ⟨oL, a1, a2, hoL, a3⟩ := F'.ns
    exact ⟨⟨oL, a1, a2, X'' _ _ (Ne.symm hitL.1) hoL, a3⟩, fun b o e => X'' _ _ (fun z => by rw [z, hitL.2] at e; cases e) (F'.keep b o e), F'.above⟩
  · intro r hr
    have z := N' r (List.mem_append_left _ hr)
    refine ⟨X'' _ _ ?_ z.1, z.2⟩
    have lt : r.1 < it := by
      simp only [List.mem_cons, List.not_mem_nil, or_false] at hr
      rcases hr with rfl | rfl | rfl | rfl | rfl | rfl | rfl | rfl | rfl | rfl <;> (show @LT.lt Nat _ _ _; dsimp only; omega)
    exact Nat.ne_of_lt lt
end

section
variable {w : World} {A : LA} {S : SA} {opb : Obj}
theorem lexKeeps {g h h' : Heap} {L : Addr} {ln p ln' p' : Int} {tl tp tl' tp' : Tok} {n n' : Nat} {more : List (Addr × Obj)} (LX : LexAt w A S h ln p) (hpb : h.get? A.pb = some opb) (N : News g L h' (lexLed w A S opb ln' p' tl' tp' n' ++ more))
    (K : Keeps ((lexLed w A S opb ln p tl tp n).map (·.1)) h h') : Keeps [A.dx, S.pl] h h' := by
  obtain ⟨hlx, -, -, ⟨hst, hsd, hrd, h1, h2, hcc⟩⟩ := LX
  refine Keeps.narrow K ?_
  exact List.forall_mem_cons.mpr ⟨.inr ⟨_, hlx, newsAt N 0 rfl⟩, List.forall_mem_cons.mpr ⟨.inl (.head _), List.forall_mem_cons.mpr ⟨.inr ⟨_, hst, newsAt N 2 rfl⟩, List.forall_mem_cons.mpr ⟨.inr ⟨_, hsd, newsAt N 3 rfl⟩,
    List.forall_mem_cons.mpr ⟨.inr ⟨_, hrd, newsAt N 4 rfl⟩, List.forall_mem_cons.mpr ⟨.inr ⟨_, h1, newsAt N 5 rfl⟩, List.forall_mem_cons.mpr ⟨.inr ⟨_, h2, newsAt N 6 rfl⟩, List.forall_mem_cons.mpr ⟨.inl (.tail _ (.head _)), List.forall_mem_cons.mpr ⟨.inr ⟨_, hcc, newsAt N 8 rfl⟩,
    List.forall_mem_cons.mpr ⟨.inr ⟨_, hpb, newsAt N 9 rfl⟩, List.forall_mem_nil _⟩⟩⟩⟩⟩⟩⟩⟩⟩⟩
end
theorem LexAt.cast {w : World} {A : LA} {S : SA} {h : Heap} {ln p ln' p' : Int} (LX : LexAt w A S h ln p) (e1 : ln = ln') (e2 : p = p') : LexAt w A S h ln' p' := by subst e1 e2; exact LX
theorem lnNext_empty (ln : Int) : lnNext Str.empty ln = ln := by
  unfold lnNext
  rw [if_neg (by decide +kernel)]
/-- the frame of get_token within its loops -/
noncomputable abbrev tokMap (m₀ : Str → Option Value) (u : Option Value) (tok : Str) (tt : Tok) : Str → Option Value := fun y => if y = Str.ofString "ch" then u else if y = Str.ofString "token" then some (.str tok tt) else m₀ y
theorem tokMap_of {m₀ : Str → Option Value} {tok : Str} {t : Tok} (h : m₀ (Str.ofString "token") = some (.str tok t)) : m₀ = tokMap m₀ (m₀ (Str.ofString "ch")) tok t := by
  funext y
  unfold tokMap
  by_cases h1 : y = Str.ofString "ch"
  · subst h1; rw [if_pos rfl]
  · rw [if_neg h1]
    by_cases h2 : y = Str.ofString "token"
    · subst h2; rw [if_pos rfl]; exact h
    · rw [if_neg h2]
theorem tokMap_tokMap (m₀ : Str → Option Value) (u u' : Option Value) (tok tok' : Str) (tt tt' : Tok) : tokMap (tokMap m₀ u tok tt) u' tok' tt' = tokMap m₀ u' tok' tt' := by
  funext y
  unfold tokMap
  by_cases h1 : y = Str.ofString "ch"
  · simp only [if_pos h1]
  · by_cases h2 : y = Str.ofString "token"
    · simp only [if_neg h1, if_pos h2]
    · simp only [if_neg h1, if_neg h2]

theorem frCh {g h : Heap} {L : Addr} {m₀ : Str → Option Value} {u : Option Value} {v : Value} {tok : Str} {tt : Tok} (F : Fr g L h (fun y => if y = Str.ofString "ch" then some v else tokMap m₀ u tok tt y)) : Fr g L h (tokMap m₀ (some v) tok tt) := by
  have e : (fun y => if y = Str.ofString "ch" then some v else tokMap m₀ u tok tt y) = tokMap m₀ (some v) tok tt := by
    funext y
    unfold tokMap
    by_cases h1 : y = Str.ofString "ch"
    · simp only [if_pos h1]
    · simp only [if_neg h1]
  rw [← e]; exact F
theorem frBoth {g h : Heap} {L : Addr} {m₀ : Str → Option Value} {u : Option Value} {v : Value} {x tok : Str} {t tt : Tok} (F : Fr g L h (fun y => if y = Str.ofString "token" then some (.str x t) else if y = Str.ofString "ch" then some v else tokMap m₀ u tok tt y)) : Fr g L h (tokMap m₀ (some v) x t) := by
  have e : (fun y => if y = Str.ofString "token" then some (.str x t) else if y = Str.ofString "ch" then some v else tokMap m₀ u tok tt y) = tokMap m₀ (some v) x t := by
    funext y
    unfold tokMap
    by_cases h1 : y = Str.ofString "token"
    · subst h1
      rw [if_pos rfl, if_neg (by decide), if_pos rfl]
    · by_cases h2 : y = Str.ofString "ch"
      · simp only [if_pos h2, if_neg h1]
      · simp only [if_neg h2, if_neg h1]
  rw [← e]; exact F
theorem frBoth2 {g h : Heap} {L : Addr} {m₀ : Str → Option Value} {u : Option Value} {v v' : Value} {x tok : Str} {t tt : Tok} (F : Fr g L h (fun y => if y = Str.ofString "token" then some (.str x t) else if y = Str.ofString "ch" then some v else if y = Str.ofString "ch" then some v' else tokMap m₀ u tok tt y)) : Fr g L h (tokMap m₀ (some v) x t) := by
  have e : (fun y => if y = Str.ofString "token" then some (.str x t) else if y = Str.ofString "ch" then some v else if y = Str.ofString "ch" then some v' else tokMap m₀ u tok tt y) = tokMap m₀ (some v) x t := by
    funext y
    unfold tokMap
    by_cases h1 : y = Str.ofString "token"
    · subst h1
      rw [if_pos rfl, if_neg (by decide), if_pos rfl]
    · by_cases h2 : y = Str.ofString "ch"
      · simp only [if_pos h2, if_neg h1]
      · simp only [if_neg h2, if_neg h1]
  rw [← e]; exact F

section
variable {σ : Type} {prog : Program} {w : World} {A : Around} {env : Env} {body : List Stmt} {px : Pos} {g : Heap} {m₀ : Str → Option Value} {I : Addr} {Q : Flow → Shared → Prop} {E : Value → Shared → Prop} {s : Shared}
noncomputable def TokNext (g : Heap) (L : Addr) (m₀ : Str → Option Value) (Led : σ → List (Addr × Obj)) (tok : σ → Str) (Inv : σ → Prop) (meas : σ → Nat) (c : σ) (s s₃ : Shared) : Prop :=
  ∃ c' h' tk' tt' u', meas c' < meas c ∧ Inv c' ∧ s₃ = { s with heap := h', toks := tk' } ∧ Fr g L h' (tokMap m₀ u' (tok c') tt') ∧ News g L h' (Led c')
noncomputable def TokPost (g : Heap) (L : Addr) (m₀ : Str → Option Value) (Led : σ → List (Addr × Obj)) (tok : σ → Str) (Inv : σ → Prop) (meas : σ → Nat) (c : σ) (s : Shared) (Q : Flow → Shared → Prop) (f : Flow) (s₃ : Shared) : Prop :=
  match f with
  | .next => TokNext g L m₀ Led tok Inv meas c s s₃
  | .cont => TokNext g L m₀ Led tok Inv meas c s s₃
  | .brk => Q .next s₃
  | .ret v => Q (.ret v) s₃

theorem tok_loop (Led : σ → List (Addr × Obj)) (tok : σ → Str) (Inv : σ → Prop) (meas : σ → Nat) (c₀ : σ) {t₀ : Tok}
    (ht : m₀ (Str.ofString "token") = some (.str (tok c₀) t₀)) (F : Fr g env.locals s.heap m₀) (N : News g env.locals s.heap (Led c₀)) (hi : Inv c₀)
    (turn : ∀ c u tt h tk, Inv c → Fr g env.locals h (tokMap m₀ u (tok c) tt) → News g env.locals h (Led c) →
      wpAny (model prog w) A (pyNext (.ref I)) (fun r s₁ => match r with
        | none => Q .next s₁
        | some v => wpAny (model prog w) A (storeName env (Str.ofString "ch") v) (fun _ s₂ => wpAny (model prog w) A (execs body env) (TokPost g env.locals m₀ Led tok Inv meas c s Q) (fun _ _ => False) s₂) (fun _ _ => False) s₁) (fun _ _ => False) { s with heap := h, toks := tk }) :
    codeAny (model prog w) A (.forLoop (.Name (Str.ofString "ch") px) (.ref I) body [] env) (fun r s' => match r with | .ok f => Q f s' | .error e => cameBackBy (model prog w) A env E e s') s := by
  refine codeAny_forLoop (fun k s' => ∃ c u tt h tk, k = meas c ∧ Inv c ∧ s' = { s with heap := h, toks := tk } ∧ Fr g env.locals h (tokMap m₀ u (tok c) tt) ∧ News g env.locals h (Led c)) ?_ (meas c₀) ⟨c₀, _, t₀, s.heap, s.toks, rfl, hi, rfl, by rw [← tokMap_of ht]; exact F, N⟩
  rintro k s' ⟨c, u, tt, h, tk, rfl, hi', rfl, F', N'⟩
  refine wpAny_mono (turn c u tt h tk hi' F' N') (fun r s₁ h₁ => ?_) fun _ _ x => False.elim x
  cases r with
  | none => exact wpAny_execs_nil h₁
  | some v =>
    refine wpAny_mono (wpAny_assign_Name h₁) (fun _ s₂ h₂ => ?_) fun _ _ x => False.elim x
    refine wpAny_mono h₂ (fun f s₃ h₃ => ?_) fun _ _ x => False.elim x
    cases f with
    | next => obtain ⟨c', h', tk', tt', u', hm, hc, e, F₃, N₃⟩ := h₃; exact ⟨_, hm, c', u', tt', h', tk', rfl, hc, e, F₃, N₃⟩
    | cont => obtain ⟨c', h', tk', tt', u', hm, hc, e, F₃, N₃⟩ := h₃; exact ⟨_, hm, c', u', tt', h', tk', rfl, hc, e, F₃, N₃⟩
    | brk => exact h₃
    | ret v => exact h₃
end

section
variable {prog : Program} {w : World} {A : Around} {E : Value → Shared → Prop} {s : Shared} {q it : Addr} {f y sv : Value} {Q : Value → Shared → Prop} {h₀ : Heap} {L : Addr} {m : Str → Option Value} {news : List (Addr × Obj)}
theorem iter2_K (F : Fr h₀ L s.heap m) (N : News h₀ L s.heap news) (hm : (q, methodObj f y) ∈ news)
    (h : ∀ a h', Fr h₀ L h' m → News h₀ L h' ((a, ciObj (.ref q) sv) :: news) → (∀ p ∈ news, p.1 < a) → Q (.ref a) { s with heap := h' }) : wpAny (model prog w) A (call (.builtin "iter") [.ref q, sv]) Q E s :=
  iter2_call (N _ hm).1 (h _ _ (F.push _) (N.push F _) fun p hp => Heap.lt_size (N p hp).1)
theorem pyIter_ciK (N : News h₀ L s.heap news) (hm : (it, ciObj f y) ∈ news) (h : Q (.ref it) s) : wpAny (model prog w) A (pyIter (.ref it)) Q E s := ci_pyIter (N _ hm).1 h
end
noncomputable def isWs (c : Nat) : Bool := c == 10 || c == 9 || c == 13 || c == 32
noncomputable abbrev chS (c : Nat) : Str := ⟨#[c]⟩
/-- what is left of the text from place p on -/
noncomputable def Rem (txt : Str) (p : Int) (l : List Nat) : Prop := 0 ≤ p ∧ txt.cps.toList.drop p.toNat = l
theorem slice_one {x : Str} {p : Int} (h : 0 ≤ p) : Txt.slice x (some p) (some (p + 1)) = ⟨((x.cps.toList.drop p.toNat).take 1).toArray⟩ := by
  by_cases hp : p + 1 ≤ x.cps.toList.length
  · have := eq_of_beq (slice_closes (x := x) (i := p) (j := p + 1) ⟨h, by omega, hp⟩)
    rw [this, show (p + 1 - p).toNat = 1 by omega]
  · have hn : x.length = x.cps.toList.length := by simp [Str.length]
    have hs : Builtin.Str.strSliceIndices (some p) (some (p + 1)) 1 x.length = [] := by
      unfold Builtin.Str.strSliceIndices
      dsimp only
      simp only [show (1 : Int) > 0 from by decide, if_true, if_neg (show ¬ p < 0 by omega), if_neg (show ¬ p + 1 < 0 by omega)]
      have e1 : max 0 (min p (x.length : Int)) = x.length := by omega
      have e2 : max 0 (min (p + 1) (x.length : Int)) = x.length := by omega
      rw [e1, e2, sliceRange_one, Nat.sub_self]
      rfl
    have hd : x.cps.toList.drop p.toNat = [] := List.drop_eq_nil_of_le (by omega)
    unfold Txt.slice
    rw [hs, hd]
    simp only [List.length_nil, List.filterMap_nil, List.take_nil]
    split
    · rename_i hz
      have hl : x.cps.size = 0 := by simp at hz; simpa [Str.length] using hz.symm
      exact Str.ext' (by simpa using Array.eq_empty_of_size_eq_zero hl)
    · rfl
theorem Rem.slice {txt : Str} {p : Int} {c : Nat} {l : List Nat} (R : Rem txt p (c :: l)) : Txt.slice txt (some p) (some (p + 1)) = chS c := by
  rw [slice_one R.1, R.2]; rfl
theorem Rem.slice_nil {txt : Str} {p : Int} (R : Rem txt p []) : Txt.slice txt (some p) (some (p + 1)) = Str.empty := by
  rw [slice_one R.1, R.2]; rfl
theorem Rem.next {txt : Str} {p : Int} {c : Nat} {l : List Nat} (R : Rem txt p (c :: l)) : Rem txt (p + 1) l := by
  obtain ⟨h, e⟩ := R
  refine ⟨by omega, ?_⟩
  rw [show (p + 1).toNat = p.toNat + 1 by omega, ← List.drop_drop, e]; rfl
theorem chS_ne (c : Nat) : (Str.empty == chS c) = false := by
  rw [beq_eq_false_iff_ne]; intro e
  have := congrArg (fun s : Str => s.cps.size) e
  simp [Str.empty] at this
theorem lnNext_ch (c : Nat) (ln : Int) : lnNext (chS c) ln = if c = 10 then ln + 1 else ln := by
  unfold lnNext
  have e : (chS c = Str.ofString "\n") ↔ c = 10 := by
    rw [show Str.ofString "\n" = chS 10 by decide +kernel]
    exact ⟨fun e => by have := congrArg (fun s : Str => s.cps.toList) e; simpa using this, fun e => by rw [e]⟩
  by_cases h : c = 10
  · rw [if_pos (e.mpr h), if_pos h]
  · rw [if_neg (fun z => h (e.mp z)), if_neg h]
/-- the lines behind the signs l -/
noncomputable def lns (ln : Int) (l : List Nat) : Int := ln + (l.count 10 : Nat)
theorem lns_cons (ln : Int) (c : Nat) (l : List Nat) : lns (lnNext (chS c) ln) l = lns ln (c :: l) := by
  rw [lnNext_ch]
  unfold lns
  by_cases h : c = 10
  · subst h; simp; omega
  · rw [if_neg h]; simp [h]
theorem lns_last (ln : Int) (c : Nat) : lnNext (chS c) ln = lns ln [c] := by
  rw [← lns_cons]; simp [lns]
inductive Piece where
  | quoted (cs : List Nat)
  | bare (its : List (Bool × Nat)) (b : Nat)
  | done
noncomputable def encIt : Bool × Nat → List Nat
  | (true, c) => [92, c]
  | (false, c) => [c]
theorem flat_len : ∀ its : List (Bool × Nat), its.length ≤ (its.flatMap encIt).length
  | [] => by simp
  | (true, c) :: r => by have := flat_len r; simp only [List.flatMap_cons, encIt, List.length_append, List.length_cons, List.length_nil]; omega
  | (false, c) :: r => by have := flat_len r; simp only [List.flatMap_cons, encIt, List.length_append, List.length_cons, List.length_nil]; omega
noncomputable def Piece.enc : Piece → List Nat
  | .quoted cs => 34 :: (cs ++ [34])
  | .bare its b => its.flatMap encIt ++ [b]
  | .done => []
noncomputable def Piece.val : Piece → List Nat
  | .quoted cs => cs
  | .bare its _ => its.map (·.2)
  | .done => []
noncomputable def Piece.over : Piece → Int
  | .done => 1
  | _ => 0
noncomputable def okIt (i : Bool × Nat) : Prop := i.1 = false → (i.2 ≠ 34 ∧ i.2 ≠ 92 ∧ isWs i.2 = false)
noncomputable def Piece.ok : Piece → List Nat → Prop
  | .quoted cs, _ => ∀ c ∈ cs, c ≠ 34 ∧ c ≠ 92
  | .bare its b, _ => its ≠ [] ∧ (∀ i ∈ its, okIt i) ∧ isWs b = true
  | .done, rest => rest = []
noncomputable def textOf (l : List Nat) : Str := ⟨l.toArray⟩
theorem textOf_snoc (l : List Nat) (c : Nat) : textOf l ++ chS c = textOf (l ++ [c]) := by
  refine Str.ext' ?_
  rw [Str.cps_append]
  simp [textOf]
theorem textOf_length (l : List Nat) : (textOf l).length = l.length := by simp [textOf, Str.length]
theorem textOf_nil : textOf [] = Str.ofString "" := by decide +kernel
theorem ws_in (c : Nat) : (!(Builtin.Str.occurrences (Str.ofString "\n\t\r ") (chS c) 0 (Str.ofString "\n\t\r ").length 1).isEmpty) = isWs c := by
  rw [eq_of_beq (in_closes (x := Str.ofString "\n\t\r ") (y := chS c) (y' := chS c) (c := c) rfl rfl)]
  rw [show (Str.ofString "\n\t\r ").cps.toList = [10, 9, 13, 32] by decide +kernel]
  have key : ∀ d : Nat, Spec.same (.str ⟨#[d]⟩) (.str (chS c)) = (c == d) := fun d => by
    show ((⟨#[d]⟩ : Str) == chS c) = (c == d)
    by_cases h : c = d
    · subst h; simp
    · have h2 : (c == d) = false := by simp [h]
      rw [h2, beq_eq_false_iff_ne]
      intro e
      have := congrArg (fun s : Str => s.cps.toList) e
      simp at this
      exact h this.symm
  simp only [List.map_cons, List.map_nil, Spec.countIn, key, isWs]
  cases h1 : (c == 10) <;> cases h2 : (c == 9) <;> cases h3 : (c == 13) <;> cases h4 : (c == 32) <;> rfl
theorem ws_isEmpty (c : Nat) : (Builtin.Str.occurrences (Str.ofString "\n\t\r ") (chS c) 0 (Str.ofString "\n\t\r ").length 1).isEmpty = !isWs c := by
  rw [← ws_in, Bool.not_not]
theorem ch_eq (c d : Nat) : (chS c == chS d) = (c == d) := by
  by_cases h : c = d
  · subst h; simp
  · have h2 : (c == d) = false := by simp [h]
    rw [h2, beq_eq_false_iff_ne]
    intro e
    have := congrArg (fun s : Str => s.cps.toList) e
    simp at this
    exact h this
theorem ch_quote (c : Nat) : (chS c == Str.ofString "\"") = (c == 34) := by
  rw [show Str.ofString "\"" = chS 34 by decide +kernel]; exact ch_eq _ _
theorem ch_back (c : Nat) : (chS c == Str.ofString "\\") = (c == 92) := by
  rw [show Str.ofString "\\" = chS 92 by decide +kernel]; exact ch_eq _ _
theorem iadd_ch {prog : Program} {w : World} {A : Around} {E : Value → Shared → Prop} {s : Shared} {x : Str} {l : List Nat} {c : Nat} {t u : Tok} {Q : Value → Shared → Prop} (hx : x = textOf l) (hl : l.length ≤ 900)
    (h : ∀ t' k, Q (.str (textOf (l ++ [c])) t') { s with toks := k }) : wpAny (model prog w) A (inplaceOp .Add (.str x t) (.str (chS c) u)) Q E s := by
  subst hx
  refine SB.iadd (fun t' k => ?_) ?_
  · rw [textOf_snoc]; exact h t' k
  · rw [textOf_length, sizeLine_eq]; simp [Str.length]; omega
theorem ch_facts {c : Nat} {a b d : Bool} (h1 : isWs c = !a) (h2 : (c == 34) = b) (h3 : (c == 92) = d) :
    (Builtin.Str.occurrences (Str.ofString "\n\t\r ") (chS c) 0 (Str.ofString "\n\t\r ").length 1).isEmpty = a ∧ (chS c == Str.ofString "\"") = b ∧ (chS c == Str.ofString "\\") = d :=
  ⟨by rw [ws_isEmpty, h1, Bool.not_not], by rw [ch_quote, h2], by rw [ch_back, h3]⟩
theorem ws_not {c : Nat} (h : isWs c = true) : (c == 34) = false ∧ (c == 92) = false := by
  unfold isWs at h
  constructor
  · cases e : (c == 34) with
    | false => rfl
    | true => rw [eq_of_beq e] at h; cases h
  · cases e : (c == 92) with
    | false => rfl
    | true => rw [eq_of_beq e] at h; cases h
section
theorem start3 : True := by
  w_top off
  trivial
theorem ap_cut {b : Array UInt8} {i : Int} (h : KBw.bInts b = ((KBw.bInts #[65, 66, 67, 68, 69, 70, 71, 72, 73, 74, 75, 76, 77, 78, 79, 80]).drop (Option.elim (some i) 0 (clipAt (KBw.bInts #[65, 66, 67, 68, 69, 70, 71, 72, 73, 74, 75, 76, 77, 78, 79, 80]).length))).take ((Option.elim (some (i + 1)) (KBw.bInts #[65, 66, 67, 68, 69, 70, 71, 72, 73, 74, 75, 76, 77, 78, 79, 80]).length (clipAt (KBw.bInts #[65, 66, 67, 68, 69, 70, 71, 72, 73, 74, 75, 76, 77, 78, 79, 80]).length)) - Option.elim (some i) 0 (clipAt (KBw.bInts #[65, 66, 67, 68, 69, 70, 71, 72, 73, 74, 75, 76, 77, 78, 79, 80]).length))) (h0 : 0 ≤ i) (h1 : i < 16) : KBw.bInts b = [65 + i] := by
  rw [h]
  obtain ⟨k, rfl⟩ : ∃ k : Nat, i = k := ⟨i.toNat, (Int.toNat_of_nonneg h0).symm⟩
  have hk : k < 16 := Int.ofNat_lt.mp h1
  clear h h0 h1
  revert k
  decide +kernel
theorem fm16 (x : Int) : x.fmod 16 = x % 16 := Int.fmod_eq_emod_of_nonneg x (by decide)
theorem fd16 (x : Int) : x.fdiv 16 = x / 16 := Int.fdiv_eq_ediv_of_nonneg x (by decide)
theorem whlIf_both {b : Bool} {T F : Prop} (t : b = true → T) (f : b = false → F) : WhlIf b T F := by
  cases h : b with
  | true => exact WhlIf.yes rfl (t h)
  | false => exact WhlIf.no rfl (f h)
noncomputable def apL (n : Int) : List Int := if n = 0 then [] else if n < 16 then [65 + n] else if n < 256 then [65 + n / 16, 65 + n % 16] else [65 + n / 256, 65 + n / 16 % 16, 65 + n % 16]
theorem apL_1 {m n : Int} (ea : m = n) (h0 : 0 ≤ n) (h1 : ¬ m = 0) (h2 : m / 16 = 0) : [65 + n % 16] = apL n := by
  subst ea
  unfold apL
  rw [if_neg h1, if_pos (by omega)]
  congr 1; omega
theorem apL_2 {m n : Int} (ea : m = n) (h0 : 0 ≤ n) (h1 : ¬ m / 16 = 0) (h2 : m / 16 / 16 = 0) : [65 + n / 16 % 16, 65 + n % 16] = apL n := by
  subst ea
  unfold apL
  rw [if_neg (by omega), if_neg (by omega), if_pos (by omega)]
  congr 1; omega
theorem apL_3 {m n : Int} (ea : m = n) (h0 : 0 ≤ n) (h3 : n < 4096) (h1 : ¬ m / 16 / 16 = 0) : [65 + n / 16 / 16 % 16, 65 + n / 16 % 16, 65 + n % 16] = apL n := by
  subst ea
  unfold apL
  rw [if_neg (by omega), if_neg (by omega), if_neg (by omega)]
  congr 1; omega
theorem apL_0 {n : Int} (h1 : n = 0) : [] = apL n := by unfold apL; rw [if_pos h1]
local macro_rules | `(tactic| walk_at "exec While") => `(tactic| (k_here; k_dflt (refine whl_start 100 ?_)))
local macro_rules | `(tactic| walk_at "WhlIf") => `(tactic| (first | (refine WhlIf.yes (by simp only [bne_iff_ne, ne_eq, fm16, fd16]; omega) ?_) | (refine WhlIf.no (by simp only [bne_eq_false_iff_eq, fm16, fd16]; omega) ?_) | (refine whlIf_both ?_ ?_ <;> intro hwb <;> simp only [bne_iff_ne, ne_eq, bne_eq_false_iff_eq, fm16, fd16] at hwb)))
theorem int2ap_spec {w : World} {loose : List Str} {mean : ExcName → Option Value} {mg mb : Str → Option Value} {n : Int} {t : Tok} {h : Heap} (h0 : 0 ≤ n) (h1 : n < 4096) :
    Spec w loose mean mg mb (.call (.ref 63) ⟨[.int n t], []⟩) 1 20 [] [] h (fun v _ => ∃ b t, v = .bytes b t ∧ KBw.bInts b = apL n) := by
  unfold Spec
  k_fill
  intro dp un gd base outer h₀ s R hs B X T k hmf hroom hunits hret
  subst hs
  (refine' enter (news := ?news) ?k1 ?k2 ?k3 ?k4 ?kn ?kf ?k6 ?k7 ?k8 ?k9 ?kB ?_ ?c5 ?c2 ?c3 ?c4; (case k1 => assumption); (case k2 => assumption); (case k3 => assumption); (case k4 => assumption); (case k6 => k_is); (case k7 => k_is); (case k8 => (first | exact offU1 (by assumption) | (dsimp only [around]; omega))); (case k9 => exact BindsTo.of_eq rfl); (case c5 => decide); (case kB => exact locs rfl); (case c2 => exact rfl); (case c3 => exact rfl); (case c4 => exact rfl))
  case news => exact []
  case kn => exact (List.forall_mem_nil _)
  case kf => exact (List.forall_mem_nil _)
  intro g L' h₁ F N B' X' T' hl hK hL
  clear B X T
  (try dsimp only)
  show wpAny _ _ _ _ _ _
  k_fold
  (repeat' (first | (k_unfold; (try dsimp only)) | (dsimp only; k_unfold; try dsimp only) | ((fail_if_success (goal_lacks subscriptTail)); (k_here; (with_reducible show wpAny _ _ (subscriptTail _ (Expr.Slice _ _ none _) (Value.bytes _ _) (Value.ref _)) _ _ _); (with_reducible rename Fr _ _ _ _ => F'); (with_reducible rename News _ _ _ _ => N'); (refine KBc.slice_K (s := ⟨_, _, _, _, _⟩) F' N' rfl (by constructor) (by constructor) (by decide) ?_); intro _ _ _ _ _ kbcK; (replace kbcK := ap_cut kbcK (by simp only [fm16, fd16]; omega) (by simp only [fm16, fd16]; omega)))) | (k_end; wrow_close) | walk1 | (dsimp only; walk1) | (leave1; (try dsimp only)) | fail "no step"))
  all_goals
    have ea : (if n < 0 then -n else n) = n := if_neg (Int.not_lt.mpr h0)
    (rename Fr _ _ _ _ => F5)
    first
      | (refine hret _ _ _ (hK _ (Fr.keep F5)) ⟨_, _, rfl, Eq.trans (by assumption) ?_⟩
         simp only [if_neg (Int.not_lt.mpr h0), fm16, fd16, List.map_nil, List.append_nil, List.cons_append, List.nil_append]
         first
         | exact apL_1 ea h0 (by assumption) (by assumption)
         | exact apL_2 ea h0 (by assumption) (by assumption)
         | exact apL_3 ea h0 h1 (by assumption)
         | skip
         all_goals unfold apL
         all_goals (repeat' split) <;> first | (exfalso; omega) | (congr 1 <;> omega) | (congr 1 <;> first | omega | (congr 1 <;> first | omega | (congr 1 <;> omega))))
      | (refine hret _ _ _ (hK _ (Fr.keep F5)) ⟨_, _, rfl, ?_⟩
         unfold apL
         rw [if_pos (by omega)]
         rfl)
end
section
variable {prog : Program} {w : World} {A : Around} {E : Value → Shared → Prop} {s : Shared} {h₀ : Heap} {L : Addr} {m : Str → Option Value} {env : Env}
/-- a comprehension over bytes -/
noncomputable def BytesSrc (prog : Program) (w : World) (A : Around) (h₀ : Heap) (L : Addr) (m : Str → Option Value) (env : Env) (elt : PySem.Expr) (x : Str) (scope : Scope) (cl : List (Str × Addr)) (Fin : Shared → List Value → List (Addr × Obj) → Prop) (xv : Value) (s₁ : Shared) : Prop :=
  ∃ b t news, xv = .bytes b t ∧ A.handled = none ∧ Fr h₀ L s₁.heap m ∧ News h₀ L s₁.heap news ∧ b.size ≤ sizeLine ∧
    ∀ s₂ : Shared, (∃ h, s₂ = { s₁ with heap := h }) → LCg.CompRest prog w A h₀ L m env elt x scope cl s₂ (fun _ => True) (fun i v => ∃ c u, b[i]? = some c ∧ v = .int (c.toNat : Int) u) (Fin s₂) b.size 0 [] news
theorem comp_bytes {elt iter : PySem.Expr} {x : Str} {px : Pos} {scope : Scope} {cl : List (Str × Addr)} {pos : Pos} {Q : Value → Shared → Prop} (_F₀ : Fr h₀ L s.heap m)
    (hclos : closureFor scope env = pure cl) (hcell : ∀ y ∈ scope.names, y.2 ≠ .cell) (hkind : scope.kind = .function)
    (hnames : ∀ y ∈ scope.names, y.2 = .local → scope.names.lookup y.1 = some .local) (hx : scope.names.lookup x = some .local)
    (h : wpAny (model prog w) A (eval iter env) (BytesSrc prog w A h₀ L m env elt x scope cl (fun s₂ => LCg.FinE h₀ L m s₂ Q)) E s)
    (hs : ∀ x, foldedSetIterable iter env x = pure x := by intro _; rfl) :
    wpAny (model prog w) A (eval (.ListComp elt [⟨.Name x px, iter, [], 0⟩] scope pos) env) Q E s := by
  rw [eval_ListComp]
  refine wpAny_comprehension_free (use := none) rfl hs hclos hkind hnames (wpAny_mono h (fun xv s₁ h₁ => ?_) fun _ _ e => e)
  obtain ⟨b, t, news, rfl, hh, F, N, hsz, R⟩ := h₁
  refine KBw.pyIter_bytes ?_
  refine LCg.block_U (KBw.walks hh s₁.heap.objs.size b t) hsz (fun i h st => by obtain ⟨o, e, _⟩ := st; exact ⟨o, e⟩) (fun i h h' o nw st e e' _ _ _ => by obtain ⟨o', q, r⟩ := st; rw [e] at q; cases q; exact ⟨o, e', r⟩) hcell hkind hx ⟨_, Heap.get?_push_size _ rfl, rfl, rfl⟩ (fun a ha => ?_)
    (F.keeps fun _ _ e => Heap.get?_push_of_some _ e) (N.grown fun _ _ e => Heap.get?_push_of_some _ e) (Nat.ne_of_lt F.ns.lt) (next_is_new F) (fun p hp => Nat.ne_of_lt (Heap.lt_size (N p hp).1)) trivial (R _ ⟨_, rfl⟩) ?_
  · rw [List.mem_singleton.mp ha]
    show s₁.heap.objs.size < (s₁.heap.push _).objs.size
    rw [Heap.size_push]; exact Nat.lt_succ_self _
  · intro D C h tk m' ys news' F' N' o1 hn hC₀ hD₀ hCL hDL hCD offC fin
    refine ⟨m', hn, fun h'' hs'' => fin D h'' tk (F'.change hs'' hCL hC₀) (fun p hp => ?_) o1⟩
    refine ⟨hs''.extBut _ _ ?_ (N' p hp).1, (N' p hp).2⟩
    rcases List.mem_cons.mp hp with rfl | hp
    · exact Ne.symm hCD
    · exact offC p hp
end
section
theorem start4 : True := by
  w_top off
  trivial
noncomputable def wordF (n : Int) : Str := textOf ((apL n).map Int.toNat)
local macro_rules | `(tactic| walk_at "eval ListComp") => `(tactic| (k_here; k_dflt (refine comp_bytes (by k_asm) (by with_unfolding_all rfl) (by decide) (by rfl) (by decide) (by rfl) ?_)))
theorem apL_mem {n k : Int} (h0 : 0 ≤ n) (h1 : n < 4096) (h : k ∈ apL n) : 65 ≤ k ∧ k < 81 := by
  unfold apL at h
  split at h
  · cases h
  · split at h
    · simp only [List.mem_cons, List.not_mem_nil, or_false] at h; omega
    · split at h
      · simp only [List.mem_cons, List.not_mem_nil, or_false] at h; omega
      · simp only [List.mem_cons, List.not_mem_nil, or_false] at h; omega
theorem apL_len (n : Int) : (apL n).length ≤ 3 := by
  unfold apL
  (repeat' split) <;> simp
theorem join_fold : ∀ (l : List (List Nat)) (acc : List Nat), (l.map textOf).foldl (fun (a : Array Nat) (p : Str) => a ++ (Str.ofString "").cps ++ p.cps) acc.toArray = (acc ++ l.flatten).toArray
  | [], acc => by simp
  | x :: r, acc => by
    rw [List.map_cons, List.foldl_cons]
    have e : acc.toArray ++ (Str.ofString "").cps ++ (textOf x).cps = (acc ++ x).toArray := by
      rw [show (Str.ofString "").cps = #[] from rfl]; simp [textOf]
    rw [e, join_fold r]
    simp
theorem join_texts : ∀ l : List (List Nat), Txt.join (Str.ofString "") (l.map textOf) = textOf l.flatten
  | [] => rfl
  | x :: r => by
    show (⟨(r.map textOf).foldl (fun (a : Array Nat) (p : Str) => a ++ (Str.ofString "").cps ++ p.cps) x.toArray⟩ : Str) = _
    rw [join_fold]; rfl
theorem join_chS (l : List Int) : (Txt.join (Str.ofString "") (l.map fun k => chS k.toNat)) = textOf (l.map Int.toNat) := by
  have h := join_texts (l.map fun k => [k.toNat])
  rw [List.map_map] at h
  refine Eq.trans h ?_
  congr 1
  induction l with
  | nil => rfl
  | cons a r ih => simp only [List.map_cons, List.flatten_cons, ih (join_texts _ |> fun q => by rw [List.map_map] at q; exact q)]; rfl
theorem word_src {prog : Program} {w : World} {A : Around} {h₀ : Heap} {L : Addr} {m : Str → Option Value} {env : Env} {elt : PySem.Expr} {x : Str} {scope : Scope} {cl : List (Str × Addr)} {Fin : Shared → List Value → List (Addr × Obj) → Prop} {b : Array UInt8} {u : Tok} {s₁ : Shared} {n : Int} (h0 : 0 ≤ n) (h1 : n < 4096) (hb : KBw.bInts b = apL n) (hh : A.handled = none)
    (F : Fr h₀ L s₁.heap m) (N : News h₀ L s₁.heap [])
    (turn : ∀ hp, ∀ k t I oI C oC D m₂ ys h tk (E' : Value → Shared → Prop), k ∈ apL n → LCg.NsObj oC m₂ → m₂ x = some (.int k t) → Fr h₀ L h m → News h₀ L h ((I, oI) :: (C, oC) :: (D, LCg.lst ys) :: []) → LCg.Off3 I C D [] → ((@Ne Nat I C) ∧ (@Ne Nat I D) ∧ (@Ne Nat C D)) → 65 ≤ k ∧ k < 81 →
      wpAny (model prog w) A (eval elt (compEnvC scope cl C env)) (LCg.CompEnd h₀ L m { ({s₁ with heap := hp} : Shared) with heap := h, toks := tk } I oI C oC D (LCg.lst ys) (fun _ => True) (fun y news' => KCtEl [] (chS k.toNat) y news')) E' { ({s₁ with heap := hp} : Shared) with heap := h, toks := tk })
    (fin : ∀ hp, KPfDone (∀ ys, CarriedAll ys ((apL n).map fun k => PyData.str (chS k.toNat)) → (apL n).length = b.size → Fin { s₁ with heap := hp } ys [])) :
    BytesSrc prog w A h₀ L m env elt x scope cl Fin (.bytes b u) s₁ := by
  refine ⟨b, u, [], rfl, hh, F, N, ?_, ?_⟩
  · rw [← KBw.ints_length, hb]; exact Nat.le_trans (apL_len _) (by decide)
  · rintro s₂ ⟨hp, rfl⟩
    refine kct_rest (ks := apL n) (fun k => chS k.toNat) (by rw [← hb]; exact KBw.ints_length _) ?_ (fun k' t' I' oI' C' oC' D' m' ys' h' tk' E' hk' hC' hx' F' N' off' ne' _ => ?_) (fin hp)
    · rintro i v hi ⟨c, u, hc, e3⟩
      exact ⟨_, u, by rw [← hb]; exact KBw.ints_get hc, e3⟩
    · exact turn hp k' t' I' oI' C' oC' D' m' ys' h' tk' E' hk' hC' hx' F' N' off' ne' (apL_mem h0 h1 hk')
local macro_rules | `(tactic| walk_at "KCtEl") => `(tactic| exact ⟨rfl, _, rfl⟩)
local macro_rules | `(tactic| walk_at "call builtin:str.join") => `(tactic| (k_here; (with_reducible rename CarriedAll _ (List.map _ _) => ktC); (refine KT.join_1 (by exact News.isList (by k_asm) (by k_mem)) ktC (by intro ktA ktM; rfl) (Nat.le_trans (apL_len _) (by decide)) ?_; intro _ _ ktE)))
theorem word_spec {w : World} {loose : List Str} {mean : ExcName → Option Value} {mg mb : Str → Option Value} {n : Int} {t : Tok} {h : Heap} (h0 : 0 ≤ n) (h1 : n < 4096) :
    Spec w loose mean mg mb (.call (.ref 92) ⟨[.int n t], []⟩) 3 40 [] [] h (fun v _ => ∃ t, v = .str (wordF n) t) := by
  unfold Spec
  k_fill
  intro dp un gd base outer h₀ s R hs B X T k hmf hroom hunits hret
  subst hs
  (refine' enter (news := ?news) ?k1 ?k2 ?k3 ?k4 ?kn ?kf ?k6 ?k7 ?k8 ?k9 ?kB ?_ ?c5 ?c2 ?c3 ?c4; (case k1 => assumption); (case k2 => assumption); (case k3 => assumption); (case k4 => assumption); (case k6 => k_is); (case k7 => k_is); (case k8 => (first | exact offU1 (by assumption) | (dsimp only [around]; omega))); (case k9 => exact BindsTo.of_eq rfl); (case c5 => decide); (case kB => exact locs rfl); (case c2 => exact rfl); (case c3 => exact rfl); (case c4 => exact rfl))
  case news => exact []
  case kn => exact (List.forall_mem_nil _)
  case kf => exact (List.forall_mem_nil _)
  intro g L' h₁ F N B' X' T' hl hK hL
  clear B X T
  (try dsimp only)
  show wpAny _ _ _ _ _ _
  k_fold
  (repeat' (first | (k_unfold; (try dsimp only)) | (dsimp only; k_unfold; try dsimp only) | ((k_here; (with_reducible show wpAny _ _ (call (Value.ref 63) [Value.int _ _]) _ _ _); k_dflt (refine' Spec.use (int2ap_spec ?a ?b) ?B ?F ?X ?N ?T rfl rfl rfl rfl (List.forall_mem_nil _) (List.forall_mem_nil _) ?d ?u ?_; (case B => k_asm); (case F => k_asm); (case X => k_asm); (case N => k_asm); (case T => k_asm); (case a => omega); (case b => omega); (case d => first | exact offU (by assumption) (by decide) | (simp only [depth_deeper]; omega)); (case u => first | exact offU (by assumption) (by decide) | (simp only [units_deeper]; omega)); k_whole); rintro v h' tk' F' K' ⟨b', t', ev', hb'⟩; subst ev'; (with_reducible rename News _ _ _ _ => N'); (replace N' := newsUpd0 N' K'))) | ((with_reducible show BytesSrc _ _ _ _ _ _ _ _ _ _ _ _ _ _); ((refine' word_src ?ka ?kb ?kc rfl ?kF ?kN ?_ ?_); (case kc => assumption); (case ka => assumption); (case kb => assumption); (case kF => k_asm); (case kN => k_asm); (all_goals (first | (intro hp k' t' I' oI' C' oC' D' m' ys' h' tk' E' hk' hC' hx' F' N' off' ne' hkb; (try (simp only [LCg.Off3, and_true] at off')); (try k_fold); (try dsimp only)) | (intro hp; (try k_fold); (try dsimp only)))))) | (k_end; wrow_close) | walk1 | (dsimp only; walk1) | (leave1; (try dsimp only)) | fail "no step"))
  rename Fr _ _ _ _ => F5
  exact hret _ _ _ (hK _ (Fr.keep F5)) ⟨_, by rw [join_chS]; rfl⟩
end
section
theorem start5 : True := by
  w_top off
  trivial
theorem iseof_spec {w : World} {loose : List Str} {mean : ExcName → Option Value} {mg mb : Str → Option Value} {x : Int} {t : Tok} {h : Heap} :
    Spec w loose mean mg mb (.call (.ref 80) ⟨[.int x t], []⟩) 1 20 [] [] h (fun v _ => v = .bool (x == 0)) := by
  unfold Spec
  k_fill
  intro dp un gd base outer h₀ s R hs B X T k hmf hroom hunits hret
  subst hs
  (refine' enter (news := ?news) ?k1 ?k2 ?k3 ?k4 ?kn ?kf ?k6 ?k7 ?k8 ?k9 ?kB ?_ ?c5 ?c2 ?c3 ?c4; (case k1 => assumption); (case k2 => assumption); (case k3 => assumption); (case k4 => assumption); (case k6 => k_is); (case k7 => k_is); (case k8 => (first | exact offU1 (by assumption) | (dsimp only [around]; omega))); (case k9 => exact BindsTo.of_eq rfl); (case c5 => decide); (case kB => exact locs rfl); (case c2 => exact rfl); (case c3 => exact rfl); (case c4 => exact rfl))
  case news => exact []
  case kn => exact (List.forall_mem_nil _)
  case kf => exact (List.forall_mem_nil _)
  intro g L' h₁ F N B' X' T' hl hK hL
  clear B X T
  (try dsimp only)
  show wpAny _ _ _ _ _ _
  k_fold
  (repeat' (first | (k_unfold; (try dsimp only)) | (dsimp only; k_unfold; try dsimp only) | (k_end; wrow_close) | walk1 | (dsimp only; walk1) | (leave1; (try dsimp only)) | fail "no step"))
  rename Fr _ _ _ _ => F5
  exact hret _ _ _ (hK _ (Fr.keep F5)) rfl
theorem isnt_spec {w : World} {loose : List Str} {mean : ExcName → Option Value} {mg mb : Str → Option Value} {x : Int} {t : Tok} {h : Heap} :
    Spec w loose mean mg mb (.call (.ref 73) ⟨[.int x t], []⟩) 1 20 [] [] h (fun v _ => v = .bool (decide (256 ≤ x))) := by
  unfold Spec
  k_fill
  intro dp un gd base outer h₀ s R hs B X T k hmf hroom hunits hret
  subst hs
  (refine' enter (news := ?news) ?k1 ?k2 ?k3 ?k4 ?kn ?kf ?k6 ?k7 ?k8 ?k9 ?kB ?_ ?c5 ?c2 ?c3 ?c4; (case k1 => assumption); (case k2 => assumption); (case k3 => assumption); (case k4 => assumption); (case k6 => k_is); (case k7 => k_is); (case k8 => (first | exact offU1 (by assumption) | (dsimp only [around]; omega))); (case k9 => exact BindsTo.of_eq rfl); (case c5 => decide); (case kB => exact locs rfl); (case c2 => exact rfl); (case c3 => exact rfl); (case c4 => exact rfl))
  case news => exact []
  case kn => exact (List.forall_mem_nil _)
  case kf => exact (List.forall_mem_nil _)
  intro g L' h₁ F N B' X' T' hl hK hL
  clear B X T
  (try dsimp only)
  show wpAny _ _ _ _ _ _
  k_fold
  (repeat' (first | (k_unfold; (try dsimp only)) | (dsimp only; k_unfold; try dsimp only) | (k_end; wrow_close) | walk1 | (dsimp only; walk1) | (leave1; (try dsimp only)) | fail "no step"))
  rename Fr _ _ _ _ => F5
  exact hret _ _ _ (hK _ (Fr.keep F5)) rfl
noncomputable def Halt (P : Prop) : Prop := P
theorem halt {P : Prop} (h : Halt P) : P := h
theorem newList_L {prog : Program} {w : World} {A : Around} {E : Value → Shared → Prop} {s : Shared} {h₀ : Heap} {L : Addr} {m : Str → Option Value} {news : List (Addr × Obj)} {vs : List Value} {Q : Value → Shared → Prop} (F : Fr h₀ L s.heap m) (N : News h₀ L s.heap news)
    (h : ∀ l h', Fr h₀ L h' m → News h₀ L h' ((l, listOf vs.toArray 0) :: news) → (∀ p ∈ news, p.1 < l) → L < l → Q (.ref l) { s with heap := h' }) (hsz : vs.length ≤ sizeLine) : wpAny (model prog w) A (newList vs) Q E s :=
  newList_N F N (fun h' F' N' => h _ h' F' N' (fun p hp => Heap.lt_size (N p hp).1) F.ns.lt) hsz
/-- an address that is new for g is new for the heap of the call -/
theorem fresh_of {own : List Addr} {g h h' : Heap} {D L : Addr} {o : Obj} {news : List (Addr × Obj)} (hK : ∀ h', (∀ b o, g.get? b = some o → h'.get? b = some o) → Keeps own h h') (N : News g L h' news) (hm : (D, o) ∈ news) (ho : D ∉ own) : h.get? D = none := by
  cases q : h.get? D with
  | none => rfl
  | some o' =>
    have r := hK g (fun _ _ e => e) D o' q ho
    rw [(N _ hm).2.2] at r; cases r
end
section
variable {prog : Program} {w : World} {A : Around} {E : Value → Shared → Prop} {s : Shared} {h₀ : Heap} {L : Addr} {m : Str → Option Value} {env : Env}
/-- a comprehension over an ASCII text -/
noncomputable def StrSrc (prog : Program) (w : World) (A : Around) (h₀ : Heap) (L : Addr) (m : Str → Option Value) (env : Env) (elt : PySem.Expr) (x : Str) (scope : Scope) (cl : List (Str × Addr)) (Fin : Shared → List Value → List (Addr × Obj) → Prop) (xv : Value) (s₁ : Shared) : Prop :=
  ∃ b t news, xv = .str b t ∧ b.cps.all (· < 128) = true ∧ A.handled = none ∧ Fr h₀ L s₁.heap m ∧ News h₀ L s₁.heap news ∧ b.cps.size ≤ sizeLine ∧
    ∀ s₂ : Shared, (∃ h, s₂ = { s₁ with heap := h }) → LCg.CompRest prog w A h₀ L m env elt x scope cl s₂ (fun _ => True) (SignAt b) (Fin s₂) b.cps.size 0 [] news
theorem comp_str {elt iter : PySem.Expr} {x : Str} {px : Pos} {scope : Scope} {cl : List (Str × Addr)} {pos : Pos} {Q : Value → Shared → Prop} (_F₀ : Fr h₀ L s.heap m)
    (hclos : closureFor scope env = pure cl) (hcell : ∀ y ∈ scope.names, y.2 ≠ .cell) (hkind : scope.kind = .function)
    (hnames : ∀ y ∈ scope.names, y.2 = .local → scope.names.lookup y.1 = some .local) (hx : scope.names.lookup x = some .local)
    (h : wpAny (model prog w) A (eval iter env) (StrSrc prog w A h₀ L m env elt x scope cl (fun s₂ => LCg.FinE h₀ L m s₂ Q)) E s)
    (hs : ∀ x, foldedSetIterable iter env x = pure x := by intro _; rfl) :
    wpAny (model prog w) A (eval (.ListComp elt [⟨.Name x px, iter, [], 0⟩] scope pos) env) Q E s := by
  rw [eval_ListComp]
  refine wpAny_comprehension_free (use := none) rfl hs hclos hkind hnames (wpAny_mono h (fun xv s₁ h₁ => ?_) fun _ _ e => e)
  obtain ⟨b, t, news, rfl, ha, hh, F, N, hsz, R⟩ := h₁
  refine wpAny_pyIter_ascii ha ?_
  refine LCg.block_U (Walks.strAscii hh s₁.heap.objs.size b t) hsz (fun i h st => by obtain ⟨o, e, _⟩ := st; exact ⟨o, e⟩) (fun i h h' o nw st e e' _ _ _ => by obtain ⟨o', q, r⟩ := st; rw [e] at q; cases q; exact ⟨o, e', r⟩) hcell hkind hx ⟨_, Heap.get?_push_size _ rfl, rfl, rfl⟩ (fun a ha => ?_)
    (F.keeps fun _ _ e => Heap.get?_push_of_some _ e) (N.grown fun _ _ e => Heap.get?_push_of_some _ e) (Nat.ne_of_lt F.ns.lt) (next_is_new F) (fun p hp => Nat.ne_of_lt (Heap.lt_size (N p hp).1)) trivial (R _ ⟨_, rfl⟩) ?_
  · rw [List.mem_singleton.mp ha]
    show s₁.heap.objs.size < (s₁.heap.push _).objs.size
    rw [Heap.size_push]; exact Nat.lt_succ_self _
  · intro D C h tk m' ys news' F' N' o1 hn hC₀ hD₀ hCL hDL hCD offC fin
    refine ⟨m', hn, fun h'' hs'' => fin D h'' tk (F'.change hs'' hCL hC₀) (fun p hp => ?_) o1⟩
    refine ⟨hs''.extBut _ _ ?_ (N' p hp).1, (N' p hp).2⟩
    rcases List.mem_cons.mp hp with rfl | hp
    · exact Ne.symm hCD
    · exact offC p hp
/-- the turns of a comprehension whose elements are texts of the signs -/
theorem cs_rest {elt : PySem.Expr} {x : Str} {scope : Scope} {cl : List (Str × Addr)} {l : List Nat} {S : List (Addr × Obj) → Prop} {Fin : List Value → List (Addr × Obj) → Prop} {news : List (Addr × Obj)} (g : Nat → Str)
    (turn : ∀ c t I oI C oC D m₂ ys h tk (E' : Value → Shared → Prop), c ∈ l → LCg.NsObj oC m₂ → m₂ x = some (.str (chS c) t) → Fr h₀ L h m → News h₀ L h ((I, oI) :: (C, oC) :: (D, LCg.lst ys) :: news) → LCg.Off3 I C D news → ((@Ne Nat I C) ∧ (@Ne Nat I D) ∧ (@Ne Nat C D)) →
      wpAny (model prog w) A (eval elt (compEnvC scope cl C env)) (LCg.CompEnd h₀ L m { s with heap := h, toks := tk } I oI C oC D (LCg.lst ys) S (fun y news' => KCtEl news (g c) y news')) E' { s with heap := h, toks := tk })
    (fin : ∀ ys, CarriedAll ys (l.map fun c => PyData.str (g c)) → Fin ys news) : LCg.CompRest prog w A h₀ L m env elt x scope cl s S (SignAt (textOf l)) Fin (textOf l).cps.size 0 [] news := by
  have hn : (textOf l).cps.size = l.length := by simp [textOf]
  rw [hn]
  have key : ∀ (j i : Nat) (ys : List Value), i + j = l.length → StrsAre ys ((l.take i).map g) → LCg.CompRest prog w A h₀ L m env elt x scope cl s S (SignAt (textOf l)) Fin j i ys news := by
    intro j
    induction j with
    | zero =>
      intro i ys hi hy
      have e : i = l.length := by omega
      subst e
      rw [List.take_length] at hy
      have hc := hy.carried
      rw [List.map_map] at hc
      exact LCg.CompRest.zero (fin ys hc)
    | succ j ih =>
      intro i ys hi hy
      refine LCg.CompRest.succ ?_
      intro v I oI C oC D m₂ h tk E' hv hC hx F N off ne
      obtain ⟨c, t, hk, hv'⟩ := hv
      have hk' : l[i]? = some c := by simpa [textOf] using hk
      rw [hv'] at hx
      refine wpAny_mono (turn c t I oI C oC D m₂ ys h tk E' (List.mem_of_getElem? hk') hC hx F N off ne) (fun y s₂ hq => ?_) fun _ _ e => e
      obtain ⟨h', tk', nw, e, F', N', off', hS, hn, t', hy'⟩ := hq
      rw [hn] at N' off' hS
      refine ⟨h', tk', news, e, F', N', off', hS, ?_⟩
      rw [hy']
      refine ih (i + 1) _ (by omega) ?_
      rw [List.take_add_one, hk']
      simpa using kct_snoc hy
  exact key l.length 0 [] (by omega) (by simp only [List.take_zero, List.map_nil]; exact .nil)
end
section
theorem start6 : True := by
  w_top off
  trivial
theorem seqIndex_zero (k : Nat) : seqIndex? 0 (k + 1) = some 0 := by
  simp only [seqIndex?, show ¬ (0 : Int) < 0 by decide, if_false]
  rw [if_pos (by simp)]
  rfl
section
variable {prog : Program} {w : World} {A : Around} {E : Value → Shared → Prop} {s : Shared} {h₀ : Heap} {L D : Addr} {m : Str → Option Value} {news news' : List (Addr × Obj)} {n : Nat}
theorem pop_front {u : Tok} {q : List Value} {y : Value} {Q : Value → Shared → Prop} (F : Fr h₀ L s.heap m) (N : News h₀ L s.heap news) (U : Upd D (listOf (y :: q).toArray n) (listOf q.toArray (n + 1)) news news') (hz : q.length ≤ 1000)
    (h : ∀ h', Fr h₀ L h' m → News h₀ L h' news' → Q y { s with heap := h' }) : wpAny (model prog w) A (call (.builtin "list.pop") [.ref D, .int 0 u]) Q E s :=
  kl_popAt (p := []) (q := q) (k := 0) F N rfl (by rw [List.size_toArray, List.length_cons]; exact seqIndex_zero _) rfl U (by rw [sizeLine_eq]; simp only [List.length_cons]; omega) h
theorem truthy_front {a : Addr} {y : Value} {vs : List Value} {Q : Bool → Shared → Prop} (N : News h₀ L s.heap news) (hm : (a, listOf (y :: vs).toArray n) ∈ news) (hfit : vs.length ≤ 1000) (h : Q true { s with toks := s.toks + 1 + 1 }) : wpAny (model prog w) A (truthy (.ref a)) Q E s :=
  kgr_truthy N hm rfl rfl (by simp only [List.length_cons]; omega) h
end
local macro_rules | `(tactic| walk_at "truthy ref") => `(tactic| (k_here; k_dflt (refine' truthy_front ?N ?m ?z ?_; (case N => k_asm); (case m => k_mem); (case z => assumption))))
local macro_rules | `(tactic| walk_at "call builtin:list.pop") => `(tactic| (k_here; k_dflt (refine' pop_front ?F ?N ?U ?z ?_; (case F => k_asm); (case N => k_asm); (case U => k_upd); (case z => assumption)); (intro h' F' N'; (try dsimp only [List.nil_append, List.cons_append] at N'))))
theorem push_spec {w : World} {loose : List Str} {mean : ExcName → Option Value} {mg mb : Str → Option Value} {A : LA} {S : SA} {h : Heap} {ln : Int} {tl t : Tok} {n : Nat} {x : Str} {vs : List Value} (ND : LexN A S)
    (hlx : h.get? A.lx = some (instObj 52 A.dx)) (hdx : h.get? A.dx = some (dictOf (lexEs w A S ln tl) 4)) (hpb : h.get? A.pb = some (listOf vs.toArray n)) (hlen : vs.length ≤ 1000) :
    Spec w loose mean mg mb (.call (.ref 49) ⟨[.ref A.lx, .str x t], []⟩) 2 40 [A.pb] [A.lx, A.dx, A.pb] h
      (fun v h' => v = .none ∧ ∃ n', h'.get? A.pb = some (listOf (vs ++ [Value.str x t]).toArray n')) := by
  unfold Spec
  k_fill
  intro dp un gd base outer h₀ s R hs B X T k hmf hroom hunits hret
  subst hs
  unfold LexN SN at ND
  (refine' enter (news := ?news) ?k1 ?k2 ?k3 ?k4 ?kn ?kf ?k6 ?k7 ?k8 ?k9 ?kB ?_ ?c5 ?c2 ?c3 ?c4; (case k1 => assumption); (case k2 => assumption); (case k3 => assumption); (case k4 => assumption); (case k6 => k_is); (case k7 => k_is); (case k8 => (first | exact offU1 (by assumption) | (dsimp only [around]; omega))); (case k9 => exact BindsTo.of_eq rfl); (case c5 => decide); (case kB => exact locs rfl); (case c2 => exact rfl); (case c3 => exact rfl); (case c4 => exact rfl))
  case news => exact [(A.lx, instObj 52 A.dx), (A.dx, dictOf (lexEs w A S ln tl) 4), (A.pb, listOf vs.toArray n)]
  case kn => simp only [List.forall_mem_cons]; exact ⟨hlx, hdx, hpb, List.forall_mem_nil _⟩
  case kf => exact hmf
  intro g L' h₁ F N B' X' T' hl hK hL
  k_lt hl
  clear B X T
  unfold lexEs at N
  (try dsimp only)
  show wpAny _ _ _ _ _ _
  k_fold
  (repeat' (first | (k_unfold; (try dsimp only)) | (dsimp only; k_unfold; try dsimp only) | (k_end; wrow_close) | walk1 | (dsimp only; walk1) | (leave1; (try dsimp only)) | fail "no step"))
  (rename Fr _ _ _ _ => F5); (rename News _ _ _ _ => N5)
  simp only [List.push_toArray] at N5
  refine hret _ _ _ (Keeps.narrow (hK _ (Fr.keep F5)) ?k1) ⟨rfl, _, newsAt N5 2 rfl⟩
  case k1 => exact List.forall_mem_cons.mpr ⟨.inr ⟨_, hlx, newsAt N5 0 rfl⟩, List.forall_mem_cons.mpr ⟨.inr ⟨_, hdx, newsAt N5 1 rfl⟩, List.forall_mem_cons.mpr ⟨.inl (.head _), List.forall_mem_nil _⟩⟩⟩
theorem pop_spec {w : World} {loose : List Str} {mean : ExcName → Option Value} {mg mb : Str → Option Value} {A : LA} {S : SA} {h : Heap} {ln : Int} {tl t : Tok} {n : Nat} {x : Str} {vs : List Value} (ND : LexN A S)
    (hlx : h.get? A.lx = some (instObj 52 A.dx)) (hdx : h.get? A.dx = some (dictOf (lexEs w A S ln tl) 4)) (hpb : h.get? A.pb = some (listOf (Value.str x t :: vs).toArray n)) (hlen : vs.length ≤ 1000) :
    Spec w loose mean mg mb (.call (.ref 42) ⟨[.ref A.lx], []⟩) 2 40 [A.pb] [A.lx, A.dx, A.pb] h
      (fun v h' => v = .str x t ∧ ∃ n', h'.get? A.pb = some (listOf vs.toArray n')) := by
  unfold Spec
  k_fill
  intro dp un gd base outer h₀ s R hs B X T k hmf hroom hunits hret
  subst hs
  unfold LexN SN at ND
  (refine' enter (news := ?news) ?k1 ?k2 ?k3 ?k4 ?kn ?kf ?k6 ?k7 ?k8 ?k9 ?kB ?_ ?c5 ?c2 ?c3 ?c4; (case k1 => assumption); (case k2 => assumption); (case k3 => assumption); (case k4 => assumption); (case k6 => k_is); (case k7 => k_is); (case k8 => (first | exact offU1 (by assumption) | (dsimp only [around]; omega))); (case k9 => exact BindsTo.of_eq rfl); (case c5 => decide); (case kB => exact locs rfl); (case c2 => exact rfl); (case c3 => exact rfl); (case c4 => exact rfl))
  case news => exact [(A.lx, instObj 52 A.dx), (A.dx, dictOf (lexEs w A S ln tl) 4), (A.pb, listOf (.str x t :: vs).toArray n)]
  case kn => simp only [List.forall_mem_cons]; exact ⟨hlx, hdx, hpb, List.forall_mem_nil _⟩
  case kf => exact hmf
  intro g L' h₁ F N B' X' T' hl hK hL
  k_lt hl
  clear B X T
  unfold lexEs at N
  (try dsimp only)
  show wpAny _ _ _ _ _ _
  k_fold
  (repeat' (first | (k_unfold; (try dsimp only)) | (dsimp only; k_unfold; try dsimp only) | (k_end; wrow_close) | walk1 | (dsimp only; walk1) | (leave1; (try dsimp only)) | fail "no step"))
  (rename Fr _ _ _ _ => F5); (rename News _ _ _ _ => N5)
  refine hret _ _ _ (Keeps.narrow (hK _ (Fr.keep F5)) ?k1) ⟨rfl, _, newsAt N5 2 rfl⟩
  case k1 => exact List.forall_mem_cons.mpr ⟨.inr ⟨_, hlx, newsAt N5 0 rfl⟩, List.forall_mem_cons.mpr ⟨.inr ⟨_, hdx, newsAt N5 1 rfl⟩, List.forall_mem_cons.mpr ⟨.inl (.head _), List.forall_mem_nil _⟩⟩⟩
end
section
theorem start7 : True := by
  w_top off
  trivial
noncomputable def numL (l : List Int) : Int := l.foldl (fun n c => n * 16 + c - 65) 0
noncomputable def numF (x : Str) : Int := if (Txt.slice x none (some 1) == Str.ofString "A") = true then -1 else numL (KStt.codes x)
theorem number_spec {w : World} {loose : List Str} {mean : ExcName → Option Value} {mg mb : Str → Option Value} {x : Str} {t : Tok} {h : Heap} (hx : x.length ≤ 10) :
    Spec w loose mean mg mb (.call (.ref 99) ⟨[.str x t], []⟩) 1 20 [] [] h (fun v _ => ∃ t, v = .int (numF x) t) := by
  unfold Spec
  k_fill
  intro dp un gd base outer h₀ s R hs B X T k hmf hroom hunits hret
  subst hs
  (refine' enter (news := ?news) ?k1 ?k2 ?k3 ?k4 ?kn ?kf ?k6 ?k7 ?k8 ?k9 ?kB ?_ ?c5 ?c2 ?c3 ?c4; (case k1 => assumption); (case k2 => assumption); (case k3 => assumption); (case k4 => assumption); (case k6 => k_is); (case k7 => k_is); (case k8 => (first | exact offU1 (by assumption) | (dsimp only [around]; omega))); (case k9 => exact BindsTo.of_eq rfl); (case c5 => decide); (case kB => exact locs rfl); (case c2 => exact rfl); (case c3 => exact rfl); (case c4 => exact rfl))
  case news => exact []
  case kn => exact (List.forall_mem_nil _)
  case kf => exact (List.forall_mem_nil _)
  intro g L' h₁ F N B' X' T' hl hK hL
  clear B X T
  (try dsimp only)
  show wpAny _ _ _ _ _ _
  k_fold
  k_with "state" => (simp [numL, *])
  k_with "pyIter str" => k_state (fun pre n => n = numL pre) "number"
  (repeat' (first | (k_unfold; (try dsimp only)) | (dsimp only; k_unfold; try dsimp only) | (k_end; wrow_close) | walk1 | (dsimp only; walk1) | (leave1; (try dsimp only)) | fail "no step"))
  · (rename Fr _ _ _ _ => F5)
    have e : numF x = -1 := by unfold numF; rw [if_pos (by assumption)]
    exact hret _ _ _ (hK _ (Fr.keep F5)) ⟨_, congrArg (fun z => Value.int z _) e.symm⟩
  · have e : numF x = numL (KStt.codes x) := by unfold numF; rw [if_neg (ne_true_of_eq_false (by assumption))]
    exact hret _ _ _ (hK _ (Fr.keep kFr)) ⟨_, congrArg (fun z => Value.int z _) (kInv.trans e.symm)⟩
end
section
variable {σ : Type} {prog : Program} {w : World} {A : Around} {E : Value → Shared → Prop} {s : Shared} {env : Env} {test : PySem.Expr} {body orelse : List Stmt} {Q : Flow → Shared → Prop}
noncomputable def LoopNext (I : σ → Heap → Prop) (meas : σ → Nat) (c : σ) (s s₃ : Shared) : Prop := ∃ c' h' tk', meas c' < meas c ∧ s₃ = { s with heap := h', toks := tk' } ∧ I c' h'
noncomputable def LoopPost (I : σ → Heap → Prop) (meas : σ → Nat) (c : σ) (s : Shared) (Q : Flow → Shared → Prop) (f : Flow) (s₃ : Shared) : Prop :=
  match f with
  | .next => LoopNext I meas c s s₃
  | .cont => LoopNext I meas c s s₃
  | .brk => Q .next s₃
  | .ret v => Q (.ret v) s₃
theorem LoopPost.mk {I : σ → Heap → Prop} {meas : σ → Nat} {c : σ} {s : Shared} {h' : Heap} {tk' : Nat} (c' : σ) (hm : meas c' < meas c) (hi : I c' h') : LoopPost I meas c s Q .next { s with heap := h', toks := tk' } := ⟨c', h', tk', hm, rfl, hi⟩
theorem while_ind (I : σ → Heap → Prop) (meas : σ → Nat) (hE : PassesOwn (model prog w) A env E)
    (turn : ∀ c h tk, I c h → wpAny (model prog w) A (isTrue test env (eval test env)) (fun b s₂ => WhlIf b (wpAny (model prog w) A (execs body env) (LoopPost I meas c s Q) E s₂) (wpAny (model prog w) A (execs orelse env) Q E s₂)) E { s with heap := h, toks := tk }) :
    ∀ (j : Nat) (c : σ) (h : Heap) (tk : Nat), meas c ≤ j → I c h → WhlRest prog w A E env test body orelse Q (j + 1) { s with heap := h, toks := tk } := by
  intro j
  induction j with
  | zero =>
    intro c h tk hm hi
    refine whl_turn hE (wpAny_mono (turn c h tk hi) (fun b s₂ hb => ?_) fun _ _ e => e)
    cases b with
    | false => exact WhlIf.no rfl (by unfold WhlIf at hb; rwa [if_neg Bool.false_ne_true] at hb)
    | true =>
      unfold WhlIf at hb; rw [if_pos rfl] at hb
      refine WhlIf.yes rfl (wpAny_mono hb (fun f s₃ hf => ?_) fun _ _ e => e)
      cases f with
      | next => obtain ⟨c', h', tk', hlt, -⟩ := hf; omega
      | cont => obtain ⟨c', h', tk', hlt, -⟩ := hf; omega
      | brk => exact hf
      | ret v => exact hf
  | succ j ih =>
    intro c h tk hm hi
    refine whl_turn hE (wpAny_mono (turn c h tk hi) (fun b s₂ hb => ?_) fun _ _ e => e)
    cases b with
    | false => exact WhlIf.no rfl (by unfold WhlIf at hb; rwa [if_neg Bool.false_ne_true] at hb)
    | true =>
      unfold WhlIf at hb; rw [if_pos rfl] at hb
      refine WhlIf.yes rfl (wpAny_mono hb (fun f s₃ hf => ?_) fun _ _ e => e)
      cases f with
      | next => obtain ⟨c', h', tk', hlt, rfl, hi'⟩ := hf; exact ih c' h' tk' (by omega) hi'
      | cont => obtain ⟨c', h', tk', hlt, rfl, hi'⟩ := hf; exact ih c' h' tk' (by omega) hi'
      | brk => exact hf
      | ret v => exact hf
theorem while_run (I : σ → Heap → Prop) (meas : σ → Nat) (c : σ) {pos : Pos} (hE : PassesOwn (model prog w) A env E)
    (turn : ∀ c h tk, I c h → wpAny (model prog w) A (isTrue test env (eval test env)) (fun b s₂ => WhlIf b (wpAny (model prog w) A (execs body env) (LoopPost I meas c s Q) E s₂) (wpAny (model prog w) A (execs orelse env) Q E s₂)) E { s with heap := h, toks := tk })
    (hi : I c s.heap) : wpAny (model prog w) A (exec (.While test body orelse pos) env) Q E s :=
  whl_start _ (while_ind I meas hE turn (meas c) c s.heap s.toks (Nat.le_refl _) hi)
end
inductive WordsAre : List Value → List Int → Prop
  | nil : WordsAre [] []
  | cons (k : Int) (t : Tok) {vs ns} : WordsAre vs ns → WordsAre (.str (wordF k) t :: vs) (k :: ns)
theorem WordsAre.length {vs ns} (h : WordsAre vs ns) : vs.length = ns.length := by
  induction h with
  | nil => rfl
  | cons _ _ _ ih => simp [ih]
theorem WordsAre.snoc {vs ns} (h : WordsAre vs ns) (k : Int) (t : Tok) : WordsAre (vs ++ [.str (wordF k) t]) (ns ++ [k]) := by
  induction h with
  | nil => exact .cons _ _ .nil
  | cons _ _ _ ih => exact .cons _ _ ih
theorem wordF_length (k : Int) : (wordF k).length ≤ 3 := by
  unfold wordF; rw [textOf_length, List.length_map]; exact apL_len k
theorem codes_textOf (l : List Nat) : KStt.codes (textOf l) = l.map fun (c : Nat) => (c : Int) := rfl
theorem sl1 (a : Nat) : Txt.slice (textOf [a]) none (some 1) = textOf [a] := rfl
theorem sl2 (a b : Nat) : Txt.slice (textOf [a, b]) none (some 1) = textOf [a] := rfl
theorem sl3 (a b c : Nat) : Txt.slice (textOf [a, b, c]) none (some 1) = textOf [a] := rfl
theorem not_A {a : Nat} (h : a ≠ 65) : (textOf [a] == Str.ofString "A") = false := by
  rw [beq_eq_false_iff_ne]; intro e
  have := congrArg (fun s : Str => s.cps.toList) e
  rw [show Str.ofString "A" = textOf [65] by decide +kernel] at this
  simp [textOf] at this
  exact h this
theorem numF_wordF {k : Int} (h0 : 0 ≤ k) (h1 : k < 4096) : numF (wordF k) = k := by
  unfold numF wordF apL
  split
  · subst_vars; rw [if_neg (by decide +kernel)]; rfl
  · split
    · simp only [List.map_cons, List.map_nil]
      rw [sl1, not_A (by omega), if_neg Bool.false_ne_true, codes_textOf]
      simp only [numL, List.map_cons, List.map_nil, List.foldl_cons, List.foldl_nil]; omega
    · split
      · simp only [List.map_cons, List.map_nil]
        rw [sl2, not_A (by omega), if_neg Bool.false_ne_true, codes_textOf]
        simp only [numL, List.map_cons, List.map_nil, List.foldl_cons, List.foldl_nil]; omega
      · simp only [List.map_cons, List.map_nil]
        rw [sl3, not_A (by omega), if_neg Bool.false_ne_true, codes_textOf]
        simp only [numL, List.map_cons, List.map_nil, List.foldl_cons, List.foldl_nil]; omega
theorem Spec.mono {w : World} {loose : List Str} {mean : ExcName → Option Value} {mg mb : Str → Option Value} {c : Code} {d u : Nat} {muts own : List Addr} {h : Heap} {Post Post' : Value → Heap → Prop}
    (S : Spec w loose mean mg mb c d u muts own h Post) (hp : ∀ v h', Post v h' → Post' v h') : Spec w loose mean mg mb c d u muts own h Post' := by
  unfold Spec at S ⊢
  intro dp un gd base outer h₀ s R hs B X T k hmf hroom hunits hret
  exact S dp un gd base outer h₀ s R hs B X T k hmf hroom hunits fun v h' tk' kk p => hret v h' tk' kk (hp v h' p)
theorem number_word {w : World} {loose : List Str} {mean : ExcName → Option Value} {mg mb : Str → Option Value} {k : Int} {t : Tok} {h : Heap} (h0 : 0 ≤ k) (h1 : k < 4096) :
    Spec w loose mean mg mb (.call (.ref 99) ⟨[.str (wordF k) t], []⟩) 1 20 [] [] h (fun v _ => ∃ t, v = .int k t) :=
  (number_spec (Nat.le_trans (wordF_length k) (by decide))).mono fun v h' ⟨t, e⟩ => ⟨t, by rw [e, numF_wordF h0 h1]⟩
theorem frSet1 {g h : Heap} {L : Addr} {m : Str → Option Value} {a : Str} {u v : Option Value} (F : Fr g L h (fun y => if y = a then u else if y = a then v else m y)) : Fr g L h (fun y => if y = a then u else m y) := by
  have e : (fun y => if y = a then u else if y = a then v else m y) = (fun y => if y = a then u else m y) := by
    funext y
    by_cases h1 : y = a
    · simp only [if_pos h1]
    · simp only [if_neg h1]
  rw [← e]; exact F
theorem ints_snoc {vs : List Value} {ns : List Int} (h : IntsAre vs ns) (k : Int) (t : Tok) : IntsAre (vs ++ [.int k t]) (ns ++ [k]) := by
  induction h with
  | nil => exact .cons _ _ .nil
  | cons _ _ _ ih => exact .cons _ _ ih
noncomputable def cstep (l : List Nat) (s : Array Nat × Nat) (i : Nat) : Array Nat × Nat :=
  if (decide (s.1.size < l.length + 1) && decide (s.2 ≤ i) && decide (i + 1 ≤ l.length) && l[i]? == some 10) = true then (s.1.push i, i + 1) else s
theorem cstep_run (l : List Nat) : ∀ k, k ≤ l.length → ((List.range' 0 k).foldl (cstep l) (#[], 0)).1.size = (l.take k).count 10 ∧ ((List.range' 0 k).foldl (cstep l) (#[], 0)).2 ≤ k
  | 0, _ => ⟨by simp, by simp⟩
  | k + 1, h => by
    obtain ⟨h1, h2⟩ := cstep_run l k (by omega)
    rw [List.range'_concat, List.foldl_append]
    simp only [List.foldl_cons, List.foldl_nil, Nat.zero_add, Nat.one_mul]
    have hk : k < l.length := by omega
    have hc : (l.take k).count 10 ≤ k := Nat.le_trans List.count_le_length (by rw [List.length_take]; omega)
    generalize List.foldl (cstep l) (#[], 0) (List.range' 0 k) = s at h1 h2
    rw [List.take_add_one, List.count_append, List.getElem?_eq_getElem hk]
    unfold cstep
    rw [List.getElem?_eq_getElem hk]
    by_cases q : l[k] = 10
    · rw [if_pos (by simp [q]; omega)]
      simp [q, h1]
    · rw [if_neg (by simp [q])]
      simp [q, h1]
      omega
theorem subAt_nl (l : List Nat) (i : Nat) (hi : i + 1 ≤ l.length) : PySem.Builtin.Str.subAt (textOf l) (Str.ofString "\n") i = (l[i]? == some 10) := by
  unfold PySem.Builtin.Str.subAt
  have e1 : (Str.ofString "\n").cps = #[10] := by decide +kernel
  have e2 : (Str.ofString "\n").length = 1 := by decide +kernel
  rw [e1, e2]
  have hk : i < l.length := by omega
  have e3 : (textOf l).cps.extract i (i + 1) = #[l[i]] := by
    unfold textOf
    refine Array.ext ?_ ?_
    · simp; omega
    · intro j h1 h2
      have : j = 0 := by simp at h2; exact h2
      subst this
      simp
  rw [e3, List.getElem?_eq_getElem hk]
  by_cases q : l[i] = 10
  · rw [q]; rfl
  · rw [beq_eq_false_iff_ne.mpr (by simpa using q), beq_eq_false_iff_ne.mpr (by simpa using q)]
theorem count_nl (l : List Nat) : Txt.count (textOf l) (Str.ofString "\n") = ((l.count 10 : Nat) : Int) := by
  unfold Txt.count PySem.Builtin.Str.occurrences
  have e2 : (Str.ofString "\n").length = 1 := by decide +kernel
  have e3 : (textOf l).length = l.length := by simp [textOf, PySem.Str.length]
  simp only [Std.Legacy.Range.forIn_eq_forIn_range', e2, e3]
  have ef : (fun (i : Nat) (__s : Array Nat × Nat) => (if (decide (__s.fst.size < l.length + 1) && decide (__s.snd ≤ i) && decide (i + 1 ≤ l.length) && PySem.Builtin.Str.subAt (textOf l) (Str.ofString "\n") i) = true then pure (ForInStep.yield (__s.fst.push i, i + 1)) else pure (ForInStep.yield (__s.fst, __s.snd)) : Id (ForInStep (Array Nat × Nat)))) = fun i s => pure (ForInStep.yield (cstep l s i)) := by
    funext i s
    unfold cstep
    by_cases hi : i + 1 ≤ l.length
    · rw [subAt_nl l i hi]; split <;> rfl
    · simp [hi]
  rw [ef, List.forIn_pure_yield_eq_foldl]
  have es : ([:l.length + 1] : Std.Legacy.Range).size = l.length + 1 := by simp [Std.Legacy.Range.size]
  rw [es]
  show (((List.foldl (cstep l) (#[], 0) (List.range' 0 (l.length + 1))).1.toList.length : Nat) : Int) = _
  obtain ⟨h1, h2⟩ := cstep_run l l.length (Nat.le_refl _)
  rw [List.take_length] at h1
  rw [List.range'_concat, List.foldl_append]
  simp only [List.foldl_cons, List.foldl_nil, Nat.zero_add, Nat.one_mul]
  rw [← h1]
  generalize List.foldl (cstep l) (#[], 0) (List.range' 0 l.length) = s
  unfold cstep
  rw [if_neg (by simp)]
  simp
section
local macro_rules | `(tactic| walk_at "call builtin:iter") => `(tactic| (k_here; k_dflt (refine' iter2_K ?F ?N ?m ?_; (case F => k_asm); (case N => k_asm); (case m => k_mem); k_whole); intro a' h' F' N' l1; (try k_lt l1); (try k_sweep)))
local macro_rules | `(tactic| walk_at "pyIter ref") => `(tactic| (k_here; k_dflt (refine' pyIter_ciK ?N ?m ?_; (case N => k_asm); (case m => k_mem); k_whole)))
local macro_rules | `(tactic| walk_at "exec For Name Name cons nil") => `(tactic| (k_here; (with_unfolding_all refine' wpAny_For ?_ ?hs); (case hs => intro _; with_unfolding_all rfl)))
section
theorem start8 : True := by
  w_top off
  trivial
theorem newsRot2 {h₀ h : Heap} {L : Addr} {a b : Addr × Obj} {l : List (Addr × Obj)} (N : News h₀ L h (a :: b :: l)) : News h₀ L h (l ++ [a, b]) := fun p hp => N p (by
  rcases List.mem_append.mp hp with hp | hp
  · exact .tail _ (.tail _ hp)
  · rcases List.mem_cons.mp hp with rfl | hp
    · exact .head _
    · rcases List.mem_cons.mp hp with rfl | hp
      · exact .tail _ (.head _)
      · exact nomatch hp)
section
variable {c d b : Nat} {ln p K P L : Int} {l rest cs acc rem bl : List Nat} {its : List (Bool × Nat)} {txt : Str}
theorem ln_ok (h : 0 ≤ ln) : 0 ≤ lnNext (chS c) ln := by rw [lnNext_ch]; split <;> omega
theorem ln_next (h : ln + ((d :: l).length : Int) ≤ 900) : lnNext (chS c) ln + (l.length : Int) ≤ 900 := by
  rw [List.length_cons] at h; rw [lnNext_ch]; split <;> omega
theorem p_next (h : p + ((d :: l).length : Int) ≤ 900) : p + 1 + (l.length : Int) ≤ 900 := by rw [List.length_cons] at h; omega
theorem le_k (h : p + (l.length : Int) ≤ 900) : p ≤ 1000 := by omega
theorem le_k1 (h : p + (l.length : Int) ≤ 900) : p + 1 ≤ 1000 := by omega
theorem ln_k1 (h : ln + (l.length : Int) ≤ 900) : lnNext (chS c) ln ≤ 1000 := by rw [lnNext_ch]; split <;> omega
theorem p_eq : p + 1 + (l.length : Int) = p + ((d :: l).length : Int) := by rw [List.length_cons]; omega
theorem lns_to (hc : c = d) : lns (lnNext (chS c) ln) l = lns ln (d :: l) := by rw [← hc]; exact lns_cons _ _ _
theorem ln_end (hc : c = d) (h1 : lns ln [d] = K) (h2 : L = K) : lnNext (chS c) ln = L := by rw [h2, ← h1, ← hc]; exact lns_last _ _
theorem p_end (h1 : p + (([d] : List Nat).length : Int) = K) (h2 : P = K) : p + 1 = P + 0 := by rw [List.length_singleton] at h1; omega
theorem ln_done (h1 : lns ln [] = K) (h2 : L = K) : lnNext Str.empty ln = L := by rw [lnNext_empty, h2, ← h1]; simp [lns]
theorem p_done (h1 : p + (([] : List Nat).length : Int) = K) (h2 : P = K) : p + 1 = P + 1 := by rw [List.length_nil] at h1; omega
theorem acc_len (h : acc ++ rem = cs) (h0 : 0 ≤ p) (h1 : p + ((bl ++ (34 :: (cs ++ [34]))).length : Int) ≤ 900) : acc.length ≤ 900 := by
  subst h
  simp only [List.length_append, List.length_cons, List.length_nil] at h1; omega
theorem len1 (h : acc.length + (its.length + 1) ≤ 900) : (acc ++ [d]).length + its.length ≤ 900 := by simp only [List.length_append, List.length_cons, List.length_nil]; omega
theorem len0 (h : its.length ≤ 898) : ([d] : List Nat).length + its.length ≤ 900 := by simp only [List.length_cons, List.length_nil]; omega
theorem rem_c (hc : c = d) (h : Rem txt p (d :: l)) : Rem txt p (c :: l) := by rw [hc]; exact h
theorem rem_q (hc : c = 34) (h : Rem txt p ([] ++ ((Piece.quoted cs).enc ++ rest))) : Rem txt p (c :: (cs ++ (34 :: rest))) := by rw [hc]; simpa [Piece.enc] using h
theorem rem_f (h : Rem txt p ([] ++ ((d :: (l ++ [b])) ++ rest))) : Rem txt p (d :: (l ++ (b :: rest))) := by simpa using h
theorem rem_t {e : Nat} (hc : c = e) (h : Rem txt p ([] ++ ((e :: d :: (l ++ [b])) ++ rest))) : Rem txt p (c :: d :: (l ++ (b :: rest))) := by rw [hc]; simpa using h
theorem enc_f {ie : Bool} (h : ie = false) : (Piece.bare ((ie, d) :: its) b).enc = d :: (its.flatMap encIt ++ [b]) := by rw [h]; rfl
theorem enc_t {ie : Bool} (h : ie = true) : (Piece.bare ((ie, d) :: its) b).enc = 92 :: d :: (its.flatMap encIt ++ [b]) := by rw [h]; rfl
theorem two_ways (ie : Bool) : ie = false ∨ ie = true := by cases ie; exact .inl rfl; exact .inr rfl
theorem ch_q (h : d ≠ 34) : (chS d == Str.ofString "\"") = false := by rw [ch_quote]; simp [h]
theorem ch_b (h : d ≠ 92) : (chS d == Str.ofString "\\") = false := by rw [ch_back]; simp [h]
theorem its_len {ie : Bool} {d : Nat} (h0 : 0 ≤ ln) (h : ln + ((bl ++ (Piece.bare ((ie, d) :: its) b).enc).length : Int) ≤ 900) : its.length ≤ 898 := by
  have h0 := flat_len its
  have h5 : 1 ≤ (encIt (ie, d)).length := by cases ie <;> simp [encIt]
  simp only [Piece.enc, List.flatMap_cons, List.length_append, List.length_cons, List.length_nil] at h
  omega
theorem acc1 (h : acc ++ d :: rem = cs) : (acc ++ [d]) ++ rem = cs := by rw [← h]; simp
end
structure IS (α : Type) where
  (rem : List α) (acc : List Nat) (ln p : Int) (tl tp : Tok) (n : Nat)
structure OS where
  (bl : List Nat) (ln p : Int) (tl tp : Tok) (n : Nat)
structure BareK (w : World) (A : LA) (S : SA) (opb : Obj) (txt : Str) (its : List (Bool × Nat)) (b : Nat) (rest : List Nat) (K1 K2 : Int) (g : Heap) (L it q : Addr) (te : Tok) (M : Str → Option Value) (tok : Str) (G : Heap → Nat → Prop) : Prop where
  get : ∀ (ln p : Int) (tl tp : Tok) (n : Nat) (u : Option Value) (tt : Tok) (h : Heap) (tk : Nat), 0 ≤ ln → ln + ((its.flatMap encIt ++ [b]).length : Int) ≤ 900 → p + ((its.flatMap encIt ++ [b]).length : Int) ≤ 900 → Rem txt p (its.flatMap encIt ++ (b :: rest)) →
    lns ln (its.flatMap encIt ++ [b]) = K1 → p + ((its.flatMap encIt ++ [b]).length : Int) = K2 → Fr g L h (tokMap M u tok tt) → News g L h (lexLed w A S opb ln p tl tp n ++ itLed A it q te) → G h tk
theorem later {C P : Prop} (k : P → C) (h : P) : C := k h
section
variable {w : World} {loose : List Str} {mean : ExcName → Option Value} {mg mb : Str → Option Value} {A : LA} {S : SA} {txt : Str} {it q : Nat} {te : Tok} {opb : Obj}
  {A' A₀ : Around} {base g : Heap} {outer : List Env} {env : Env} {s : Shared} {Q : Option Value → Shared → Prop} {E : Value → Shared → Prop} {L : Addr} {m : Str → Option Value} {ln p : Int} {tl tp : Tok} {n : Nat} {c : Nat}
theorem lex_ch (SO : StrmO S) (RO : ReadOK w loose mean mg mb S txt) (ND : LexN A S) (hq : A.pb < q) (hi : q < it)
    (B : Below A₀ base outer g) (F : Fr g L s.heap m) (X : (frg.heap_1 w.params).In g) (N : News g L s.heap (lexLed w A S opb ln p tl tp n ++ itLed A it q te)) (T : Top topProg loose mean mg mb g) (hA : A'.frames = some (env :: outer)) (hf : env.frame = some L) (hke : env.scope.kind = .function) (hh : A'.handled = none)
    (hd : A'.depth + 3 < recursionLimit) (hu : A'.units + 70 < cLine)
    (hp0 : 0 ≤ p) (hp1 : p ≤ 1000) (hl0 : 0 ≤ ln) (hl1 : ln ≤ 1000) (hx : txt.length ≤ 1000) (hc : Txt.slice txt (some p) (some (p + 1)) = chS c)
    (hno : ∀ tc h' tk' tl' tp' n', Fr g L h' m → News g L h' (lexLed w A S opb (lnNext (chS c) ln) (p + 1) tl' tp' n' ++ itLed A it q te) → Q (some (.str (chS c) tc)) { s with heap := h', toks := tk' }) :
    wpAny (model PySem.Challenge.rw_ta0022_01.row.prog w) A' (pyNext (.ref it)) Q E s :=
  lex_next SO RO ND hq hi B F X N T hA hf hke hh hd hu hp0 hp1 hl0 hl1 hx hc (fun _ => hno) (fun e => absurd ((chS_ne c).symm.trans e) Bool.false_ne_true)
end
theorem get_token_stream {w : World} {loose : List Str} {mean : ExcName → Option Value} {mg mb : Str → Option Value} {A : LA} {S : SA} {h : Heap} {txt : Str} {ln p : Int} {nb : Nat} (SO : StrmO S) (RO : ReadOK w loose mean mg mb S txt) (ND : LexN A S) (LX : LexAt w A S h ln p)
    (hpb : h.get? A.pb = some (listOf #[] nb)) (hx : txt.length ≤ 1000) (bl : List Nat) (pc : Piece) (rest : List Nat) (hbl : ∀ b ∈ bl, isWs b = true) (hpc : pc.ok rest) (hR : Rem txt p (bl ++ (pc.enc ++ rest)))
    (hl0 : 0 ≤ ln) (hl1 : ln + (bl ++ pc.enc).length ≤ 900) (hp1 : p + (bl ++ pc.enc).length ≤ 900) :
    Spec w loose mean mg mb (.call (.ref 42) ⟨[.ref A.lx], []⟩) 9 200 [A.dx, S.pl] [A.lx, A.dx, S.st, S.sd, S.rd, S.c1, S.c2, S.pl, S.cc, A.pb] h
      (fun v h' => (∃ t, v = .str (textOf pc.val) t) ∧ LexAt w A S h' (lns ln (bl ++ pc.enc)) (p + (bl ++ pc.enc).length + pc.over)) := by
  unfold Spec
  k_fill
  intro dp un gd base outer h₀ s R hs B X T k hmf hroom hunits hret
  subst hs
  have LX0 := LX
  have hpos := hR.1
  obtain ⟨hlx, ⟨tl, hdx⟩, ⟨tp, n, hpl⟩, ⟨hst, hsd, hrd, h1, h2, hcc⟩⟩ := LX
  (refine' enter (news := ?news) ?k1 ?k2 ?k3 ?k4 ?kn ?kf ?k6 ?k7 ?k8 ?k9 ?kB ?_ ?c5 ?c2 ?c3 ?c4; (case k1 => assumption); (case k2 => assumption); (case k3 => assumption); (case k4 => assumption); (case k6 => k_is); (case k7 => k_is); (case k8 => (first | exact offU1 (by assumption) | (dsimp only [around]; omega))); (case k9 => exact BindsTo.of_eq rfl); (case c5 => decide); (case kB => exact locs rfl); (case c2 => exact rfl); (case c3 => exact rfl); (case c4 => exact rfl))
  case news => exact lexLed w A S (listOf #[] nb) ln p tl tp n
  case kn => simp only [List.forall_mem_cons]; exact ⟨hlx, hdx, hst, hsd, hrd, h1, h2, hpl, hcc, hpb, List.forall_mem_nil _⟩
  case kf => exact hmf
  intro g L' h₁ F N B' X' T' hl hK hL
  k_lt hl
  clear B X T
  have ND' := ND
  unfold LexN SN at ND'
  unfold lexLed lexEs at N
  (try dsimp only)
  show wpAny _ _ _ _ _ _
  k_fold
  (repeat' (first | (k_unfold; (try dsimp only)) | (dsimp only; k_unfold; try dsimp only) | ((fail_if_success (goal_lacks inplaceOp)); ((with_reducible show wpAny _ _ (inplaceOp Operator.Add (Value.str _ _) (Value.str (chS _) _)) _ _ _); (refine' iadd_ch ?ia ?ib ?_; (case ia => first | with_reducible rfl | exact textOf_nil.symm); (case ib => first | omega | (simp only [List.length_append, List.length_cons, List.length_nil]; omega)); k_whole); intro t' k')) | (k_end; wrow_close) | walk1 | (dsimp only; walk1) | (leave1; (try dsimp only)) | fail "no step"))
  (rename Fr _ _ _ _ => F2); (rename News _ _ _ _ => N2)
  have N3 := newsRot2 N2
  obtain ⟨K1, hK1⟩ : ∃ k : Int, lns ln (bl ++ pc.enc) = k := ⟨_, rfl⟩
  obtain ⟨K2, hK2⟩ : ∃ k : Int, p + (bl ++ pc.enc).length = k := ⟨_, rfl⟩
  refine' tok_loop (σ := OS) (fun c => lexLed w A S (listOf #[] nb) c.ln c.p c.tl c.tp c.n ++ itLed A _ _ _) (fun c => Str.ofString "")
    (fun c => (∀ b ∈ c.bl, isWs b = true) ∧ Rem txt c.p (c.bl ++ (pc.enc ++ rest)) ∧ 0 ≤ c.ln ∧ c.ln + (c.bl ++ pc.enc).length ≤ 900 ∧ c.p + (c.bl ++ pc.enc).length ≤ 900 ∧ lns c.ln (c.bl ++ pc.enc) = K1 ∧ c.p + (c.bl ++ pc.enc).length = K2)
    (fun c => c.bl.length) ⟨bl, ln, p, tl, tp, n⟩ ?ht F2 N3 ⟨hbl, hR, hl0, hl1, hp1, hK1, hK2⟩ ?turn
  case ht => exact rfl
  clear F2 N2 N3
  rintro ⟨bl₁, ln₁, p₁, tl₁, tp₁, n₁⟩ u tt h tk hI F N
  have hbl₁ := hI.1
  have hR₁ := hI.2.1
  have hl₀ := hI.2.2.1
  have hl₁ := hI.2.2.2.1
  have hp₁ := hI.2.2.2.2.1
  have hln := hI.2.2.2.2.2.1
  have hpp := hI.2.2.2.2.2.2
  clear hI
  dsimp only at hbl₁ hR₁ hl₀ hl₁ hp₁ hln hpp F N
  cases bl₁ with
  | cons b bl₂ =>
    refine lex_ch SO RO ND (by omega) (by omega) B' F X' N T' rfl rfl rfl rfl (by first | exact offU (by assumption) (by decide) | (simp only [depth_deeper]; omega)) (by first | exact offU (by assumption) (by decide) | (simp only [units_deeper]; omega)) hR₁.1 (le_k hp₁) hl₀ (le_k hl₁) hx hR₁.slice ?_
    · intro tc h' tk' tl' tp' n' F' N'
      clear F N
      replace F' : Fr g L' _ _ := F'
      replace N' : News g L' _ _ := N'
      unfold lexLed lexEs itLed at N'
      simp only [List.cons_append, List.nil_append] at N'
      dsimp only
      have hch := ch_facts (a := false) (hbl₁ b (.head _)) (ws_not (hbl₁ b (.head _))).1 (ws_not (hbl₁ b (.head _))).2; have hw := hch.1; have hq := hch.2.1; have he := hch.2.2; clear hch
      (repeat' (first | (k_unfold; (try dsimp only)) | (dsimp only; k_unfold; try dsimp only) | ((fail_if_success (goal_lacks inplaceOp)); ((with_reducible show wpAny _ _ (inplaceOp Operator.Add (Value.str _ _) (Value.str (chS _) _)) _ _ _); (refine' iadd_ch ?ia ?ib ?_; (case ia => first | with_reducible rfl | exact textOf_nil.symm); (case ib => first | omega | (simp only [List.length_append, List.length_cons, List.length_nil]; omega)); k_whole); intro t' k')) | (k_end; wrow_close) | walk1 | (dsimp only; walk1) | (leave1; (try dsimp only)) | fail "no step"))
      dsimp only
      (rename Fr _ _ _ _ => F5); (rename News _ _ _ _ => N5)
      refine ⟨⟨bl₂, lnNext (chS b) ln₁, p₁ + 1, tl', tp', n'⟩, _, _, _, _, Nat.lt_succ_self _, ⟨fun x hx => hbl₁ x (.tail _ hx), hR₁.next, ?_, ?_, ?_, ?_, ?_⟩, rfl, frCh F5, N5⟩
      · exact ln_ok hl₀
      · exact ln_next hl₁
      · exact p_next hp₁
      · exact (lns_to rfl).trans hln
      · exact p_eq.trans hpp
  | nil =>
    cases pc with
    | done =>
      have hr : rest = [] := hpc
      subst hr
      refine lex_next SO RO ND (by omega) (by omega) B' F X' N T' rfl rfl rfl rfl (by first | exact offU (by assumption) (by decide) | (simp only [depth_deeper]; omega)) (by first | exact offU (by assumption) (by decide) | (simp only [units_deeper]; omega)) hR₁.1 (le_k hp₁) hl₀ (le_k hl₁) hx hR₁.slice_nil ?_ ?_
      · intro e; cases (show (Str.empty == Str.empty) = true by decide).symm.trans e
      · intro _ h' tk' tl' tp' n' F' N'
        clear F N
        replace F' : Fr g L' _ _ := F'
        replace N' : News g L' _ _ := N'
        unfold lexLed lexEs at N'
        dsimp only
        (repeat' (first | (k_unfold; (try dsimp only)) | (dsimp only; k_unfold; try dsimp only) | ((fail_if_success (goal_lacks inplaceOp)); ((with_reducible show wpAny _ _ (inplaceOp Operator.Add (Value.str _ _) (Value.str (chS _) _)) _ _ _); (refine' iadd_ch ?ia ?ib ?_; (case ia => first | with_reducible rfl | exact textOf_nil.symm); (case ib => first | omega | (simp only [List.length_append, List.length_cons, List.length_nil]; omega)); k_whole); intro t' k')) | (k_end; wrow_close) | walk1 | (dsimp only; walk1) | (leave1; (try dsimp only)) | fail "no step"))
        (rename Fr _ _ _ _ => F5); (rename News _ _ _ _ => N5)
        refine hret _ _ _ (lexKeeps (more := []) LX0 hpb N5 (hK _ (Fr.keep F5))) ⟨⟨_, congrArg (fun z => Value.str z _) textOf_nil.symm⟩, LexAt.cast (lexAt_of (more := []) N5) ?_ ?_⟩
        · exact ln_done hln hK1
        · exact p_done hpp hK2
    | quoted cs =>
      obtain ⟨c, hc⟩ : ∃ c : Nat, c = 34 := ⟨_, rfl⟩
      have R0 : Rem txt p₁ (c :: (cs ++ (34 :: rest))) := rem_q hc hR₁
      refine lex_ch SO RO ND (by omega) (by omega) B' F X' N T' rfl rfl rfl rfl (by first | exact offU (by assumption) (by decide) | (simp only [depth_deeper]; omega)) (by first | exact offU (by assumption) (by decide) | (simp only [units_deeper]; omega)) R0.1 (le_k hp₁) hl₀ (le_k hl₁) hx R0.slice ?_
      · intro tc h' tk' tl' tp' n' F' N'
        clear F N
        replace F' : Fr g L' _ _ := F'
        replace N' : News g L' _ _ := N'
        unfold lexLed lexEs itLed at N'
        simp only [List.cons_append, List.nil_append] at N'
        dsimp only
        have hch := ch_facts (c := c) (a := true) (b := true) (d := false) (by rw [hc]; rfl) (by rw [hc]; rfl) (by rw [hc]; rfl); have hw := hch.1; have hq := hch.2.1; have he := hch.2.2; clear hch
        (repeat' (first | (k_unfold; (try dsimp only)) | (dsimp only; k_unfold; try dsimp only) | ((fail_if_success (goal_lacks inplaceOp)); ((with_reducible show wpAny _ _ (inplaceOp Operator.Add (Value.str _ _) (Value.str (chS _) _)) _ _ _); (refine' iadd_ch ?ia ?ib ?_; (case ia => first | with_reducible rfl | exact textOf_nil.symm); (case ib => first | omega | (simp only [List.length_append, List.length_cons, List.length_nil]; omega)); k_whole); intro t' k')) | (k_end; wrow_close) | walk1 | (dsimp only; walk1) | (leave1; (try dsimp only)) | fail "no step"))
        clear hw hq he
        (rename Fr _ _ _ _ => F2); (rename News _ _ _ _ => N2)
        refine' tok_loop (σ := IS Nat) (fun c => lexLed w A S (listOf #[] nb) c.ln c.p c.tl c.tp c.n ++ itLed A _ _ _) (fun c => textOf c.acc)
          (fun c => (∀ x ∈ c.rem, x ≠ 34 ∧ x ≠ 92) ∧ Rem txt c.p (c.rem ++ (34 :: rest)) ∧ 0 ≤ c.ln ∧ c.ln + (c.rem ++ [34]).length ≤ 900 ∧ c.p + (c.rem ++ [34]).length ≤ 900 ∧ lns c.ln (c.rem ++ [34]) = K1 ∧ c.p + (c.rem ++ [34]).length = K2 ∧ c.acc ++ c.rem = cs)
          (fun c => c.rem.length) ⟨cs, [], lnNext (chS c) ln₁, p₁ + 1, tl', tp', n'⟩ ?ht2 F2 N2 ?iv2 ?turn2
        case ht2 => exact congrArg (fun z => some (Value.str z _)) textOf_nil.symm
        case iv2 =>
          refine ⟨hpc, R0.next, ?_, ?_, ?_, ?_, ?_, rfl⟩
          · exact ln_ok hl₀
          · exact ln_next hl₁
          · exact p_next hp₁
          · exact (lns_to hc).trans hln
          · exact p_eq.trans hpp
        case turn2 =>
          clear F2 N2
          rintro ⟨rem₂, acc₂, ln₂, p₂, tl₂, tp₂, n₂⟩ u₂ tt₂ h₂ tk₂ hI F N
          have hok := hI.1
          have hR₂ := hI.2.1
          have hl₂ := hI.2.2.1
          have hl₃ := hI.2.2.2.1
          have hp₂ := hI.2.2.2.2.1
          have hln₂ := hI.2.2.2.2.2.1
          have hpp₂ := hI.2.2.2.2.2.2.1
          have hacc := hI.2.2.2.2.2.2.2
          clear hI
          dsimp only at hok hR₂ hl₂ hl₃ hp₂ hln₂ hpp₂ hacc F N
          have hlen : acc₂.length ≤ 900 := acc_len hacc hpos hp1
          cases rem₂ with
          | nil =>
            obtain ⟨c, hc⟩ : ∃ c : Nat, c = 34 := ⟨_, rfl⟩
            have R0 : Rem txt p₂ (c :: rest) := rem_c hc hR₂
            refine lex_ch SO RO ND (by omega) (by omega) B' F X' N T' rfl rfl rfl rfl (by first | exact offU (by assumption) (by decide) | (simp only [depth_deeper]; omega)) (by first | exact offU (by assumption) (by decide) | (simp only [units_deeper]; omega)) R0.1 (le_k hp₂) hl₂ (le_k hl₃) hx R0.slice ?_
            · intro tc h' tk' tl' tp' n' F' N'
              clear F N
              replace F' : Fr g L' _ _ := F'
              replace N' : News g L' _ _ := N'
              unfold lexLed lexEs itLed at N'
              simp only [List.cons_append, List.nil_append] at N'
              dsimp only
              have hch := ch_facts (c := c) (a := true) (b := true) (d := false) (by rw [hc]; rfl) (by rw [hc]; rfl) (by rw [hc]; rfl); have hw := hch.1; have hq := hch.2.1; have he := hch.2.2; clear hch
              (repeat' (first | (k_unfold; (try dsimp only)) | (dsimp only; k_unfold; try dsimp only) | ((fail_if_success (goal_lacks inplaceOp)); ((with_reducible show wpAny _ _ (inplaceOp Operator.Add (Value.str _ _) (Value.str (chS _) _)) _ _ _); (refine' iadd_ch ?ia ?ib ?_; (case ia => first | with_reducible rfl | exact textOf_nil.symm); (case ib => first | omega | (simp only [List.length_append, List.length_cons, List.length_nil]; omega)); k_whole); intro t' k')) | (k_end; wrow_close) | walk1 | (dsimp only; walk1) | (leave1; (try dsimp only)) | fail "no step"))
              (rename Fr _ _ _ _ => F5); (rename News _ _ _ _ => N5)
              dsimp only [TokPost]
              k_unfold
              dsimp only
              refine hret _ _ _ (lexKeeps (more := [_, _]) LX0 hpb N5 (hK _ (Fr.keep F5))) ⟨⟨_, congrArg (fun z => Value.str (textOf z) _) ((List.append_nil _).symm.trans hacc)⟩, LexAt.cast (lexAt_of (more := [_, _]) N5) ?_ ?_⟩
              · exact ln_end hc hln₂ hK1
              · exact p_end hpp₂ hK2
          | cons d rem₃ =>
            have R0 : Rem txt p₂ (d :: (rem₃ ++ (34 :: rest))) := hR₂
            refine lex_ch SO RO ND (by omega) (by omega) B' F X' N T' rfl rfl rfl rfl (by first | exact offU (by assumption) (by decide) | (simp only [depth_deeper]; omega)) (by first | exact offU (by assumption) (by decide) | (simp only [units_deeper]; omega)) R0.1 (le_k hp₂) hl₂ (le_k hl₃) hx R0.slice ?_
            · intro tc h' tk' tl' tp' n' F' N'
              clear F N
              replace F' : Fr g L' _ _ := F'
              replace N' : News g L' _ _ := N'
              unfold lexLed lexEs itLed at N'
              simp only [List.cons_append, List.nil_append] at N'
              dsimp only
              have hd1 := hok d (.head _)
              have hq := ch_q hd1.1
              have he := ch_b hd1.2
              (repeat' (first | (k_unfold; (try dsimp only)) | (dsimp only; k_unfold; try dsimp only) | ((fail_if_success (goal_lacks inplaceOp)); ((with_reducible show wpAny _ _ (inplaceOp Operator.Add (Value.str _ _) (Value.str (chS _) _)) _ _ _); (refine' iadd_ch ?ia ?ib ?_; (case ia => first | with_reducible rfl | exact textOf_nil.symm); (case ib => first | omega | (simp only [List.length_append, List.length_cons, List.length_nil]; omega)); k_whole); intro t' k')) | (k_end; wrow_close) | walk1 | (dsimp only; walk1) | (leave1; (try dsimp only)) | fail "no step"))
              (rename Fr _ _ _ _ => F5); (rename News _ _ _ _ => N5)
              dsimp only [TokPost]
              refine ⟨⟨rem₃, acc₂ ++ [d], lnNext (chS d) ln₂, p₂ + 1, tl', tp', n'⟩, _, _, _, _, Nat.lt_succ_self _, ⟨fun x hx => hok x (.tail _ hx), R0.next, ?_, ?_, ?_, ?_, ?_, ?_⟩, rfl, frBoth F5, N5⟩
              · exact ln_ok hl₂
              · exact ln_next hl₃
              · exact p_next hp₂
              · exact (lns_to rfl).trans hln₂
              · exact p_eq.trans hpp₂
              · exact acc1 hacc
    | bare its b =>
      have hne := hpc.1
      have hok := hpc.2.1
      have hws := hpc.2.2
      clear hpc
      cases its with
      | nil => exact absurd rfl hne
      | cons i its =>
      clear hne
      obtain ⟨ie, d₀⟩ := i
      have hlenI : its.length ≤ 898 := its_len hl0 hl1
      revert F N
      apply later (P := BareK w A S (listOf #[] nb) txt its b rest K1 K2 g L' _ _ _ _ (textOf [d₀]) _)
      case k =>
        intro BARE F N
        rcases two_ways ie with hie | hie
        · have hR1 := hR₁; have hl1' := hl₁; have hp1' := hp₁; have hln1 := hln; have hpp1 := hpp
          rw [enc_f hie] at hR1 hl1' hp1' hln1 hpp1
          have R0 : Rem txt p₁ (d₀ :: (its.flatMap encIt ++ (b :: rest))) := rem_f hR1
          refine lex_ch SO RO ND (by omega) (by omega) B' F X' N T' rfl rfl rfl rfl (by first | exact offU (by assumption) (by decide) | (simp only [depth_deeper]; omega)) (by first | exact offU (by assumption) (by decide) | (simp only [units_deeper]; omega)) R0.1 (le_k hp₁) hl₀ (le_k hl₁) hx R0.slice ?_
          · intro tc h' tk' tl' tp' n' F' N'
            clear F N
            replace F' : Fr g L' _ _ := F'
            replace N' : News g L' _ _ := N'
            unfold lexLed lexEs itLed at N'
            simp only [List.cons_append, List.nil_append] at N'
            dsimp only
            have kk3 := hok _ (.head _) hie; have k1 := kk3.1; have k2 := kk3.2.1; have k3 := kk3.2.2; clear kk3
            have hch := ch_facts (c := d₀) (a := true) (b := false) (d := false) k3 (by simpa using k1) (by simpa using k2); have hw := hch.1; have hq := hch.2.1; have he := hch.2.2; clear hch
            (repeat' (first | (k_unfold; (try dsimp only)) | (dsimp only; k_unfold; try dsimp only) | ((fail_if_success (goal_lacks inplaceOp)); ((with_reducible show wpAny _ _ (inplaceOp Operator.Add (Value.str _ _) (Value.str (chS _) _)) _ _ _); (refine' iadd_ch ?ia ?ib ?_; (case ia => first | with_reducible rfl | exact textOf_nil.symm); (case ib => first | omega | (simp only [List.length_append, List.length_cons, List.length_nil]; omega)); k_whole); intro t' k')) | (k_end; wrow_close) | walk1 | (dsimp only; walk1) | (leave1; (try dsimp only)) | fail "no step"))
            clear hw hq he
            (rename Fr _ _ _ _ => F2); (rename News _ _ _ _ => N2)
            (rename Nat => kk); (rename PySem.Heap => hh)
            exact BARE.get _ _ _ _ _ _ _ hh kk (ln_ok hl₀) (ln_next hl1') (p_next hp1') R0.next ((lns_to rfl).trans hln1) (p_eq.trans hpp1) (frBoth F2) N2
        · have hR1 := hR₁; have hl1' := hl₁; have hp1' := hp₁; have hln1 := hln; have hpp1 := hpp
          rw [enc_t hie] at hR1 hl1' hp1' hln1 hpp1
          obtain ⟨c, hc⟩ : ∃ c : Nat, c = 92 := ⟨_, rfl⟩
          have R0 : Rem txt p₁ (c :: d₀ :: (its.flatMap encIt ++ (b :: rest))) := rem_t hc hR1
          refine lex_ch SO RO ND (by omega) (by omega) B' F X' N T' rfl rfl rfl rfl (by first | exact offU (by assumption) (by decide) | (simp only [depth_deeper]; omega)) (by first | exact offU (by assumption) (by decide) | (simp only [units_deeper]; omega)) R0.1 (le_k hp₁) hl₀ (le_k hl₁) hx R0.slice ?_
          · intro tc h' tk' tl' tp' n' F' N'
            clear F N
            replace F' : Fr g L' _ _ := F'
            replace N' : News g L' _ _ := N'
            unfold lexLed lexEs itLed at N'
            simp only [List.cons_append, List.nil_append] at N'
            dsimp only
            have hch := ch_facts (c := c) (a := true) (b := false) (d := true) (by rw [hc]; rfl) (by rw [hc]; rfl) (by rw [hc]; rfl); have hw := hch.1; have hq := hch.2.1; have he := hch.2.2; clear hch
            (repeat' (first | (k_unfold; (try dsimp only)) | (dsimp only; k_unfold; try dsimp only) | ((fail_if_success (goal_lacks inplaceOp)); ((with_reducible show wpAny _ _ (inplaceOp Operator.Add (Value.str _ _) (Value.str (chS _) _)) _ _ _); (refine' iadd_ch ?ia ?ib ?_; (case ia => first | with_reducible rfl | exact textOf_nil.symm); (case ib => first | omega | (simp only [List.length_append, List.length_cons, List.length_nil]; omega)); k_whole); intro t' k')) | (k_end; wrow_close) | walk1 | (dsimp only; walk1) | (leave1; (try dsimp only)) | fail "no step"))
            (rename Fr _ _ _ _ => F4); (rename News _ _ _ _ => N4)
            dsimp only
            refine' Spec.use (read_char_spec SO RO ND (lexAt_of (more := [_, _]) N4) ?rp0 ?rp1 ?rl0 ?rl1 hx R0.next.slice) B' F4 X' N4 T' rfl rfl rfl rfl ?rm ?ro ?rd ?ru ?_
            case rp0 => exact R0.next.1
            case rp1 => exact le_k1 hp₁
            case rl0 => exact ln_ok hl₀
            case rl1 => exact ln_k1 hl₁
            case rm => simp
            case ro => simp
            case rd => first | exact offU (by assumption) (by decide) | (simp only [depth_deeper]; omega)
            case ru => first | exact offU (by assumption) (by decide) | (simp only [units_deeper]; omega)
            rintro v hh3 tk3 F3 K3 ⟨⟨t3, rfl⟩, LX3⟩
            obtain ⟨tl3, tp3, n3, N3⟩ := lexLed_next (more := [_, _]) N4 ND K3 LX3 (it_off (by omega) (by omega) ND)
            clear F4 N4 K3 LX3 hw hq he
            unfold lexLed lexEs at N3
            simp only [List.cons_append, List.nil_append] at N3
            try dsimp only
            (repeat' (first | (k_unfold; (try dsimp only)) | (dsimp only; k_unfold; try dsimp only) | ((fail_if_success (goal_lacks inplaceOp)); ((with_reducible show wpAny _ _ (inplaceOp Operator.Add (Value.str _ _) (Value.str (chS _) _)) _ _ _); (refine' iadd_ch ?ia ?ib ?_; (case ia => first | with_reducible rfl | exact textOf_nil.symm); (case ib => first | omega | (simp only [List.length_append, List.length_cons, List.length_nil]; omega)); k_whole); intro t' k')) | (k_end; wrow_close) | walk1 | (dsimp only; walk1) | (leave1; (try dsimp only)) | fail "no step"))
            (rename Fr _ _ _ _ => F2); (rename News _ _ _ _ => N2)
            (rename Nat => kk); (rename PySem.Heap => hh)
            exact BARE.get _ _ _ _ _ _ _ hh kk (ln_ok (ln_ok hl₀)) (ln_next (d := d₀) (ln_next hl1')) (p_next (d := d₀) (p_next hp1')) R0.next.next ((lns_to rfl).trans ((lns_to hc).trans hln1)) ((p_eq (d := d₀)).trans (p_eq.trans hpp1)) (frBoth2 F2) N2
      case h =>
        refine ⟨fun lnB pB tlB tpB nB uB ttB hB tkB hb0 hb1 hb2 hbR hbL hbP FB NB => ?_⟩
        refine' tok_loop (σ := IS (Bool × Nat)) (fun c => lexLed w A S (listOf #[] nb) c.ln c.p c.tl c.tp c.n ++ itLed A _ _ _) (fun c => textOf c.acc)
          (fun c => (∀ x ∈ c.rem, okIt x) ∧ Rem txt c.p (c.rem.flatMap encIt ++ (b :: rest)) ∧ 0 ≤ c.ln ∧ c.ln + (c.rem.flatMap encIt ++ [b]).length ≤ 900 ∧ c.p + (c.rem.flatMap encIt ++ [b]).length ≤ 900 ∧ lns c.ln (c.rem.flatMap encIt ++ [b]) = K1 ∧ c.p + (c.rem.flatMap encIt ++ [b]).length = K2 ∧ c.acc ++ c.rem.map (·.2) = ((ie, d₀) :: its).map (·.2) ∧ c.acc.length + c.rem.length ≤ 900)
          (fun c => c.rem.length) ⟨its, [d₀], lnB, pB, tlB, tpB, nB⟩ ?ht3 FB NB ⟨fun x hx => hok x (.tail _ hx), hbR, hb0, hb1, hb2, hbL, hbP, rfl, len0 hlenI⟩ ?turn3
        case ht3 => exact rfl
        case turn3 =>
          clear FB NB hb0 hb1 hb2 hbR hbL hbP
          rintro ⟨rem₂, acc₂, ln₂, p₂, tl₂, tp₂, n₂⟩ u₂ tt₂ h₂ tk₂ hI F N
          have hok₂ := hI.1
          have hR₂ := hI.2.1
          have hl₂ := hI.2.2.1
          have hl₃ := hI.2.2.2.1
          have hp₂ := hI.2.2.2.2.1
          have hln₂ := hI.2.2.2.2.2.1
          have hpp₂ := hI.2.2.2.2.2.2.1
          have hacc := hI.2.2.2.2.2.2.2.1
          have hlen := hI.2.2.2.2.2.2.2.2
          clear hI
          dsimp only at hok₂ hR₂ hl₂ hl₃ hp₂ hln₂ hpp₂ hacc hlen F N
          cases rem₂ with
          | nil =>
            have R0 : Rem txt p₂ (b :: rest) := hR₂
            refine lex_ch SO RO ND (by omega) (by omega) B' F X' N T' rfl rfl rfl rfl (by first | exact offU (by assumption) (by decide) | (simp only [depth_deeper]; omega)) (by first | exact offU (by assumption) (by decide) | (simp only [units_deeper]; omega)) R0.1 (le_k hp₂) hl₂ (le_k hl₃) hx R0.slice ?_
            · intro tc h' tk' tl' tp' n' F' N'
              clear F N
              replace F' : Fr g L' _ _ := F'
              replace N' : News g L' _ _ := N'
              unfold lexLed lexEs itLed at N'
              simp only [List.cons_append, List.nil_append] at N'
              dsimp only
              have hch := ch_facts (a := false) hws (ws_not hws).1 (ws_not hws).2; have hw := hch.1; have hq := hch.2.1; have he := hch.2.2; clear hch
              (repeat' (first | (k_unfold; (try dsimp only)) | (dsimp only; k_unfold; try dsimp only) | ((fail_if_success (goal_lacks inplaceOp)); ((with_reducible show wpAny _ _ (inplaceOp Operator.Add (Value.str _ _) (Value.str (chS _) _)) _ _ _); (refine' iadd_ch ?ia ?ib ?_; (case ia => first | with_reducible rfl | exact textOf_nil.symm); (case ib => first | omega | (simp only [List.length_append, List.length_cons, List.length_nil]; omega)); k_whole); intro t' k')) | (k_end; wrow_close) | walk1 | (dsimp only; walk1) | (leave1; (try dsimp only)) | fail "no step"))
              (rename Fr _ _ _ _ => F5); (rename News _ _ _ _ => N5)
              dsimp only [TokPost]
              k_unfold
              dsimp only
              refine hret _ _ _ (lexKeeps (more := [_, _]) LX0 hpb N5 (hK _ (Fr.keep F5))) ⟨⟨_, congrArg (fun z => Value.str (textOf z) _) ((List.append_nil _).symm.trans hacc)⟩, LexAt.cast (lexAt_of (more := [_, _]) N5) ?_ ?_⟩
              · exact ln_end rfl hln₂ hK1
              · exact p_end hpp₂ hK2
          | cons j rem₃ =>
            obtain ⟨je, d⟩ := j
            simp only [List.length_cons] at hlen
            cases je with
            | false =>
              have R0 : Rem txt p₂ (d :: (rem₃.flatMap encIt ++ (b :: rest))) := hR₂
              refine lex_ch SO RO ND (by omega) (by omega) B' F X' N T' rfl rfl rfl rfl (by first | exact offU (by assumption) (by decide) | (simp only [depth_deeper]; omega)) (by first | exact offU (by assumption) (by decide) | (simp only [units_deeper]; omega)) R0.1 (le_k hp₂) hl₂ (le_k hl₃) hx R0.slice ?_
              · intro tc h' tk' tl' tp' n' F' N'
                clear F N
                replace F' : Fr g L' _ _ := F'
                replace N' : News g L' _ _ := N'
                unfold lexLed lexEs itLed at N'
                simp only [List.cons_append, List.nil_append] at N'
                dsimp only
                have kk3 := hok₂ _ (.head _) rfl; have k1 := kk3.1; have k2 := kk3.2.1; have k3 := kk3.2.2; clear kk3
                have hch := ch_facts (c := d) (a := true) (b := false) (d := false) k3 (by simpa using k1) (by simpa using k2); have hw := hch.1; have hq := hch.2.1; have he := hch.2.2; clear hch
                (repeat' (first | (k_unfold; (try dsimp only)) | (dsimp only; k_unfold; try dsimp only) | ((fail_if_success (goal_lacks inplaceOp)); ((with_reducible show wpAny _ _ (inplaceOp Operator.Add (Value.str _ _) (Value.str (chS _) _)) _ _ _); (refine' iadd_ch ?ia ?ib ?_; (case ia => first | with_reducible rfl | exact textOf_nil.symm); (case ib => first | omega | (simp only [List.length_append, List.length_cons, List.length_nil]; omega)); k_whole); intro t' k')) | (k_end; wrow_close) | walk1 | (dsimp only; walk1) | (leave1; (try dsimp only)) | fail "no step"))
                (rename Fr _ _ _ _ => F5); (rename News _ _ _ _ => N5)
                dsimp only [TokPost]
                refine ⟨⟨rem₃, acc₂ ++ [d], lnNext (chS d) ln₂, p₂ + 1, tl', tp', n'⟩, _, _, _, _, Nat.lt_succ_self _, ⟨fun x hx => hok₂ x (.tail _ hx), R0.next, ?_, ?_, ?_, ?_, ?_, ?_, ?_⟩, rfl, frBoth F5, N5⟩
                · exact ln_ok hl₂
                · exact ln_next hl₃
                · exact p_next hp₂
                · exact (lns_to rfl).trans hln₂
                · exact p_eq.trans hpp₂
                · exact acc1 hacc
                · exact len1 hlen
            | true =>
              obtain ⟨c, hc⟩ : ∃ c : Nat, c = 92 := ⟨_, rfl⟩
              have R0 : Rem txt p₂ (c :: d :: (rem₃.flatMap encIt ++ (b :: rest))) := rem_c hc hR₂
              refine lex_ch SO RO ND (by omega) (by omega) B' F X' N T' rfl rfl rfl rfl (by first | exact offU (by assumption) (by decide) | (simp only [depth_deeper]; omega)) (by first | exact offU (by assumption) (by decide) | (simp only [units_deeper]; omega)) R0.1 (le_k hp₂) hl₂ (le_k hl₃) hx R0.slice ?_
              · intro tc h' tk' tl' tp' n' F' N'
                clear F N
                replace F' : Fr g L' _ _ := F'
                replace N' : News g L' _ _ := N'
                unfold lexLed lexEs itLed at N'
                simp only [List.cons_append, List.nil_append] at N'
                dsimp only
                have hch := ch_facts (c := c) (a := true) (b := false) (d := true) (by rw [hc]; rfl) (by rw [hc]; rfl) (by rw [hc]; rfl); have hw := hch.1; have hq := hch.2.1; have he := hch.2.2; clear hch
                (repeat' (first | (k_unfold; (try dsimp only)) | (dsimp only; k_unfold; try dsimp only) | ((fail_if_success (goal_lacks inplaceOp)); ((with_reducible show wpAny _ _ (inplaceOp Operator.Add (Value.str _ _) (Value.str (chS _) _)) _ _ _); (refine' iadd_ch ?ia ?ib ?_; (case ia => first | with_reducible rfl | exact textOf_nil.symm); (case ib => first | omega | (simp only [List.length_append, List.length_cons, List.length_nil]; omega)); k_whole); intro t' k')) | (k_end; wrow_close) | walk1 | (dsimp only; walk1) | (leave1; (try dsimp only)) | fail "no step"))
                (rename Fr _ _ _ _ => F4); (rename News _ _ _ _ => N4)
                dsimp only
                refine' Spec.use (read_char_spec SO RO ND (lexAt_of (more := [_, _]) N4) ?rp0 ?rp1 ?rl0 ?rl1 hx R0.next.slice) B' F4 X' N4 T' rfl rfl rfl rfl ?rm ?ro ?rd ?ru ?_
                case rp0 => exact R0.next.1
                case rp1 => exact le_k1 hp₂
                case rl0 => exact ln_ok hl₂
                case rl1 => exact ln_k1 hl₃
                case rm => simp
                case ro => simp
                case rd => first | exact offU (by assumption) (by decide) | (simp only [depth_deeper]; omega)
                case ru => first | exact offU (by assumption) (by decide) | (simp only [units_deeper]; omega)
                rintro v hh3 tk3 F3 K3 ⟨⟨t3, rfl⟩, LX3⟩
                obtain ⟨tl3, tp3, n3, N3⟩ := lexLed_next (more := [_, _]) N4 ND K3 LX3 (it_off (by omega) (by omega) ND)
                clear F4 N4 K3 LX3 hw hq he
                unfold lexLed lexEs at N3
                simp only [List.cons_append, List.nil_append] at N3
                try dsimp only
                (repeat' (first | (k_unfold; (try dsimp only)) | (dsimp only; k_unfold; try dsimp only) | ((fail_if_success (goal_lacks inplaceOp)); ((with_reducible show wpAny _ _ (inplaceOp Operator.Add (Value.str _ _) (Value.str (chS _) _)) _ _ _); (refine' iadd_ch ?ia ?ib ?_; (case ia => first | with_reducible rfl | exact textOf_nil.symm); (case ib => first | omega | (simp only [List.length_append, List.length_cons, List.length_nil]; omega)); k_whole); intro t' k')) | (k_end; wrow_close) | walk1 | (dsimp only; walk1) | (leave1; (try dsimp only)) | fail "no step"))
                (rename Fr _ _ _ _ => F5); (rename News _ _ _ _ => N5)
                dsimp only [TokPost]
                refine ⟨⟨rem₃, acc₂ ++ [d], lnNext (chS d) (lnNext (chS c) ln₂), p₂ + 1 + 1, tl3, tp3, n3⟩, _, _, _, _, Nat.lt_succ_self _, ⟨fun x hx => hok₂ x (.tail _ hx), R0.next.next, ?_, ?_, ?_, ?_, ?_, ?_, ?_⟩, rfl, frBoth2 F5, N5⟩
                · exact ln_ok (ln_ok hl₂)
                · exact ln_next (d := d) (ln_next hl₃)
                · exact p_next (d := d) (p_next hp₂)
                · exact (lns_to rfl).trans ((lns_to hc).trans hln₂)
                · exact (p_eq (d := d)).trans (p_eq.trans hpp₂)
                · exact acc1 hacc
                · exact len1 hlen
end
end
section
local macro_rules | `(tactic| walk_at "call ref") => `(tactic| (k_here; (first | (show wpAny _ _ (call (Value.ref 42) [Value.ref _]) _ _ _) | (show wpAny _ _ (call (Value.ref 49) [Value.ref _, Value.str _ _]) _ _ _)); (with_reducible rename News _ _ _ _ => N2); k_dflt ((first | refine' Spec.useE (pop_spec ?nd ?i1 ?i2 ?i3 ?len) ?B ?F ?X ?N ?T rfl rfl rfl rfl ?m ?o ?d ?u ?_ | refine' Spec.useE (push_spec ?nd ?i1 ?i2 ?i3 ?len) ?B ?F ?X ?N ?T rfl rfl rfl rfl ?m ?o ?d ?u ?_); (case B => k_asm); (case F => k_asm); (case X => k_asm); (case N => k_asm); (case T => k_asm); (case nd => assumption); (case i1 => first | exact newsAt N2 0 rfl | exact newsAt N2 1 rfl | exact newsAt N2 2 rfl | exact newsAt N2 3 rfl); (case i2 => first | exact newsAt N2 1 rfl | exact newsAt N2 2 rfl | exact newsAt N2 3 rfl | exact newsAt N2 4 rfl); (case i3 => first | exact newsAt N2 2 rfl | exact newsAt N2 3 rfl | exact newsAt N2 4 rfl | exact newsAt N2 5 rfl); (case len => (first | assumption | omega)); (case m => simp); (case o => simp); (case d => first | exact offU (by assumption) (by decide) | (simp only [depth_deeper]; omega)); (case u => first | exact offU (by assumption) (by decide) | (simp only [units_deeper]; omega)); k_whole); intro n' h' tk' F' K' e'; (replace N2 := newsUpd1 N2 (by k_upd) K' e')))
local macro_rules | `(tactic| walk_at "call ref") => `(tactic| (k_here; (first | ((show wpAny _ _ (call (Value.ref 99) [Value.str (wordF _) _]) _ _ _); k_dflt (refine' Spec.useT (number_word ?a ?b) ?B ?F ?X ?N ?T rfl rfl rfl rfl (List.forall_mem_nil _) (List.forall_mem_nil _) ?d ?u ?_)) | ((show wpAny _ _ (call (Value.ref 92) [Value.int _ _]) _ _ _); k_dflt (refine' Spec.useT (word_spec ?a ?b) ?B ?F ?X ?N ?T rfl rfl rfl rfl (List.forall_mem_nil _) (List.forall_mem_nil _) ?d ?u ?_)) | ((show wpAny _ _ (call (Value.ref 80) [Value.int _ _]) _ _ _); k_dflt (refine' Spec.use1 iseof_spec ?B ?F ?X ?N ?T rfl rfl rfl rfl (List.forall_mem_nil _) (List.forall_mem_nil _) ?d ?u ?_)) | ((show wpAny _ _ (call (Value.ref 73) [Value.int _ _]) _ _ _); k_dflt (refine' Spec.use1 isnt_spec ?B ?F ?X ?N ?T rfl rfl rfl rfl (List.forall_mem_nil _) (List.forall_mem_nil _) ?d ?u ?_))); k_dflt ((case B => k_asm); (case F => k_asm); (case X => k_asm); (case N => k_asm); (case T => k_asm); (try case a => omega); (try case b => omega); (case d => first | exact offU (by assumption) (by decide) | (simp only [depth_deeper]; omega)); (case u => first | exact offU (by assumption) (by decide) | (simp only [units_deeper]; omega)); k_whole); intro t' h' tk' F' K'; (with_reducible rename News _ _ _ _ => N'); (replace N' := newsUpd0 N' K')))
local macro_rules | `(tactic| walk_at "exec While") => `(tactic| (k_here; refine halt ?_))
local macro_rules | `(tactic| walk_at "last exec While") => `(tactic| (k_here; refine halt ?_))
local macro_rules | `(tactic| walk_at "WhlIf") => `(tactic| (first | (refine WhlIf.yes (by simp <;> omega) ?_) | (refine WhlIf.no (by simp <;> omega) ?_)))
local macro_rules | `(tactic| walk_at "newList") => `(tactic| (k_here; k_dflt (refine' newList_L ?k1 ?k2 ?_ ?z; (case k1 => k_asm); (case k2 => k_asm); (case z => exact Nat.le_of_ble_eq_true rfl); k_whole); intro l' h' F' N' l1 lL; (try k_lt l1); (try k_sweep)))
section
theorem start9 : True := by
  w_top off
  trivial
noncomputable def blankF (way : Int) : Nat := if way / 3 % 4 = 0 then 32 else if way / 3 % 4 = 1 then 10 else if way / 3 % 4 = 2 then 9 else 13
noncomputable def writF (wd : List Nat) (way : Int) : List Nat := (if way % 3 = 2 then 34 :: (wd ++ [34]) else if way % 3 = 1 then wd.flatMap (fun c => [92, c]) else wd) ++ [blankF way]
local macro_rules | `(tactic| walk_at "eval ListComp") => `(tactic| (k_here; k_dflt (refine comp_str (by k_asm) (by with_unfolding_all rfl) (by decide) (by rfl) (by decide) (by rfl) ?_)))
theorem join_esc (l : List Nat) : Txt.join (Str.ofString "") (l.map fun a => Str.ofString "\\" ++ chS a) = textOf (l.flatMap fun c => [92, c]) := by
  have h := join_texts (l.map fun c => [92, c])
  rw [List.map_map] at h
  have e : (l.map fun a => Str.ofString "\\" ++ chS a) = l.map (textOf ∘ fun c => [92, c]) := by
    refine List.map_congr_left fun c _ => ?_
    rw [show Str.ofString "\\" = textOf [92] by decide +kernel, textOf_snoc]; rfl
  rw [e, h]; rfl
theorem esc_len : ∀ l : List Nat, (l.flatMap fun c => [92, c]).length = 2 * l.length
  | [] => rfl
  | c :: r => by have := esc_len r; simp only [List.flatMap_cons, List.length_append, List.length_cons, List.length_nil] at this ⊢; omega
theorem str_src {prog : Program} {w : World} {A : Around} {h₀ : Heap} {L : Addr} {m : Str → Option Value} {env : Env} {elt : PySem.Expr} {x : Str} {scope : Scope} {cl : List (Str × Addr)} {Fin : Shared → List Value → List (Addr × Obj) → Prop} {l : List Nat} {u : Tok} {s₁ : Shared} {news : List (Addr × Obj)} (g : Nat → Str) (h1 : l.length ≤ 3) (hl : ∀ c ∈ l, c < 128) (hh : A.handled = none)
    (F : Fr h₀ L s₁.heap m) (N : News h₀ L s₁.heap news)
    (turn : ∀ hp, ∀ c t I oI C oC D m₂ ys h tk (E' : Value → Shared → Prop), c ∈ l → LCg.NsObj oC m₂ → m₂ x = some (.str (chS c) t) → Fr h₀ L h m → News h₀ L h ((I, oI) :: (C, oC) :: (D, LCg.lst ys) :: news) → LCg.Off3 I C D news → ((@Ne Nat I C) ∧ (@Ne Nat I D) ∧ (@Ne Nat C D)) →
      wpAny (model prog w) A (eval elt (compEnvC scope cl C env)) (LCg.CompEnd h₀ L m { ({s₁ with heap := hp} : Shared) with heap := h, toks := tk } I oI C oC D (LCg.lst ys) (fun _ => True) (fun y news' => KCtEl news (g c) y news')) E' { ({s₁ with heap := hp} : Shared) with heap := h, toks := tk })
    (fin : ∀ hp, KPfDone (∀ ys, CarriedAll ys (l.map fun c => PyData.str (g c)) → Fin { s₁ with heap := hp } ys news)) :
    StrSrc prog w A h₀ L m env elt x scope cl Fin (.str (textOf l) u) s₁ := by
  have hs : (textOf l).cps.size = l.length := by simp [textOf]
  refine ⟨textOf l, u, news, rfl, ?_, hh, F, N, ?_, ?_⟩
  · simp only [textOf, List.all_toArray, List.all_eq_true, decide_eq_true_eq]; exact hl
  · rw [hs]; exact Nat.le_trans h1 (by decide)
  · rintro s₂ ⟨hp, rfl⟩
    exact cs_rest g (turn hp) (fin hp)
local macro_rules | `(tactic| walk_at "KCtEl") => `(tactic| exact ⟨rfl, _, rfl⟩)
local macro_rules | `(tactic| walk_at "call builtin:str.join") => `(tactic| (k_here; (with_reducible rename CarriedAll _ (List.map _ _) => ktC); (refine KT.join_B 2 (by exact News.isList (by k_asm) (by k_mem)) ktC (by intro ktA ktM; exact Nat.le_refl 2) (Nat.le_trans (by assumption) (by decide)) (by decide) ?_; intro _ _; rw [join_esc])))
theorem blank_item (way : Int) : Txt.item (Str.ofString " \n\t\r") ((way.fdiv 3).fmod 4) = textOf [blankF way] := by
  rw [Int.fdiv_eq_ediv_of_nonneg _ (by decide), Int.fmod_eq_emod_of_nonneg _ (by decide)]
  unfold blankF
  have q : way / 3 % 4 = 0 ∨ way / 3 % 4 = 1 ∨ way / 3 % 4 = 2 ∨ way / 3 % 4 = 3 := by omega
  rcases q with q | q | q | q <;> rw [q] <;> decide +kernel
theorem textOf_app (l r : List Nat) : textOf l ++ textOf r = textOf (l ++ r) := by
  refine Str.ext' ?_
  rw [Str.cps_append]
  simp [textOf]
theorem written_spec {w : World} {loose : List Str} {mean : ExcName → Option Value} {mg mb : Str → Option Value} {wd : List Nat} {way : Int} {t u : Tok} {h : Heap} (h0 : 0 < wd.length) (h1 : wd.length ≤ 3) (hwd : ∀ c ∈ wd, c < 128) (hw : 0 ≤ way) (hw1 : way < 10000000000) :
    Spec w loose mean mg mb (.call (.ref 104) ⟨[.str (textOf wd) t, .int way u], []⟩) 3 60 [] [] h (fun v _ => ∃ t, v = .str (textOf (writF wd way)) t) := by
  unfold Spec
  k_fill
  intro dp un gd base outer h₀ s R hs B X T k hmf hroom hunits hret
  subst hs
  have hlen : (textOf wd).length ≤ 3 := by rw [textOf_length]; exact h1
  have hesc : (textOf (wd.flatMap fun c => [92, c])).length ≤ 6 := by rw [textOf_length, esc_len]; omega
  (refine' enter (news := ?news) ?k1 ?k2 ?k3 ?k4 ?kn ?kf ?k6 ?k7 ?k8 ?k9 ?kB ?_ ?c5 ?c2 ?c3 ?c4; (case k1 => assumption); (case k2 => assumption); (case k3 => assumption); (case k4 => assumption); (case k6 => k_is); (case k7 => k_is); (case k8 => (first | exact offU1 (by assumption) | (dsimp only [around]; omega))); (case k9 => exact BindsTo.of_eq rfl); (case c5 => decide); (case kB => exact locs rfl); (case c2 => exact rfl); (case c3 => exact rfl); (case c4 => exact rfl))
  case news => exact []
  case kn => exact (List.forall_mem_nil _)
  case kf => exact (List.forall_mem_nil _)
  intro g L' h₁ F N B' X' T' hl hK hL
  clear B X T
  (try dsimp only)
  show wpAny _ _ _ _ _ _
  k_fold
  (repeat' (first | (k_unfold; (try dsimp only)) | (dsimp only; k_unfold; try dsimp only) | ((with_reducible show StrSrc _ _ _ _ _ _ _ _ _ _ _ _ _ _); ((refine' str_src (fun c => Str.ofString "\\" ++ chS c) ?ka ?kb rfl ?kF ?kN ?_ ?_); (case ka => assumption); (case kb => assumption); (case kF => k_asm); (case kN => k_asm); (all_goals (first | (intro hp k' t' I' oI' C' oC' D' m' ys' h' tk' E' hk' hC' hx' F' N' off' ne'; (try (simp only [LCg.Off3, and_true] at off')); (try k_fold); (try dsimp only)) | (intro hp; (try k_fold); (try dsimp only)))))) | (k_end; wrow_close) | walk1 | (dsimp only; walk1) | (leave1; (try dsimp only)) | fail "no step"))
  all_goals
    (rename Fr _ _ _ _ => F5)
    refine hret _ _ _ (hK _ (Fr.keep F5)) ⟨_, congrArg (fun z => Value.str z _) ?_⟩
    rw [blank_item]
    unfold writF
    first
      | (exfalso
         have q := congrArg Str.length (eq_of_beq (show (textOf wd == Str.ofString "") = true by assumption))
         rw [textOf_length] at q
         have : (Str.ofString "").length = 0 := by decide
         omega)
      | (rw [if_pos (show way % 3 = 2 by rw [← Int.fmod_eq_emod_of_nonneg _ (by decide)]; assumption), show Str.ofString "\"" = textOf [34] by decide +kernel, textOf_app, textOf_app, textOf_app]
         simp)
      | (rw [if_neg (show ¬ way % 3 = 2 by rw [← Int.fmod_eq_emod_of_nonneg _ (by decide)]; assumption), if_pos (show way % 3 = 1 by rw [← Int.fmod_eq_emod_of_nonneg _ (by decide)]; assumption), textOf_app])
      | (rw [if_neg (show ¬ way % 3 = 2 by rw [← Int.fmod_eq_emod_of_nonneg _ (by decide)]; assumption), if_neg (show ¬ way % 3 = 1 by rw [← Int.fmod_eq_emod_of_nonneg _ (by decide)]; assumption), textOf_app])
end
section
local macro_rules | `(tactic| walk_at "pad") => `(tactic| skip)
theorem start10 : True := by
  w_top off
  trivial
structure PA where
  (P p0 p1 p2 p3 : Nat) (l0 r0 l1 r1 l2 r2 l3 r3 : Int) (a0 b0 a1 b1 a2 b2 a3 b3 : Tok) (n n0 n1 n2 n3 : Nat)
noncomputable abbrev pairLed (C : PA) : List (Addr × Obj) :=
  [(C.P, listOf #[.ref C.p0, .ref C.p1, .ref C.p2, .ref C.p3] C.n), (C.p0, listOf #[.int C.l0 C.a0, .int C.r0 C.b0] C.n0), (C.p1, listOf #[.int C.l1 C.a1, .int C.r1 C.b1] C.n1), (C.p2, listOf #[.int C.l2 C.a2, .int C.r2 C.b2] C.n2), (C.p3, listOf #[.int C.l3 C.a3, .int C.r3 C.b3] C.n3)]
noncomputable def PairsAt (C : PA) (h : Heap) : Prop := ∀ p ∈ pairLed C, h.get? p.1 = some p.2
noncomputable def PairsN (C : PA) : Prop := C.P < C.p0 ∧ C.p0 < C.p1 ∧ C.p1 < C.p2 ∧ C.p2 < C.p3
noncomputable def SymOk (x : Int) : Prop := 0 < x ∧ x < 260
structure Yields (C : PA) (Y : Int → List Int) (W : Int → Nat) : Prop where
  term : ∀ x, 0 < x → x < 256 → Y x = [x]
  y0 : Y 256 = Y C.l0 ++ Y C.r0
  y1 : Y 257 = Y C.l1 ++ Y C.r1
  y2 : Y 258 = Y C.l2 ++ Y C.r2
  y3 : Y 259 = Y C.l3 ++ Y C.r3
  pos : ∀ x, 1 ≤ W x
  w0 : W C.l0 + W C.r0 < W 256
  w1 : W C.l1 + W C.r1 < W 257
  w2 : W C.l2 + W C.r2 < W 258
  w3 : W C.l3 + W C.r3 < W 259
  ok : SymOk C.l0 ∧ SymOk C.r0 ∧ SymOk C.l1 ∧ SymOk C.r1 ∧ SymOk C.l2 ∧ SymOk C.r2 ∧ SymOk C.l3 ∧ SymOk C.r3
noncomputable def wSum (W : Int → Nat) : List Int → Nat
  | [] => 0
  | x :: r => W x + wSum W r
theorem wSum_len {W : Int → Nat} (h : ∀ x, 1 ≤ W x) : ∀ l, l.length ≤ wSum W l
  | [] => Nat.le_refl _
  | x :: r => by have := wSum_len h r; have := h x; simp only [List.length_cons, wSum]; omega
theorem last_of {ws : List Value} {x : Int} {st : List Int} (h : IntsAre ws (x :: st).reverse) : ∃ ws' t', ws = ws' ++ [.int x t'] ∧ IntsAre ws' st.reverse := by
  have hl := h.length
  obtain ⟨y, t, e, ey, hi⟩ := kpa_ints h (by rw [hl]; simp)
  subst ey
  rw [List.reverse_cons, List.dropLast_concat] at hi
  refine ⟨ws.dropLast, t, ?_, hi⟩
  rw [List.reverse_cons] at e
  simpa using e
theorem pop_back {prog : Program} {w : World} {A : Around} {E : Value → Shared → Prop} {s : Shared} {h₀ : Heap} {L D : Addr} {m : Str → Option Value} {news news' : List (Addr × Obj)} {n : Nat} {q : List Value} {y : Value} {Q : Value → Shared → Prop} (F : Fr h₀ L s.heap m) (N : News h₀ L s.heap news) (U : Upd D (listOf (q ++ [y]).toArray n) (listOf q.toArray (n + 1)) news news') (hz : q.length ≤ 1000)
    (h : ∀ h', Fr h₀ L h' m → News h₀ L h' news' → Q y { s with heap := h' }) : wpAny (model prog w) A (call (.builtin "list.pop") [.ref D]) Q E s :=
  kl_pop F N (kpa_last y q) U (by rw [sizeLine_eq]; simp only [List.length_append, List.length_singleton]; omega) h
local macro_rules | `(tactic| walk_at "call builtin:list.pop") => `(tactic| (k_here; (with_reducible show wpAny _ _ (call (Value.builtin _) [Value.ref _]) _ _ _); k_dflt (refine' pop_back ?F ?N ?U ?z ?_; (case F => k_asm); (case N => k_asm); (case U => k_upd); (case z => first | assumption | omega)); (intro h' F' N'; (try dsimp only [List.nil_append, List.cons_append] at N'))))
theorem frSelf {g h : Heap} {L : Addr} {m : Str → Option Value} (a : Str) (F : Fr g L h m) : Fr g L h (fun y => if y = a then m a else m y) := by
  have e : (fun y => if y = a then m a else m y) = m := by
    funext y
    by_cases h1 : y = a
    · subst h1; rw [if_pos rfl]
    · rw [if_neg h1]
  rw [e]; exact F
theorem isListOf {h : Heap} {a : Addr} {vs : Array Value} {n : Nat} (e : h.get? a = some (listOf vs n)) : h.IsList a vs := ⟨_, e, rfl, n, rfl⟩
theorem item_listT {prog : Program} {w : World} {A : Around} {E : Value → Shared → Prop} {s : Shared} {value slice : PySem.Expr} {l : Addr} {items : Array Value} {k : Int} {u : Tok} {v : Value} {Q : Value → Shared → Prop} (hl : s.heap.IsList l items) (h0 : 0 ≤ k) (hfit : k < 2 ^ 63) (ht : items[k.toNat]? = some v) (h : Q v s)
    (hs : subscripted slice false (.ref l) (.int k u) = operate [.ref l, .int k u] (getItem (.ref l) (.int k u)) := by with_unfolding_all rfl) :
    wpAny (model prog w) A (subscriptTail value slice (.ref l) (.int k u)) Q E s :=
  tail_any hl.typeIs PySem.F.slot_list_getitem.lookup (wpAny_getItem_list hl h0 hfit ht h) hs
noncomputable def lA (C : PA) : Nat → Int
  | 0 => C.l0
  | 1 => C.l1
  | 2 => C.l2
  | _ => C.l3
noncomputable def rA (C : PA) : Nat → Int
  | 0 => C.r0
  | 1 => C.r1
  | 2 => C.r2
  | _ => C.r3
noncomputable def pA (C : PA) : Nat → Nat
  | 0 => C.p0
  | 1 => C.p1
  | 2 => C.p2
  | _ => C.p3
theorem below4 {i : Nat} (h : i < 4) : i = 0 ∨ i = 1 ∨ i = 2 ∨ i = 3 := by omega
theorem pair_y {C : PA} {Y : Int → List Int} {W : Int → Nat} (hY : Yields C Y W) {x : Int} (h0 : 256 ≤ x) (h1 : x < 260) :
    ∃ i, (#[.ref C.p0, .ref C.p1, .ref C.p2, .ref C.p3] : Array Value)[(x - 256).toNat]? = some (.ref (pA C i)) ∧ (∃ a b n, (pA C i, listOf #[.int (lA C i) a, .int (rA C i) b] n) ∈ pairLed C) ∧
      Y x = Y (lA C i) ++ Y (rA C i) ∧ W (lA C i) + W (rA C i) < W x ∧ SymOk (lA C i) ∧ SymOk (rA C i) := by
  obtain ⟨k1, k2, k3, k4, k5, k6, k7, k8⟩ := hY.ok
  have hc : x = 256 ∨ x = 257 ∨ x = 258 ∨ x = 259 := by omega
  rcases hc with rfl | rfl | rfl | rfl
  · exact ⟨0, rfl, ⟨C.a0, C.b0, C.n0, .tail _ (.head _)⟩, hY.y0, hY.w0, k1, k2⟩
  · exact ⟨1, rfl, ⟨C.a1, C.b1, C.n1, .tail _ (.tail _ (.head _))⟩, hY.y1, hY.w1, k3, k4⟩
  · exact ⟨2, rfl, ⟨C.a2, C.b2, C.n2, .tail _ (.tail _ (.tail _ (.head _)))⟩, hY.y2, hY.w2, k5, k6⟩
  · exact ⟨3, rfl, ⟨C.a3, C.b3, C.n3, .tail _ (.tail _ (.tail _ (.tail _ (.head _))))⟩, hY.y3, hY.w3, k7, k8⟩
local macro_rules | `(tactic| walk_at "subscriptTail") => `(tactic| (k_here; (with_reducible show wpAny _ _ (subscriptTail _ _ (Value.ref (PA.P _)) (Value.int _ _)) _ _ _); refine halt ?_))
local macro_rules | `(tactic| walk_at "subscriptTail") => `(tactic| (k_here; (with_reducible show wpAny _ _ (subscriptTail _ _ (Value.ref (pA _ _)) (Value.int _ _)) _ _ _); refine halt ?_))
noncomputable def partI (C : PA) (Y : Int → List Int) (W : Int → Nat) (g : Heap) (L R nR D Dp : Nat) (vs : List Value) (m₀ : Str → Option Value) (want : List Int) (c : List Int × List Int) (h : Heap) : Prop :=
  ∃ u us ws n1 n2, Fr g L h (fun y => if y = Str.ofString "symbol" then u else m₀ y) ∧ News g L h ((Dp, listOf us.toArray n1) :: (D, listOf (List.toArray ws) n2) :: (R, listOf vs.toArray nR) :: pairLed C) ∧
    IntsAre us c.2 ∧ IntsAre ws c.1.reverse ∧ (∀ k ∈ c.1, SymOk k) ∧ c.2 ++ c.1.flatMap Y = want ∧ c.2.length + wSum W c.1 ≤ 900
theorem partI.mk {C : PA} {Y : Int → List Int} {W : Int → Nat} {g : Heap} {L R nR D Dp : Nat} {vs : List Value} {m₀ : Str → Option Value} {want : List Int} {c : List Int × List Int} {h : Heap} {u : Option Value} {us : List Value} {ws : List Value} {n1 : Nat} {n2 : Nat} (k0 : Fr g L h (fun y => if y = Str.ofString "symbol" then u else m₀ y)) (k1 : News g L h ((Dp, listOf us.toArray n1) :: (D, listOf (List.toArray ws) n2) :: (R, listOf vs.toArray nR) :: pairLed C)) (k2 : IntsAre us c.2) (k3 : IntsAre ws c.1.reverse) (k4 : (∀ k ∈ c.1, SymOk k)) (k5 : c.2 ++ c.1.flatMap Y = want) (k6 : c.2.length + wSum W c.1 ≤ 900) : partI C Y W g L R nR D Dp vs m₀ want c h := ⟨u, us, ws, n1, n2, k0, k1, k2, k3, k4, k5, k6⟩
theorem parted_spec {w : World} {loose : List Str} {mean : ExcName → Option Value} {mg mb : Str → Option Value} {C : PA} {h : Heap} {R nR : Nat} {vs : List Value} {ns : List Int} {Y : Int → List Int} {W : Int → Nat} (PN : PairsN C) (PL : PairsAt C h) (hY : Yields C Y W)
    (hR : h.get? R = some (listOf vs.toArray nR)) (hi : IntsAre vs ns) (hns : ∀ k ∈ ns, SymOk k) (hw : wSum W ns ≤ 900) :
    Spec w loose mean mg mb (.call (.ref 142) ⟨[.ref R, .ref C.P], []⟩) 5 80 [] [R, C.P, C.p0, C.p1, C.p2, C.p3] h
      (fun v h' => ∃ D us nD, v = .ref D ∧ h.objs.size ≤ D ∧ h'.get? D = some (listOf us.toArray nD) ∧ IntsAre us (ns.flatMap Y)) := by
  unfold Spec
  k_fill
  intro dp un gd base outer h₀ s Rr hs B X T k hmf hroom hunits hret
  subst hs
  unfold PairsN at PN
  have hvl : vs.length ≤ 900 := by have := hi.length; have := wSum_len hY.pos ns; omega
  have hnl : ns.length ≤ 900 := by have := hi.length; omega
  (refine' enter (news := ?news) ?k1 ?k2 ?k3 ?k4 ?kn ?kf ?k6 ?k7 ?k8 ?k9 ?kB ?_ ?c5 ?c2 ?c3 ?c4; (case k1 => assumption); (case k2 => assumption); (case k3 => assumption); (case k4 => assumption); (case k6 => k_is); (case k7 => k_is); (case k8 => (first | exact offU1 (by assumption) | (dsimp only [around]; omega))); (case k9 => exact BindsTo.of_eq rfl); (case c5 => decide); (case kB => exact locs rfl); (case c2 => exact rfl); (case c3 => exact rfl); (case c4 => exact rfl))
  case news => exact (R, listOf vs.toArray nR) :: pairLed C
  case kn => exact List.forall_mem_cons.mpr ⟨hR, PL⟩
  case kf => exact hmf
  intro g L' h₁ F N B' X' T' hlt hK hL
  k_lt hlt
  clear B X T
  unfold pairLed at N
  (try dsimp only)
  show wpAny _ _ _ _ _ _
  k_fold
  (repeat' (first | (k_unfold; (try dsimp only)) | (dsimp only; k_unfold; try dsimp only) | (k_end; wrow_close) | walk1 | (dsimp only; walk1) | (leave1; (try dsimp only)) | fail "no step"))
  unfold Halt
  (rename Fr _ _ _ _ => F2); (rename News _ _ _ _ => N2)
  refine while_run (σ := List Int × List Int) (partI C Y W g L' R nR _ _ vs _ (ns.flatMap Y)) (fun c => wSum W c.1) (ns, []) ?hE ?turn ⟨_, [], _, _, _, frSelf _ F2, N2, .nil, by assumption, hns, rfl, by simp; exact hw⟩
  case hE => first | passes_own | with_unfolding_all passes_own
  clear F2 N2
  rintro ⟨st, acc⟩ h tk hI
  refine hideG fun PP kP => ?_
  obtain ⟨u, us, ws, n1, n2, F, N, hiu, hiw, hst, hwant, hbd⟩ := hI
  refine kP ?_
  clear kP PP
  unfold pairLed at N
  dsimp only at F N hiu hiw hst hwant hbd
  have hul : us.length ≤ 900 := by have := hiu.length; omega
  have hwl : ws.length ≤ 900 := by have := hiw.length; have := wSum_len hY.pos st; rw [List.length_reverse] at *; omega
  cases st with
  | nil =>
    have ew : ws = [] := by cases hiw; rfl
    subst ew
    (repeat' (first | (k_unfold; (try dsimp only)) | (dsimp only; k_unfold; try dsimp only) | (k_end; wrow_close) | walk1 | (dsimp only; walk1) | (leave1; (try dsimp only)) | fail "no step"))
    (rename Fr _ _ _ _ => F5); (rename News _ _ _ _ => N5)
    refine hret _ _ _ (Keeps.narrow (hK _ (Fr.keep F5)) ?k1) ⟨_, us, n1, rfl, Nat.le_trans hL (Nat.le_of_lt (by assumption)), newsAt N5 1 rfl, ?k2⟩
    case k1 => exact List.forall_mem_cons.mpr ⟨.inr ⟨_, hR, newsAt N5 3 rfl⟩, List.forall_mem_cons.mpr ⟨.inr ⟨_, PL _ (.head _), newsAt N5 4 rfl⟩, List.forall_mem_cons.mpr ⟨.inr ⟨_, PL _ (.tail _ (.head _)), newsAt N5 5 rfl⟩, List.forall_mem_cons.mpr ⟨.inr ⟨_, PL _ (.tail _ (.tail _ (.head _))), newsAt N5 6 rfl⟩, List.forall_mem_cons.mpr ⟨.inr ⟨_, PL _ (.tail _ (.tail _ (.tail _ (.head _)))), newsAt N5 7 rfl⟩, List.forall_mem_cons.mpr ⟨.inr ⟨_, PL _ (.tail _ (.tail _ (.tail _ (.tail _ (.head _))))), newsAt N5 8 rfl⟩, List.forall_mem_nil _⟩⟩⟩⟩⟩⟩
    case k2 => rw [← hwant]; simp only [List.flatMap_nil, List.append_nil]; exact hiu
  | cons x st =>
    have ew := last_of hiw
    obtain ⟨ws', t', ew, hiw'⟩ := ew
    subst ew
    have hx := hst x (.head _)
    have hwl' : ws'.length ≤ 1000 := by rw [List.length_append] at hwl; omega
    unfold SymOk at hx
    have hc : x < 256 ∨ 256 ≤ x := Int.lt_or_le x 256
    rcases hc with hc | hc
    · (repeat' (first | (k_unfold; (try dsimp only)) | (dsimp only; k_unfold; try dsimp only) | (k_end; wrow_close) | walk1 | (dsimp only; walk1) | (leave1; (try dsimp only)) | fail "no step"))
      (rename Fr _ _ _ _ => F5); (rename News _ _ _ _ => N5)
      simp only [List.push_toArray] at N5
      have yx := hY.term x hx.1 hc
      have wx := hY.pos x
      refine LoopPost.mk (st, acc ++ [x]) ?k1 (partI.mk (us := us ++ [.int x t']) (ws := ws') (frSet1 F5) (fun p hp => N5 p (.tail _ hp)) (ints_snoc hiu x _) hiw' (fun k hk => hst k (.tail _ hk)) ?k4 ?k5)
      case k1 => simp only [wSum]; omega
      case k4 => rw [← hwant]; simp only [List.flatMap_cons, yx, List.append_assoc]
      case k5 => simp only [wSum, List.length_append, List.length_singleton] at hbd ⊢; omega
    · obtain ⟨i, hpi, ⟨ta, tb, n', hmem⟩, y0, w0, hl, hr⟩ := pair_y hY hc hx.2
      (repeat' (first | (k_unfold; (try dsimp only)) | (dsimp only; k_unfold; try dsimp only) | (k_end; wrow_close) | walk1 | (dsimp only; walk1) | (leave1; (try dsimp only)) | fail "no step"))
      unfold Halt
      (rename News _ _ _ _ => N6)
      refine item_listT (isListOf (by first | exact newsAt N6 3 rfl | exact newsAt N6 4 rfl)) (by omega) (by omega) hpi ?_
      (repeat' (first | (k_unfold; (try dsimp only)) | (dsimp only; k_unfold; try dsimp only) | (k_end; wrow_close) | walk1 | (dsimp only; walk1) | (leave1; (try dsimp only)) | fail "no step"))
      unfold Halt
      refine item_listT (isListOf (by first | exact (N6 _ (.tail _ (.tail _ (.tail _ hmem)))).1 | exact (N6 _ (.tail _ (.tail _ (.tail _ (.tail _ hmem))))).1)) (by decide) (by decide) rfl ?_
      (repeat' (first | (k_unfold; (try dsimp only)) | (dsimp only; k_unfold; try dsimp only) | (k_end; wrow_close) | walk1 | (dsimp only; walk1) | (leave1; (try dsimp only)) | fail "no step"))
      unfold Halt
      (rename News _ _ _ _ => N7)
      refine item_listT (isListOf (by first | exact newsAt N7 3 rfl | exact newsAt N7 4 rfl)) (by omega) (by omega) hpi ?_
      (repeat' (first | (k_unfold; (try dsimp only)) | (dsimp only; k_unfold; try dsimp only) | (k_end; wrow_close) | walk1 | (dsimp only; walk1) | (leave1; (try dsimp only)) | fail "no step"))
      unfold Halt
      refine item_listT (isListOf (by first | exact (N7 _ (.tail _ (.tail _ (.tail _ hmem)))).1 | exact (N7 _ (.tail _ (.tail _ (.tail _ (.tail _ hmem))))).1)) (by decide) (by decide) rfl ?_
      (repeat' (first | (k_unfold; (try dsimp only)) | (dsimp only; k_unfold; try dsimp only) | (k_end; wrow_close) | walk1 | (dsimp only; walk1) | (leave1; (try dsimp only)) | fail "no step"))
      (rename Fr _ _ _ _ => F5); (rename News _ _ _ _ => N5)
      simp only [List.push_toArray] at N5
      refine LoopPost.mk (lA C i :: rA C i :: st, acc) ?k1 (partI.mk (us := us) (ws := (ws' ++ [.int (rA C i) tb]) ++ [.int (lA C i) ta]) (frSet1 F5) (fun p hp => N5 p (.tail _ hp)) hiu ?k2 ?k3 ?k4 ?k5)
      case k1 => simp only [wSum]; omega
      case k2 => rw [List.reverse_cons, List.reverse_cons]; exact ints_snoc (ints_snoc hiw' _ _) _ _
      case k3 => exact List.forall_mem_cons.mpr ⟨hl, List.forall_mem_cons.mpr ⟨hr, fun k hk => hst k (.tail _ hk)⟩⟩
      case k4 => rw [← hwant]; simp only [List.flatMap_cons, y0, List.append_assoc]
      case k5 => simp only [wSum] at hbd ⊢; omega
end
open PySem.SeqAt PySem.MeetsSeq
noncomputable def prF (C : PA) : Nat → List Int
  | 0 => [C.l0, C.r0]
  | 1 => [C.l1, C.r1]
  | 2 => [C.l2, C.r2]
  | _ => [C.l3, C.r3]
noncomputable def ruleOf (C : PA) (s : List Int) : Option Nat :=
  if prF C 0 = s then some 0 else if prF C 1 = s then some 1 else if prF C 2 = s then some 2 else if prF C 3 = s then some 3 else none
theorem eqPairAt {A : Around} {s : Shared} {p D : Addr} {l r x0 x1 : Int} {a b t0 t1 : Tok} {n m : Nat} (hne : p ≠ D) (hp : s.heap.get? p = some (listOf #[.int l a, .int r b] n)) (hD : s.heap.get? D = some (listOf #[.int x0 t0, .int x1 t1] m)) (hu : A.units < cLine) :
    EqAt A s (.ref p) (.ref D) (decide ([l, r] = [x0, x1])) := by
  have e : (List.range (#[Value.int l a, Value.int r b] : Array Value).size).all (fun j => if j = 0 then l == x0 else r == x1) = decide ([l, r] = [x0, x1]) := by
    have e0 : (#[Value.int l a, Value.int r b] : Array Value).size = 2 := rfl
    rw [e0]
    have e1 : List.range 2 = [0, 1] := rfl
    rw [e1]
    by_cases h1 : l = x0 <;> by_cases h2 : r = x1 <;> simp [h1, h2]
  refine EqAt.of_refs hne ?_
  rw [← e]
  refine RcAt.lists (isListOf hp) (isListOf hD) rfl hu ?_
  intro j h1 h2
  have hj : j = 0 ∨ j = 1 := by
    have : j < 2 := h1
    omega
  rcases hj with rfl | rfl
  · exact (EqGives.int l x0 a t0).at _ _
  · exact (EqGives.int r x1 b t1).at _ _
noncomputable def eP (C : PA) (x : List Int) : Value → Bool
  | .ref a => if a = C.p0 then decide (prF C 0 = x) else if a = C.p1 then decide (prF C 1 = x) else if a = C.p2 then decide (prF C 2 = x) else decide (prF C 3 = x)
  | _ => false
theorem two_of {ws : List Value} {x : List Int} (hx : IntsAre ws x) (h2 : x.length = 2) : ∃ x0 x1 t0 t1, x = [x0, x1] ∧ ws = [.int x0 t0, .int x1 t1] := by
  cases hx with
  | nil => simp at h2
  | cons a t h =>
    cases h with
    | nil => simp at h2
    | cons b u h =>
      cases h with
      | nil => exact ⟨_, _, _, _, rfl, rfl⟩
      | cons _ _ _ => simp at h2
theorem eP_at {A : Around} {s : Shared} {C : PA} {D : Addr} {ws : List Value} {x : List Int} {n : Nat} (PN : PairsN C) (PL : PairsAt C s.heap) (hD : s.heap.get? D = some (listOf ws.toArray n)) (hx : IntsAre ws x) (h2 : x.length = 2) (hne : C.p3 < D) (hu : A.units < cLine) :
    ∀ y, y ∈ (#[.ref C.p0, .ref C.p1, .ref C.p2, .ref C.p3] : Array Value) → EqAt A s y (.ref D) (eP C x y) := by
  obtain ⟨x0, x1, t0, t1, rfl, rfl⟩ := two_of hx h2
  unfold PairsN at PN
  have q0 : C.p0 ≠ C.p1 := Nat.ne_of_lt (by omega)
  have q1 : C.p0 ≠ C.p2 := Nat.ne_of_lt (by omega)
  have q2 : C.p0 ≠ C.p3 := Nat.ne_of_lt (by omega)
  have q3 : C.p1 ≠ C.p2 := Nat.ne_of_lt (by omega)
  have q4 : C.p1 ≠ C.p3 := Nat.ne_of_lt (by omega)
  have q5 : C.p2 ≠ C.p3 := Nat.ne_of_lt (by omega)
  have d0 : C.p0 ≠ D := Nat.ne_of_lt (by omega)
  have d1 : C.p1 ≠ D := Nat.ne_of_lt (by omega)
  have d2 : C.p2 ≠ D := Nat.ne_of_lt (by omega)
  have d3 : C.p3 ≠ D := Nat.ne_of_lt (by omega)
  intro y hy
  have hy' : y = .ref C.p0 ∨ y = .ref C.p1 ∨ y = .ref C.p2 ∨ y = .ref C.p3 := by simpa using hy
  rcases hy' with rfl | rfl | rfl | rfl
  · have e : eP C [x0, x1] (.ref C.p0) = decide (prF C 0 = [x0, x1]) := by simp [eP]
    rw [e]; exact eqPairAt d0 (PL _ (.tail _ (.head _))) hD hu
  · have e : eP C [x0, x1] (.ref C.p1) = decide (prF C 1 = [x0, x1]) := by simp [eP, Ne.symm q0]
    rw [e]; exact eqPairAt d1 (PL _ (.tail _ (.tail _ (.head _)))) hD hu
  · have e : eP C [x0, x1] (.ref C.p2) = decide (prF C 2 = [x0, x1]) := by simp [eP, Ne.symm q1, Ne.symm q3]
    rw [e]; exact eqPairAt d2 (PL _ (.tail _ (.tail _ (.tail _ (.head _))))) hD hu
  · have e : eP C [x0, x1] (.ref C.p3) = decide (prF C 3 = [x0, x1]) := by simp [eP, Ne.symm q2, Ne.symm q4, Ne.symm q5]
    rw [e]; exact eqPairAt d3 (PL _ (.tail _ (.tail _ (.tail _ (.tail _ (.head _)))))) hD hu
theorem eP_any {C : PA} (PN : PairsN C) (x : List Int) : (#[.ref C.p0, .ref C.p1, .ref C.p2, .ref C.p3] : Array Value).any (eP C x) = (ruleOf C x).isSome := by
  unfold PairsN at PN
  have q0 : C.p1 ≠ C.p0 := Nat.ne_of_gt (by omega)
  have q1 : C.p2 ≠ C.p0 := Nat.ne_of_gt (by omega)
  have q2 : C.p3 ≠ C.p0 := Nat.ne_of_gt (by omega)
  have q3 : C.p2 ≠ C.p1 := Nat.ne_of_gt (by omega)
  have q4 : C.p3 ≠ C.p1 := Nat.ne_of_gt (by omega)
  have q5 : C.p3 ≠ C.p2 := Nat.ne_of_gt (by omega)
  unfold ruleOf
  by_cases h0 : prF C 0 = x <;> by_cases h1 : prF C 1 = x <;> by_cases h2 : prF C 2 = x <;> by_cases h3 : prF C 3 = x <;> simp [eP, h0, h1, h2, h3, q0, q1, q2, q3, q4, q5]
theorem in_pairs {prog : Program} {w : World} {A : Around} {E : Value → Shared → Prop} {s : Shared} {Q : Value → Shared → Prop} {C : PA} {D : Addr} {ws : List Value} {x : List Int} {n : Nat} (PN : PairsN C) (PL : PairsAt C s.heap) (hD : s.heap.get? D = some (listOf ws.toArray n)) (hx : IntsAre ws x) (h2 : x.length = 2) (hne : C.p3 < D) (hu : A.in1.units < cLine)
    (h : Q (.bool (ruleOf C x).isSome) s) : wpAny (model prog w) A (compareOp .In (.ref D) (.ref C.P)) Q E s :=
  in_listAt (eP C x) (isListOf (PL _ (.head _))) (eP_at PN PL hD hx h2 hne hu) (by rw [eP_any PN]; exact h)
theorem index_pairs {prog : Program} {w : World} {A : Around} {E : Value → Shared → Prop} {s : Shared} {Q : Value → Shared → Prop} {C : PA} {D : Addr} {ws : List Value} {x : List Int} {n r : Nat} (PN : PairsN C) (PL : PairsAt C s.heap) (hD : s.heap.get? D = some (listOf ws.toArray n)) (hx : IntsAre ws x) (h2 : x.length = 2) (hne : C.p3 < D) (hu : A.in1.units < cLine)
    (hr : ruleOf C x = some r) (h : Q (.int (r : Int) s.toks) { s with toks := s.toks + 1 }) : wpAny (model prog w) A (call (.builtin "list.index") [.ref C.P, .ref D]) Q E s := by
  have hP := PL _ (List.Mem.head _)
  have PN' := PN
  unfold PairsN at PN
  have q0 : C.p1 ≠ C.p0 := Nat.ne_of_gt (by omega)
  have q1 : C.p2 ≠ C.p0 := Nat.ne_of_gt (by omega)
  have q2 : C.p3 ≠ C.p0 := Nat.ne_of_gt (by omega)
  have q3 : C.p2 ≠ C.p1 := Nat.ne_of_gt (by omega)
  have q4 : C.p3 ≠ C.p1 := Nat.ne_of_gt (by omega)
  have q5 : C.p3 ≠ C.p2 := Nat.ne_of_gt (by omega)
  have v0 : eP C x (.ref C.p0) = decide (prF C 0 = x) := by simp [eP]
  have v1 : eP C x (.ref C.p1) = decide (prF C 1 = x) := by simp [eP, q0]
  have v2 : eP C x (.ref C.p2) = decide (prF C 2 = x) := by simp [eP, q1, q3]
  have v3 : eP C x (.ref C.p3) = decide (prF C 3 = x) := by simp [eP, q2, q4, q5]
  have key : ∃ hr4 : r < 4, eP C x (#[.ref C.p0, .ref C.p1, .ref C.p2, .ref C.p3] : Array Value)[r] = true ∧ ∀ m (hm : m < 4), m < r → eP C x (#[.ref C.p0, .ref C.p1, .ref C.p2, .ref C.p3] : Array Value)[m] = false := by
    unfold ruleOf at hr
    split at hr
    · cases hr; exact ⟨by decide, by simp [v0, *], fun m _ hm => by omega⟩
    · split at hr
      · cases hr
        refine ⟨by decide, by simp [v1, *], fun m _ hm => ?_⟩
        have : m = 0 := by omega
        subst this
        simp [v0, *]
      · split at hr
        · cases hr
          refine ⟨by decide, by simp [v2, *], fun m _ hm => ?_⟩
          have : m = 0 ∨ m = 1 := by omega
          rcases this with rfl | rfl
          · simp [v0, *]
          · simp [v1, *]
        · split at hr
          · cases hr
            refine ⟨by decide, by simp [v3, *], fun m _ hm => ?_⟩
            have : m = 0 ∨ m = 1 ∨ m = 2 := by omega
            rcases this with rfl | rfl | rfl
            · simp [v0, *]
            · simp [v1, *]
            · simp [v2, *]
          · cases hr
  obtain ⟨hr4, k1, k2⟩ := key
  exact call_meets PySem.F.slot_list_index ⟨_, hP, rfl⟩ PySem.F.entry_list_index (PySem.F.args_list_index_2 _ _)
    (list_indexAt C.P #[.ref C.p0, .ref C.p1, .ref C.p2, .ref C.p3] _ _ _ (.ref D) (eP C x) r hr4 (by omega) k1 k2) ⟨hP, eP_at PN' PL hD hx h2 hne hu, h⟩
noncomputable abbrev tupO (r k : Int) (t1 t2 : Tok) (n : Nat) : Obj := { cls := .type "tuple", data := .seq #[.int r t1, .int k t2] n }
noncomputable def ltP (r k r' k' : Int) : Bool := decide (r < r' ∨ (r = r' ∧ k < k'))
theorem lt_int {prog : Program} {w : World} {A : Around} {E : Value → Shared → Prop} {s : Shared} {Q : Value → Shared → Prop} {a b : Int} {t u : Tok} (h : Q (.bool (decide (a < b))) s) : wpAny (model prog w) A (richCompare .Lt (.int a t) (.int b u)) Q E s :=
  richCompare_gives (op := .Lt) (typeIs_int s _ t) (typeIs_int s _ u) PySem.F.slot_int_lt PySem.F.entry_int_lt (PySem.F.args_int_lt_2 _ _) (gives_int_lt _ _ t u) (fun x => nomatch x) h
theorem tup_ltAt (l b : Addr) (r k r' k' : Int) (t1 t2 t1' t2' : Tok) (n n' : Nat) : Meets (Builtin.«tuple.__lt__» ⟨[.ref l, .ref b], []⟩)
    (fun _ R s => s.heap.get? l = some (tupO r k t1 t2 n) ∧ s.heap.get? b = some (tupO r' k' t1' t2' n') ∧ R (.ok (.ret (.bool (ltP r k r' k')))) s) :=
  .of_wp fun prog w A R s h => by
    obtain ⟨hp, g, d, tk, os⟩ := s; obtain ⟨hl, hb, h⟩ := h
    have f2 := AutoSeq1.sub_tuple_tuple
    wp_walk using AutoSeq1.wpAny_loadPart' hl, AutoSeq1.wpAny_loadPart' hb, wpAny_eqBool_int, lt_int
    by_cases h1 : r = r'
    · subst h1
      rw [if_neg (by simp)]
      wp_walk using wpAny_eqBool_int, lt_int
      by_cases h2 : k = k'
      · subst h2
        rw [if_neg (by simp)]
        wp_walk
        exact ⟨_, rfl, by simpa [ltP, Builtin.Tuple.tupleCompareSizes] using h⟩
      · rw [if_pos (by simpa using h2)]
        wp_walk using lt_int
        exact ⟨_, rfl, by simpa [ltP] using h⟩
    · rw [if_pos (by simpa using h1)]
      wp_walk using lt_int
      exact ⟨_, rfl, by simpa [ltP, h1] using h⟩
theorem isTupO {h : Heap} {a : Addr} {r k : Int} {t1 t2 : Tok} {n : Nat} (e : h.get? a = some (tupO r k t1 t2 n)) : h.IsTuple a #[.int r t1, .int k t2] := ⟨_, e, rfl, n, rfl⟩
theorem tup_lt {prog : Program} {w : World} {A : Around} {E : Value → Shared → Prop} {s : Shared} {Q : Value → Shared → Prop} {l b : Addr} {r k r' k' : Int} {t1 t2 t1' t2' : Tok} {n n' : Nat} (hl : s.heap.get? l = some (tupO r k t1 t2 n)) (hb : s.heap.get? b = some (tupO r' k' t1' t2' n')) (hu : A.units < cLine)
    (h : Q (.bool (ltP r k r' k')) s) : wpAny (model prog w) A (richCompare .Lt (.ref l) (.ref b)) Q E s :=
  richCompare_meets_room (op := .Lt) ⟨_, hl, rfl⟩ ⟨_, hb, rfl⟩ PySem.F.slot_tuple_lt PySem.F.entry_tuple_lt (PySem.F.args_tuple_lt_2 _ _) (tup_ltAt l b r k r' k' t1 t2 t1' t2' n n') ⟨hl, hb, show Value.bool (ltP r k r' k') ≠ Value.notImplemented ∧ Q (.bool (ltP r k r' k')) s from ⟨(fun x => nomatch x), h⟩⟩ hu
noncomputable def notLt (val : Nat → Int × Int) (j i : Nat) : Prop := ltP (val j).1 (val j).2 (val i).1 (val i).2 = false
theorem notLt_trans {val : Nat → Int × Int} {j i b : Nat} (h1 : notLt val j i) (h2 : ltP (val b).1 (val b).2 (val i).1 (val i).2 = true) : notLt val j b := by
  simp only [notLt, ltP, decide_eq_true_eq, decide_eq_false_iff_not] at h1 h2 ⊢
  omega
theorem notLt_self {val : Nat → Int × Int} {j : Nat} : notLt val j j := by
  simp only [notLt, ltP, decide_eq_false_iff_not]
  omega
section
variable {prog : Program} {w : World} {A : Around} {R : Result → Shared → Prop}
theorem mt_loop {base : Heap} {D I S : Addr} {vs : List Value} (val : Nat → Int × Int) (hh : A.handled = none) (hu : A.in1.units < cLine)
    (hD : base.IsList D vs.toArray) (hDI : D ≠ I) (hI : base.get? I = none) (hS : base.get? S = none) (hIS : I ≠ S)
    (ht : ∀ i v, vs[i]? = some v → ∃ T t1 t2 n, v = .ref T ∧ base.get? T = some (tupO (val i).1 (val i).2 t1 t2 n)) :
    ∀ (k j i : Nat) (s : Shared) (vb : Value) (c : Nat), vs.length - (j + 1) = k → j + 1 ≤ vs.length → (∀ b o, base.get? b = some o → s.heap.get? b = some o) → s.heap.IsListIter I D (j + 1) →
      s.heap.get? S = some (listOf #[vb, vb] c) → vs[i]? = some vb → i ≤ j → (∀ j', j' ≤ j → notLt val j' i) →
      (∀ i v h' tk, vs[i]? = some v → (∀ j, j < vs.length → notLt val j i) → (∀ b o, base.get? b = some o → h'.get? b = some o) → R (.ok (.ret v)) { s with heap := h', toks := tk }) →
      codeAny (model prog w) A (.builtin "min.loop" ⟨[.ref I, .none, .ref S], []⟩) R s := by
  have hname : (toString "min" ++ toString ".loop" : String) = "min.loop" := by decide
  have W := Walks.list (prog := prog) (w := w) (A := A.in1) hh I D hDI vs.toArray
  have hsz : vs.toArray.size = vs.length := List.size_toArray ..
  have neI : ∀ b o, base.get? b = some o → b ∉ [I] := fun b o e q => by
    rw [List.mem_singleton.mp q, hI] at e; cases e
  have neS : ∀ b o, base.get? b = some o → S ≠ b := fun b o e q => by
    rw [← q, hS] at e; cases e
  intro k
  induction k with
  | zero =>
    intro j i s vb c hk hj hkeep hit hSv hvb hij hbest hR
    have hin : j + 1 = vs.length := by omega
    refine codeAny_builtin PySem.F.entry_min_loop ?_
    rw [Around.under_plainId PySem.F.plain_min_loop _]
    show wpAny _ A.in1 (seqItems? (.ref S) >>= _) _ _ s
    refine wpAny_bind (wpAny_seqItems hSv rfl ?_)
    show wpAny _ A.in1 (tryCatch (pyNext (.ref I)) _ >>= _) _ _ s
    refine wpAny_bind (wpAny_tryCatch (W.done s _ _ ⟨by rw [hsz, ← hin]; exact hit, hD.at fun o e => hkeep D o e⟩ fun h' tk hk' => ?_))
    have hS' := hk' S _ (fun q => hIS (List.mem_singleton.mp q).symm) hSv
    show wpAny _ A.in1 (updateSeq S (fun _ => #[]) >>= _) _ _ _
    refine wpAny_bind ?_
    refine wpAny_updateSeq hS' rfl (wpAny_bind (wpAny_letGo (wpAny_pure ?_)))
    exact hR i vb _ tk hvb (fun j' hj' => hbest j' (by omega)) fun b o e => (Heap.get?_update_other _ _ (neS b o e)).trans (hk' b o (neI b o e) (hkeep b o e))
  | succ k ih =>
    intro j i s vb c hk hj hkeep hit hSv hvb hij hbest hR
    have hlt : j + 1 < vs.length := by omega
    refine codeAny_builtin PySem.F.entry_min_loop ?_
    rw [Around.under_plainId PySem.F.plain_min_loop _]
    show wpAny _ A.in1 (seqItems? (.ref S) >>= _) _ _ s
    refine wpAny_bind (wpAny_seqItems hSv rfl ?_)
    show wpAny _ A.in1 (tryCatch (pyNext (.ref I)) _ >>= _) _ _ s
    refine wpAny_bind (wpAny_tryCatch (W.item (j + 1) s _ _ (by rw [hsz]; exact hlt) ⟨hit, hD.at fun o e => hkeep D o e⟩ fun v h' tk hP hst' hk' => ?_))
    have hv : vs[j + 1]? = some v := by simpa using hP
    have hkeep' : ∀ b o, base.get? b = some o → h'.get? b = some o := fun b o e => hk' b o (neI b o e) (hkeep b o e)
    have hS' := hk' S _ (fun q => hIS (List.mem_singleton.mp q).symm) hSv
    obtain ⟨T, t1, t2, n, ev, hT⟩ := ht _ _ hv
    obtain ⟨T', t1', t2', n', ev', hT'⟩ := ht _ _ hvb
    subst ev ev'
    show wpAny _ A.in1 (tryCatch (holding [_, _] (richCompare .Lt (.ref T) (.ref T') >>= _)) _ >>= _) _ _ _
    refine wpAny_bind (wpAny_tryCatch (wpAny_holding (wpAny_bind (tup_lt (hkeep' _ _ hT) (hkeep' _ _ hT') hu ?_))))
    refine wpAny_bind (wpAny_holding (wpAny_truthy_bool ?_))
    refine wpAny_bind (wpAny_letGo (wpAny_pure ?_))
    cases hb : ltP (val (j + 1)).1 (val (j + 1)).2 (val i).1 (val i).2 with
    | true =>
      simp only [if_true]
      refine wpAny_bind ?_
      refine wpAny_updateSeq hS' rfl (wpAny_bind (wpAny_letGo ?_))
      rw [hname]
      refine wpAny_pure ⟨plainId_quiet PySem.F.plain_min_loop _, ih (j + 1) (j + 1) _ (.ref T) _ (by omega) hlt (fun b o e => (Heap.get?_update_other _ _ (neS b o e)).trans (hkeep' b o e)) (hst'.1.at fun o e => (Heap.get?_update_other _ _ hIS.symm).trans e)
        (Heap.get?_update_self _ hS' rfl) hv (Nat.le_refl _) (fun j' hj' => ?_) hR⟩
      by_cases e : j' = j + 1
      · subst e; exact notLt_self
      · exact notLt_trans (hbest j' (by omega)) hb
    | false =>
      simp only [Bool.false_eq_true, if_false]
      refine wpAny_bind (wpAny_letGo ?_)
      rw [hname]
      refine wpAny_pure ⟨plainId_quiet PySem.F.plain_min_loop _, ih (j + 1) i _ (.ref T') c (by omega) hlt hkeep' hst'.1 hS' hvb (by omega) (fun j' hj' => ?_) hR⟩
      by_cases e : j' = j + 1
      · subst e; exact hb
      · exact hbest j' (by omega)
end
section
variable {prog : Program} {w : World} {A : Around} {E : Value → Shared → Prop} {s : Shared} {Q : Value → Shared → Prop}
theorem min_tups {D : Addr} {vs : List Value} (val : Nat → Int × Int) (hh : A.handled = none) (hu : A.in1.units < cLine) (hD : s.heap.IsList D vs.toArray)
    (ht : ∀ i v, vs[i]? = some v → ∃ T t1 t2 n, v = .ref T ∧ s.heap.get? T = some (tupO (val i).1 (val i).2 t1 t2 n)) (hne : 0 < vs.length)
    (h : ∀ i v h' tk, vs[i]? = some v → (∀ j, j < vs.length → notLt val j i) → (∀ b o, s.heap.get? b = some o → h'.get? b = some o) → Q v { s with heap := h', toks := tk }) :
    wpAny (model prog w) A (call (.builtin "min") [.ref D]) Q E s := by
  have hname : (toString "min" ++ toString ".loop" : String) = "min.loop" := by decide
  refine PySem.call_function_tree PySem.F.kind_min PySem.F.plain_min PySem.F.entry_min (PySem.F.args_min1 _) ?_
  show wpAny _ A.in1 (Builtin.Builtins.bindParams "min" ["key", "default"] 0 ⟨[], []⟩ >>= _) _ _ s
  refine wpAny_bind (wpAny_of_eq (show Builtin.Builtins.bindParams "min" ["key", "default"] 0 ⟨[], []⟩ = pure [none, none] from rfl) ?_)
  refine wpAny_bind (wpAny_pure ?_)
  refine wpAny_bind (wpAny_pyIter_list hD ?_)
  refine wpAny_bind (wpAny_newObj_type ?_)
  rw [hname]
  have hDlt : D < s.heap.objs.size := by obtain ⟨_, e, _⟩ := hD; exact Heap.lt_size e
  have gone : ∀ a, s.heap.objs.size ≤ a → s.heap.get? a = none := fun a ha => by
    cases e : s.heap.get? a with
    | none => rfl
    | some o => exact absurd (Heap.lt_size e) (Nat.not_lt.mpr ha)
  generalize hH : s.heap.push { cls := .type "list_iterator", data := .fields #[.ref D, .int 0 0] } = H
  have hHs : H.objs.size = s.heap.objs.size + 1 := by rw [← hH, Heap.size_push]
  have up : ∀ b o, s.heap.get? b = some o → (H.push (listOf #[] 0)).get? b = some o := fun b o e => Heap.get?_push_of_some _ (hH ▸ Heap.get?_push_of_some _ e)
  have hIS : s.heap.objs.size ≠ H.objs.size := by rw [hHs]; exact Nat.ne_of_lt (Nat.lt_succ_self _)
  have hI0 := gone s.heap.objs.size (Nat.le_refl _)
  have hS0 := gone H.objs.size (by rw [hHs]; exact Nat.le_succ _)
  have hDI : D ≠ s.heap.objs.size := Nat.ne_of_lt hDlt
  have hS : (H.push (listOf #[] 0)).get? H.objs.size = some (listOf #[] 0) := Heap.get?_push_size _ rfl
  have hit : (H.push (listOf #[] 0)).IsListIter s.heap.objs.size D 0 := ⟨_, Heap.get?_push_of_some _ (hH ▸ Heap.get?_push_size _ rfl), rfl, rfl⟩
  have W := Walks.list (prog := prog) (w := w) (A := A.in1) hh s.heap.objs.size D hDI vs.toArray
  have hsz : vs.toArray.size = vs.length := List.size_toArray ..
  refine wpAny_pure ⟨plainId_quiet PySem.F.plain_min_loop _, ?_⟩
  refine codeAny_builtin PySem.F.entry_min_loop ?_
  rw [Around.under_plainId PySem.F.plain_min_loop _]
  show wpAny _ A.in1 (seqItems? (.ref H.objs.size) >>= _) _ _ _
  refine wpAny_bind (wpAny_seqItems hS rfl ?_)
  show wpAny _ A.in1 (tryCatch (pyNext (.ref s.heap.objs.size)) _ >>= _) _ _ _
  refine wpAny_bind (wpAny_tryCatch (W.item 0 _ _ _ (by rw [hsz]; exact hne) ⟨hit, hD.at fun o e => up D o e⟩ fun v h' tk hP hst' hk' => ?_))
  have hv : vs[0]? = some v := by simpa using hP
  have hS' := hk' H.objs.size _ (fun q => hIS (List.mem_singleton.mp q).symm) hS
  have keep : ∀ b o, s.heap.get? b = some o → h'.get? b = some o := fun b o e => hk' b o (fun q => by rw [List.mem_singleton.mp q, hI0] at e; cases e) (up b o e)
  have neS : ∀ b o, s.heap.get? b = some o → H.objs.size ≠ b := fun b o e q => by rw [← q, hS0] at e; cases e
  show wpAny _ A.in1 (updateSeq H.objs.size (fun _ => #[v, v]) >>= _) _ _ _
  refine wpAny_bind ?_
  refine wpAny_updateSeq hS' rfl ?_
  rw [hname]
  refine wpAny_pure ⟨plainId_quiet PySem.F.plain_min_loop _, mt_loop (base := s.heap) (D := D) (I := s.heap.objs.size) (S := H.objs.size) val hh hu hD hDI hI0 hS0 hIS ht _ 0 0 _ v _ rfl hne (fun b o e => (Heap.get?_update_other _ _ (neS b o e)).trans (keep b o e))
    (hst'.1.at fun o e => (Heap.get?_update_other _ _ hIS.symm).trans e) (Heap.get?_update_self _ hS' rfl) hv (Nat.le_refl _) (fun j' hj' => ?_) ?_⟩
  · have : j' = 0 := by omega
    subst this; exact notLt_self
  · intro i v h' tk a1 a2 a3
    exact h i v h' tk a1 a2 a3
end
section
theorem start11 : True := by
  w_top off
  trivial
noncomputable def pr2 (c : List Int) (k : Nat) : List Int := (c.drop k).take 2
noncomputable def placesF (C : PA) (c : List Int) (n : Nat) : List (Nat × Nat) := (List.range n).filterMap fun k => (ruleOf C (pr2 c k)).map fun r => (r, k)
theorem placesF_some {C : PA} {c : List Int} {n r : Nat} (h : ruleOf C (pr2 c n) = some r) : placesF C c (n + 1) = placesF C c n ++ [(r, n)] := by
  unfold placesF
  rw [List.range_succ, List.filterMap_append, List.filterMap_cons, h]
  rfl
theorem placesF_none {C : PA} {c : List Int} {n : Nat} (h : ruleOf C (pr2 c n) = none) : placesF C c (n + 1) = placesF C c n := by
  unfold placesF
  rw [List.range_succ, List.filterMap_append, List.filterMap_cons, h]
  simp
structure MinAt (C : PA) (c : List Int) (r k : Nat) : Prop where
  here : ruleOf C (pr2 c k) = some r
  fits : k + 2 ≤ c.length
  first : ∀ j r', j + 2 ≤ c.length → ruleOf C (pr2 c j) = some r' → r < r' ∨ (r = r' ∧ k ≤ j)
noncomputable def joinI (C : PA) (Good : List Int → Prop) (g : Heap) (L R nR cP cR : Nat) (o1 : Obj) (vs : List Value) (m₀ : Str → Option Value) (c : List Int) (h : Heap) : Prop :=
  ∃ u1 u2 u3 o2 R' us n', Fr g L h (fun y => if y = Str.ofString "places" then u1 else if y = Str.ofString "rule" then u2 else if y = Str.ofString "k" then u3 else m₀ y) ∧
    News g L h ((cR, o2) :: (cP, o1) :: (R', listOf (List.toArray us) n') :: (R, listOf vs.toArray nR) :: pairLed C) ∧ o2.data = .cell (some (.ref R')) ∧ (R' ≠ cR ∧ R' ≠ cP) ∧
    IntsAre us c ∧ 1 ≤ c.length ∧ c.length ≤ 12 ∧ Good c
theorem joinI.mk {C : PA} {Good : List Int → Prop} {g : Heap} {L R nR cP cR : Nat} {o1 : Obj} {vs : List Value} {m₀ : Str → Option Value} {c : List Int} {h : Heap} {u1 : Option Value} {u2 : Option Value} {u3 : Option Value} {o2 : Obj} {R' : Addr} {us : List Value} {n' : Nat} (k0 : Fr g L h (fun y => if y = Str.ofString "places" then u1 else if y = Str.ofString "rule" then u2 else if y = Str.ofString "k" then u3 else m₀ y)) (k1 : News g L h ((cR, o2) :: (cP, o1) :: (R', listOf (List.toArray us) n') :: (R, listOf vs.toArray nR) :: pairLed C)) (k2 : o2.data = .cell (some (.ref R'))) (k3 : (R' ≠ cR ∧ R' ≠ cP)) (k4 : IntsAre us c) (k5 : 1 ≤ c.length) (k6 : c.length ≤ 12) (k7 : Good c) : joinI C Good g L R nR cP cR o1 vs m₀ c h := ⟨u1, u2, u3, o2, R', us, n', k0, k1, k2, k3, k4, k5, k6, k7⟩
theorem frSelf3 {g h : Heap} {L : Addr} {m : Str → Option Value} (a b c : Str) (F : Fr g L h m) : Fr g L h (fun y => if y = a then m a else if y = b then m b else if y = c then m c else m y) := by
  have e : (fun y => if y = a then m a else if y = b then m b else if y = c then m c else m y) = m := by
    funext y
    by_cases h1 : y = a
    · subst h1; rw [if_pos rfl]
    · rw [if_neg h1]
      by_cases h2 : y = b
      · subst h2; rw [if_pos rfl]
      · rw [if_neg h2]
        by_cases h3 : y = c
        · subst h3; rw [if_pos rfl]
        · rw [if_neg h3]
  rw [e]; exact F
theorem turns_T {prog : Program} {w : World} {A : Around} {h₀ : Heap} {L : Addr} {m : Str → Option Value} {env : Env} {ct elt : Expr} {x : Str} {scope : Scope} {cl : List (Str × Addr)} {s : Shared} {S : List (Addr × Obj) → Prop} {P : Nat → Value → Prop}
    {Fin : List Value → List (Addr × Obj) → Prop} {n : Nat} (Inv : Nat → List Value → List (Addr × Obj) → Prop) {ys₀ : List Value} {news₀ : List (Addr × Obj)} (start : Inv 0 ys₀ news₀)
    (turn : ∀ i ys news, i < n → Inv i ys news → ∀ v I oI C oC D m₂ h tk (E' : Value → Shared → Prop), P i v → LCg.NsObj oC m₂ → m₂ x = some v → Fr h₀ L h m → News h₀ L h ((I, oI) :: (C, oC) :: (D, LCg.lst ys) :: news) → LCg.Off3 I C D news → ((@Ne Nat I C) ∧ (@Ne Nat I D) ∧ (@Ne Nat C D)) →
      wpAny (model prog w) A (PySem.isTrue ct (compEnvC scope cl C env) (PySem.eval ct (compEnvC scope cl C env))) (fun ok s' => if ok = true then
        wpAny (model prog w) A (PySem.eval elt (compEnvC scope cl C env)) (LCg.CompEnd h₀ L m { s with heap := h, toks := tk } I oI C oC D (LCg.lst ys) S (fun y news' => Inv (i + 1) (ys ++ [y]) news')) E' s'
        else LCg.CompEnd h₀ L m { s with heap := h, toks := tk } I oI C oC D (LCg.lst ys) S (fun _ news' => Inv (i + 1) ys news') Value.none s') E' { s with heap := h, toks := tk })
    (fin : ∀ ys news, Inv n ys news → Fin ys news) : LCt.CompRestT prog w A h₀ L m env ct elt x scope cl s S P Fin n 0 ys₀ news₀ := by
  have key : ∀ k i ys news, i + k = n → Inv i ys news → LCt.CompRestT prog w A h₀ L m env ct elt x scope cl s S P Fin k i ys news := by
    intro k
    induction k with
    | zero =>
      intro i ys news e iv
      have e' : i = n := by omega
      subst e'
      exact LCt.CompRestT.zero (fin _ _ iv)
    | succ k ih =>
      intro i ys news e iv
      refine LCt.CompRestT.succ fun v I oI C oC D m₂ h tk E' a1 a2 a3 a4 a5 a6 a7 => ?_
      refine wpAny_mono (turn i ys news (by omega) iv v I oI C oC D m₂ h tk E' a1 a2 a3 a4 a5 a6 a7) (fun ok s' hs => ?_) fun _ _ x => x
      cases ok with
      | true =>
        simp only [if_true] at hs ⊢
        refine wpAny_mono hs (fun y s'' hy => ?_) fun _ _ x => x
        refine hideG fun PP kP => ?_
        obtain ⟨h', tk', news', q1, q2, q3, q4, q5, q6⟩ := hy
        refine kP ?_
        clear kP PP
        exact ⟨h', tk', news', q1, q2, q3, q4, q5, ih (i + 1) _ _ (by omega) q6⟩
      | false =>
        simp only [Bool.false_eq_true, if_false] at hs ⊢
        refine hideG fun PP kP => ?_
        obtain ⟨h', tk', news', q1, q2, q3, q4, q5, q6⟩ := hs
        refine kP ?_
        clear kP PP
        exact ⟨h', tk', news', q1, q2, q3, q4, q5, ih (i + 1) _ _ (by omega) q6⟩
  exact key n 0 _ _ (by omega) start
inductive PlacesAre (b : Nat) : List Value → List (Nat × Nat) → List (Addr × Obj) → Prop
  | nil : PlacesAre b [] [] []
  | snoc {ys js tl} (T : Addr) (r k : Nat) (t1 t2 : Tok) (n : Nat) (hb : b < T) : PlacesAre b ys js tl → PlacesAre b (ys ++ [.ref T]) (js ++ [(r, k)]) ((T, { cls := .type "tuple", data := .seq #[.int (r : Int) t1, .int (k : Int) t2] n }) :: tl)
theorem PlacesAre.len {b ys js tl} (h : PlacesAre b ys js tl) : ys.length = js.length := by
  induction h with
  | nil => rfl
  | snoc _ _ _ _ _ _ _ _ ih => simp [ih]
theorem PlacesAre.at {b ys js tl} (h : PlacesAre b ys js tl) : ∀ (i : Nat) v, ys[i]? = some v → ∃ T t1 t2 n, v = .ref T ∧ b < T ∧ (T, tupO ((js.getD i (0, 0)).1 : Nat) ((js.getD i (0, 0)).2 : Nat) t1 t2 n) ∈ tl := by
  induction h with
  | nil => intro i v e; simp at e
  | @snoc ys js tl T r k t1 t2 n hb hh ih =>
    intro i v e
    have hl := hh.len
    by_cases hi : i < ys.length
    · rw [List.getElem?_append_left hi] at e
      refine hideG fun PP kP => ?_
      obtain ⟨T', a, b, n', e1, eb, e2⟩ := ih i v e
      refine kP ?_
      clear kP PP
      refine ⟨T', a, b, n', e1, eb, ?_⟩
      have : (js ++ [(r, k)]).getD i (0, 0) = js.getD i (0, 0) := by
        rw [List.getD_eq_getElem?_getD, List.getD_eq_getElem?_getD, List.getElem?_append_left (by omega)]
      rw [this]
      exact .tail _ e2
    · have hi2 : i = ys.length := by
        have := (List.getElem?_eq_some_iff.mp e).1
        simp at this
        omega
      subst hi2
      rw [List.getElem?_append_right (Nat.le_refl _), Nat.sub_self] at e
      cases e
      refine ⟨T, t1, t2, n, rfl, hb, ?_⟩
      have : (js ++ [(r, k)]).getD ys.length (0, 0) = (r, k) := by
        rw [List.getD_eq_getElem?_getD, List.getElem?_append_right (by omega), hl, Nat.sub_self]
        rfl
      rw [this]
      exact .head _
theorem cut_eq {c : List Int} {i : Nat} (h : i + 2 ≤ c.length) : List.take (Min.min (0 + (i : Int) + 2).toNat c.length - (0 + (i : Int)).toNat) (List.drop (0 + (i : Int)).toNat c) = pr2 c i := by
  have e1 : (0 + (i : Int) + 2).toNat = i + 2 := by omega
  have e2 : (0 + (i : Int)).toNat = i := by omega
  rw [e1, e2, Nat.min_eq_left h]
  unfold pr2
  congr 1
  omega
theorem pr2_len {c : List Int} {i : Nat} (h : i + 2 ≤ c.length) : (pr2 c i).length = 2 := by
  unfold pr2
  rw [List.length_take, List.length_drop]
  omega
theorem pairsAt5 {C : PA} {h : Heap} (a0 : h.get? C.P = some (listOf #[.ref C.p0, .ref C.p1, .ref C.p2, .ref C.p3] C.n)) (a1 : h.get? C.p0 = some (listOf #[.int C.l0 C.a0, .int C.r0 C.b0] C.n0)) (a2 : h.get? C.p1 = some (listOf #[.int C.l1 C.a1, .int C.r1 C.b1] C.n1))
    (a3 : h.get? C.p2 = some (listOf #[.int C.l2 C.a2, .int C.r2 C.b2] C.n2)) (a4 : h.get? C.p3 = some (listOf #[.int C.l3 C.a3, .int C.r3 C.b3] C.n3)) : PairsAt C h := by
  intro p hp
  rcases List.mem_cons.mp hp with rfl | hp
  · exact a0
  rcases List.mem_cons.mp hp with rfl | hp
  · exact a1
  rcases List.mem_cons.mp hp with rfl | hp
  · exact a2
  rcases List.mem_cons.mp hp with rfl | hp
  · exact a3
  rcases List.mem_cons.mp hp with rfl | hp
  · exact a4
  cases hp
theorem mem_placesF {C : PA} {c : List Int} {n r k : Nat} : (r, k) ∈ placesF C c n ↔ k < n ∧ ruleOf C (pr2 c k) = some r := by
  unfold placesF
  simp only [List.mem_filterMap, List.mem_range, Option.map_eq_some_iff]
  constructor
  · rintro ⟨a, h1, b, h2, h3⟩
    cases h3
    exact ⟨h1, h2⟩
  · rintro ⟨h1, h2⟩
    exact ⟨k, h1, r, h2, rfl⟩
theorem placesF_nil {C : PA} {c : List Int} (h : placesF C c (c.length - 1) = []) : ∀ j, j + 2 ≤ c.length → ruleOf C (pr2 c j) = none := by
  intro j hj
  cases e : ruleOf C (pr2 c j) with
  | none => rfl
  | some r =>
    have : (r, j) ∈ placesF C c (c.length - 1) := mem_placesF.mpr ⟨by omega, e⟩
    rw [h] at this
    cases this
noncomputable def valF (js : List (Nat × Nat)) (i : Nat) : Int × Int := (((js.getD i (0, 0)).1 : Nat), ((js.getD i (0, 0)).2 : Nat))
theorem minAt_of {C : PA} {c : List Int} {i r k : Nat} (hi : i < (placesF C c (c.length - 1)).length) (e : (placesF C c (c.length - 1)).getD i (0, 0) = (r, k)) (hm : ∀ j, j < (placesF C c (c.length - 1)).length → notLt (valF (placesF C c (c.length - 1))) j i) : MinAt C c r k := by
  have hmem : (r, k) ∈ placesF C c (c.length - 1) := by
    rw [← e, List.getD_eq_getElem?_getD, List.getElem?_eq_getElem hi, Option.getD_some]
    exact List.getElem_mem hi
  refine hideG fun PP kP => ?_
  obtain ⟨h1, h2⟩ := mem_placesF.mp hmem
  refine kP ?_
  clear kP PP
  refine ⟨h2, by omega, fun j r' hj hr' => ?_⟩
  have hmem' : (r', j) ∈ placesF C c (c.length - 1) := mem_placesF.mpr ⟨by omega, hr'⟩
  refine hideG fun PP kP => ?_
  obtain ⟨q, hq, eq⟩ := List.getElem_of_mem hmem'
  refine kP ?_
  clear kP PP
  have h3 := hm q hq
  have e2 : (placesF C c (c.length - 1)).getD q (0, 0) = (r', j) := by
    rw [List.getD_eq_getElem?_getD, List.getElem?_eq_getElem hq, Option.getD_some, eq]
  unfold notLt valF at h3
  rw [e, e2] at h3
  simp only [ltP, decide_eq_false_iff_not] at h3
  omega
theorem ruleOf_lt {C : PA} {s : List Int} {r : Nat} (h : ruleOf C s = some r) : r < 4 := by
  unfold ruleOf at h
  split at h
  · cases h; decide
  · split at h
    · cases h; decide
    · split at h
      · cases h; decide
      · split at h
        · cases h; decide
        · cases h
theorem frSet3 {g h : Heap} {L : Addr} {m : Str → Option Value} {a b c : Str} {u1 u2 u3 v1 v2 v3 : Option Value} (hab : a ≠ b) (hac : a ≠ c) (hbc : b ≠ c) (F : Fr g L h (fun y => if y = c then v3 else if y = b then v2 else if y = a then v1 else if y = a then u1 else if y = b then u2 else if y = c then u3 else m y)) :
    Fr g L h (fun y => if y = a then v1 else if y = b then v2 else if y = c then v3 else m y) := by
  have e : (fun y => if y = c then v3 else if y = b then v2 else if y = a then v1 else if y = a then u1 else if y = b then u2 else if y = c then u3 else m y) = (fun y => if y = a then v1 else if y = b then v2 else if y = c then v3 else m y) := by
    funext y
    by_cases h1 : y = a
    · subst h1; simp [hab, hac]
    · by_cases h2 : y = b
      · subst h2; simp [h1, hbc]
      · by_cases h3 : y = c
        · simp [h3, Ne.symm hac, Ne.symm hbc]
        · simp [h1, h2, h3]
  rw [← e]; exact F
theorem compEnd_snoc {h₀ h' : Heap} {L I C D T : Addr} {m : Str → Option Value} {s₁ : Shared} {oI oC oD oT : Obj} {rest : Value → List (Addr × Obj) → Prop} {y : Value} {tk : Nat} (known tl : List (Addr × Obj)) {all : List (Addr × Obj)}
    (F : Fr h₀ L h' m) (N : News h₀ L h' ((T, oT) :: all)) (sub : ∀ p ∈ (I, oI) :: (C, oC) :: (D, oD) :: (known ++ tl), p ∈ all) (off : LCg.Off3 I C D (known ++ tl)) (ne : T ≠ I ∧ T ≠ C ∧ T ≠ D) (r : rest y (known ++ (T, oT) :: tl)) :
    LCg.CompEnd h₀ L m s₁ I oI C oC D oD (fun _ => True) rest y { s₁ with heap := h', toks := tk } := by
  refine LCg.CompEnd.intro F N (known ++ (T, oT) :: tl) (fun p hp => ?_) (LCg.Off3.of fun p hp => ?_) trivial r
  · rcases List.mem_cons.mp hp with rfl | hp
    · exact .tail _ (sub _ (.head _))
    rcases List.mem_cons.mp hp with rfl | hp
    · exact .tail _ (sub _ (.tail _ (.head _)))
    rcases List.mem_cons.mp hp with rfl | hp
    · exact .tail _ (sub _ (.tail _ (.tail _ (.head _))))
    rcases List.mem_append.mp hp with hp | hp
    · exact .tail _ (sub _ (.tail _ (.tail _ (.tail _ (List.mem_append_left _ hp)))))
    · rcases List.mem_cons.mp hp with rfl | hp
      · exact .head _
      · exact .tail _ (sub _ (.tail _ (.tail _ (.tail _ (List.mem_append_right _ hp)))))
  · rcases List.mem_append.mp hp with hp | hp
    · exact off.mem p (List.mem_append_left _ hp)
    · rcases List.mem_cons.mp hp with rfl | hp
      · exact ne
      · exact off.mem p (List.mem_append_right _ hp)
theorem small01 {n : Nat} (h1 : 1 ≤ n) (h2 : n ≤ 12) : Builtin.Range.small 0 ((n : Int) - 1) 1 = true := by
  have : ∀ n : Nat, n < 13 → 1 ≤ n → Builtin.Range.small 0 ((n : Int) - 1) 1 = true := by decide +kernel
  exact this n (Nat.lt_succ_of_le h2) h1
theorem size01 {n : Nat} (h1 : 1 ≤ n) : Builtin.Range.rangeSize 0 ((n : Int) - 1) 1 = ((n - 1 : Nat) : Int) := by
  unfold Builtin.Range.rangeSize
  rw [if_pos (by decide)]
  by_cases h : (0 : Int) < (n : Int) - 1
  · rw [if_pos h]; omega
  · rw [if_neg h]; omega
local macro_rules | `(tactic| walk_at "compareOp Eq ref ref") => `(tactic| (k_here; refine halt ?_))
local macro_rules | `(tactic| walk_at "storeName") => `(tactic| (k_here; (with_reducible show wpAny _ _ (storeName _ (PySem.Str.ofString "row") (Value.ref _)) _ _ _); refine halt ?_))
local macro_rules | `(tactic| walk_at "exec Assign cons ListComp") => `(tactic| (k_here; refine halt ?_))
theorem tn2 (k : Nat) : ((k : Int) + 2).toNat = k + 2 := by omega
theorem nn2 (k : Nat) : (0 : Int) ≤ (k : Int) + 2 := by omega
theorem nn0 (k : Nat) : (0 : Int) ≤ 0 + (k : Int) := by omega
theorem nn02 (k : Nat) : (0 : Int) ≤ 0 + (k : Int) + 2 := by omega
theorem lt_pred {i n : Nat} (h : i < n - 1) : i + 2 ≤ n := by omega
theorem le_pred {k n : Nat} (h : k + 2 ≤ n) : 1 ≤ n - 1 := by omega
theorem cut_len {k : Nat} {x : Int} {c : List Int} (h : k + 2 ≤ c.length) : (List.take k c ++ [x] ++ List.drop (k + 2) c).length = c.length - 1 := by
  simp only [List.length_append, List.length_take, List.length_drop, List.length_singleton]; omega
theorem min_le {k n : Nat} (h : n ≤ 12) : min k n + (0 + 1) ≤ 16777216 := by omega
theorem joined_spec {w : World} {loose : List Str} {mean : ExcName → Option Value} {mg mb : Str → Option Value} {C : PA} {h : Heap} {R nR : Nat} {vs : List Value} {ns : List Int} (PN : PairsN C) (PL : PairsAt C h)
    (hR : h.get? R = some (listOf vs.toArray nR)) (hi : IntsAre vs ns) (hn1 : 1 ≤ ns.length) (hn : ns.length ≤ 12) (Good : List Int → Prop) (hg : Good ns) (hstep : ∀ c r k, Good c → MinAt C c r k → Good (c.take k ++ [256 + (r : Int)] ++ c.drop (k + 2))) :
    Spec w loose mean mg mb (.call (.ref 135) ⟨[.ref R, .ref C.P], []⟩) 5 80 [] [R, C.P, C.p0, C.p1, C.p2, C.p3] h
      (fun v h' => ∃ D us nD, ∃ c : List Int, v = .ref D ∧ h'.get? D = some (listOf (List.toArray us) nD) ∧ IntsAre us c ∧ Good c ∧ (∀ j, j + 2 ≤ c.length → ruleOf C (pr2 c j) = none)) := by
  unfold Spec
  k_fill
  intro dp un gd base outer h₀ s Rr hs B X T k hmf hroom hunits hret
  subst hs
  have PN' := PN
  unfold PairsN at PN
  have hvl : vs.length ≤ 12 := by have := hi.length; omega
  (refine' enterC (news := ?news) ?k1 ?k2 ?k3 ?k4 ?kn ?kf ?k6 ?k7 ?k8 ?k9 ?kB ?kD ?_ ?c2 ?c3 ?c4; (case k1 => assumption); (case k2 => assumption); (case k3 => assumption); (case k4 => assumption); (case k6 => k_is); (case k7 => k_is); (case k8 => (first | exact offU1 (by assumption) | (dsimp only [around]; omega))); (case k9 => exact BindsTo.of_eq rfl); (case kB => exact rfl); (case kD => decide +kernel); (case c2 => exact rfl); (case c3 => exact rfl); (case c4 => exact rfl))
  case news => exact (R, listOf vs.toArray nR) :: pairLed C
  case kn => exact List.forall_mem_cons.mpr ⟨hR, PL⟩
  case kf => exact hmf
  intro g L' h₁ tk cells F N Y B' X' T' hl hK hL
  k_lt hl
  clear B X T
  refine hideG fun PP kP => ?_
  obtain ⟨o1, o2, hE, d1, d2⟩ := CellsAre.two Y
  refine kP ?_
  clear kP PP
  subst hE
  clear Y
  unfold pairLed at N
  (try simp only [List.cons_append, List.nil_append] at N)
  have e1 : o1.data = .cell (some (.ref C.P)) := d1
  have e2 : o2.data = .cell (some (.ref R)) := d2
  clear d1 d2
  (try dsimp only)
  show wpAny _ _ _ _ _ _
  k_fold
  (repeat' (first | (k_unfold; (try dsimp only)) | (dsimp only; k_unfold; try dsimp only) | (k_end; wrow_close) | walk1 | (dsimp only; walk1) | (leave1; (try dsimp only)) | fail "no step"))
  unfold Halt
  refine while_run (σ := List Int) (joinI C Good g L' R nR (L' + 1 + 1) (L' + 1) o1 vs _) (fun c => c.length) ns ?hE ?turn ⟨_, _, _, o2, R, vs, nR, frSelf3 _ _ _ F, ?n0, e2, ?r0, hi, hn1, hn, hg⟩
  case hE => first | passes_own | with_unfolding_all passes_own
  case n0 =>
    intro p hp
    rcases List.mem_cons.mp hp with rfl | hp
    · exact N _ (.tail _ (.head _))
    rcases List.mem_cons.mp hp with rfl | hp
    · exact N _ (.head _)
    rcases List.mem_cons.mp hp with rfl | hp
    · exact N _ (.tail _ (.tail _ (.head _)))
    · exact N _ (.tail _ (.tail _ hp))
  case r0 => exact ⟨Nat.ne_of_lt (by omega), Nat.ne_of_lt (by omega)⟩
  clear F N e2
  rintro c h tk hI
  refine hideG fun PP kP => ?_
  obtain ⟨u1, u2, u3, o2, R', us, n', F, N, e2, hRc, hiu, hc1, hc12, hgc⟩ := hI
  refine kP ?_
  clear kP PP
  unfold pairLed at N
  dsimp only at F N
  have hul : us.length = c.length := hiu.length
  have hul2 : us.length ≤ 12 := by omega
  (repeat' (first | (k_unfold; (try dsimp only)) | (dsimp only; k_unfold; try dsimp only) | (k_end; wrow_close) | walk1 | (dsimp only; walk1) | (leave1; (try dsimp only)) | fail "no step"))
  unfold Halt
  refine LCt.Assign_ListComp_T (F₀ := by k_asm) (by rfl) (by with_unfolding_all rfl) (by with_unfolding_all rfl) (by decide) (by rfl) (by decide) (by rfl) (by rfl) (by rfl) ?_
  (repeat' (first | (k_unfold; (try dsimp only)) | (dsimp only; k_unfold; try dsimp only) | (k_end; wrow_close) | walk1 | (dsimp only; walk1) | (leave1; (try dsimp only)) | fail "no step"))
  refine LCt.CompSrcT.range (n := c.length - 1) (by rfl) (by k_asm) (by k_asm) (by assumption) (small01 hc1 hc12) (size01 hc1) ?sz ?_
  case sz => exact Nat.le_trans (show c.length - 1 ≤ 12 by omega) (Nat.le_of_ble_eq_true rfl)
  intro g'
  (rename Fr _ _ _ _ => F2); (rename News _ _ _ _ => N2)
  refine turns_T (fun i ys news => ∃ tl, news = (L' + 1, o2) :: (L' + 1 + 1, o1) :: (R', listOf (List.toArray us) n') :: (R, listOf vs.toArray nR) :: (pairLed C ++ tl) ∧ PlacesAre (L' + 1 + 1) ys (placesF C c i) tl) ⟨[], rfl, .nil⟩ ?one ?fin
  case one =>
    rintro i ys news hin hE1 v I oI Cc oC D m₂ hh tkk E' hE2 ns m2 F3 N3 off3 ne3
    refine hideG fun PP kP => ?_
    obtain ⟨tl, en, hp⟩ := hE1
    obtain ⟨t, ev⟩ := hE2
    refine kP ?_
    clear kP PP
    subst en ev
    unfold pairLed at N3
    simp only [List.cons_append, List.nil_append] at N3
    have hi2 : i + 2 ≤ c.length := by first | exact lt_pred hin | omega
    have hz1 := nn0 i
    have hz2 := nn02 i
    (repeat' (first | (k_unfold; (try dsimp only)) | (dsimp only; k_unfold; try dsimp only) | (k_end; wrow_close) | walk1 | (dsimp only; walk1) | (leave1; (try dsimp only)) | fail "no step"))
    (rename News _ _ _ _ => N5)
    (rename IntsAre _ (List.take _ _) => hI)
    rw [cut_eq hi2] at hI
    refine in_pairs PN' (pairsAt5 (newsAt N5 8 rfl) (newsAt N5 9 rfl) (newsAt N5 10 rfl) (newsAt N5 11 rfl) (newsAt N5 12 rfl)) (newsAt N5 0 rfl) hI (pr2_len hi2) (by omega) ?uu ?_
    case uu => first | units_room | (first | exact offU (by assumption) (by decide) | (simp only [units_deeper]; omega)) | (show _ + 1 < _; first | exact offU (by assumption) (by decide) | (simp only [units_deeper]; omega))
    cases hr : ruleOf C (pr2 c i) with
    | none =>
      dsimp only [Option.isSome]
      (repeat' (first | (k_unfold; (try dsimp only)) | (dsimp only; k_unfold; try dsimp only) | (k_end; wrow_close) | walk1 | (dsimp only; walk1) | (leave1; (try dsimp only)) | fail "no step"))
      (rename Fr _ _ _ _ => F6); (rename News _ _ _ _ => N6)
      exact LCg.CompEnd.intro F6 N6 ((L' + 1, o2) :: (L' + 1 + 1, o1) :: (R', listOf (List.toArray us) n') :: (R, listOf vs.toArray nR) :: (pairLed C ++ tl)) (fun p hp => List.mem_cons_of_mem _ hp) off3 trivial ⟨tl, rfl, by rw [placesF_none hr]; exact hp⟩
    | some r =>
      dsimp only [Option.isSome]
      (repeat' (first | (k_unfold; (try dsimp only)) | (dsimp only; k_unfold; try dsimp only) | (k_end; wrow_close) | walk1 | (dsimp only; walk1) | (leave1; (try dsimp only)) | fail "no step"))
      (rename News _ _ _ _ => N6)
      (rename IntsAre _ (List.take _ _) => hI)
      rw [cut_eq hi2] at hI
      refine index_pairs PN' (pairsAt5 (newsAt N6 9 rfl) (newsAt N6 10 rfl) (newsAt N6 11 rfl) (newsAt N6 12 rfl) (newsAt N6 13 rfl)) (newsAt N6 0 rfl) hI (pr2_len hi2) (by omega) ?uu hr ?_
      case uu => first | units_room | (first | exact offU (by assumption) (by decide) | (simp only [units_deeper]; omega)) | (show _ + 1 < _; first | exact offU (by assumption) (by decide) | (simp only [units_deeper]; omega))
      (repeat' (first | (k_unfold; (try dsimp only)) | (dsimp only; k_unfold; try dsimp only) | (k_end; wrow_close) | walk1 | (dsimp only; walk1) | (leave1; (try dsimp only)) | fail "no step"))
      (rename Fr _ _ _ _ => F7); (rename News _ _ _ _ => N7)
      (rename _ ∧ _ => l1)
      refine compEnd_snoc ((L' + 1, o2) :: (L' + 1 + 1, o1) :: (R', listOf (List.toArray us) n') :: (R, listOf vs.toArray nR) :: pairLed C) tl F7 N7 (fun p hp => .tail _ (.tail _ hp)) off3 ?k2 ⟨_, rfl, ?k3⟩
      case k3 => rw [placesF_some hr, Int.zero_add]; exact PlacesAre.snoc _ r i _ _ _ l1.2.2.2.2.2.2.1 hp
      case k2 => exact ⟨Nat.ne_of_gt l1.2.2.1, Nat.ne_of_gt l1.2.2.2.1, Nat.ne_of_gt l1.2.2.2.2.1⟩
  case fin =>
    rintro ys news hE3
    refine hideG fun PP kP => ?_
    obtain ⟨tl, en, hp⟩ := hE3
    refine kP ?_
    clear kP PP
    subst en
    unfold LCg.FinA
    intro D hh tkk F8 N8 off8
    clear F2 N2
    have hpl := hp.len
    unfold pairLed at N8
    simp only [List.cons_append, List.nil_append] at N8
    (repeat' (first | (k_unfold; (try dsimp only)) | (dsimp only; k_unfold; try dsimp only) | (k_end; wrow_close) | walk1 | (dsimp only; walk1) | (leave1; (try dsimp only)) | fail "no step"))
    unfold Halt
    (rename News _ _ _ _ => N9)
    by_cases hz : placesF C c (c.length - 1) = []
    · have ey : ys = [] := List.length_eq_zero_iff.mp (by rw [hpl, hz]; rfl)
      subst ey
      refine PySem.SeqAt.eq_listAt (items := #[]) (items2 := #[]) (e := fun _ => true) ⟨_, newsAt N9 1 rfl, rfl, _, rfl⟩ ⟨_, newsAt N9 0 rfl, rfl, _, rfl⟩ rfl ?uu (fun j h1 => absurd h1 (Nat.not_lt_zero j)) ?_
      case uu => first | units_room | (first | exact offU (by assumption) (by decide) | (simp only [units_deeper]; omega)) | (show _ + 1 < _; first | exact offU (by assumption) (by decide) | (simp only [units_deeper]; omega))
      have eb : ((List.range (#[] : Array Value).size).all fun _ => true) = true := rfl
      rw [eb]
      (repeat' (first | (k_unfold; (try dsimp only)) | (dsimp only; k_unfold; try dsimp only) | (k_end; wrow_close) | walk1 | (dsimp only; walk1) | (leave1; (try dsimp only)) | fail "no step"))
      (rename Fr _ _ _ _ => F5); (rename News _ _ _ _ => N5)
      refine hret _ _ _ (Keeps.narrow (hK _ (Fr.keep F5)) ?k1) ⟨_, us, n', c, rfl, newsAt N5 4 rfl, hiu, hgc, placesF_nil hz⟩
      case k1 => exact List.forall_mem_cons.mpr ⟨.inr ⟨_, hR, newsAt N5 5 rfl⟩, List.forall_mem_cons.mpr ⟨.inr ⟨_, PL _ (.head _), newsAt N5 6 rfl⟩, List.forall_mem_cons.mpr ⟨.inr ⟨_, PL _ (.tail _ (.head _)), newsAt N5 7 rfl⟩, List.forall_mem_cons.mpr ⟨.inr ⟨_, PL _ (.tail _ (.tail _ (.head _))), newsAt N5 8 rfl⟩, List.forall_mem_cons.mpr ⟨.inr ⟨_, PL _ (.tail _ (.tail _ (.tail _ (.head _)))), newsAt N5 9 rfl⟩, List.forall_mem_cons.mpr ⟨.inr ⟨_, PL _ (.tail _ (.tail _ (.tail _ (.tail _ (.head _))))), newsAt N5 10 rfl⟩, List.forall_mem_nil _⟩⟩⟩⟩⟩⟩
    · have hne : ys.length ≠ 0 := by rw [hpl]; exact fun q => hz (List.length_eq_zero_iff.mp q)
      refine PySem.SeqAt.eq_list_lengthsAt (items := ys.toArray) (items2 := #[]) ⟨_, newsAt N9 1 rfl, rfl, _, rfl⟩ ⟨_, newsAt N9 0 rfl, rfl, _, rfl⟩ ?ss ?uu ?_
      case ss => simpa using hne
      case uu => first | units_room | (first | exact offU (by assumption) (by decide) | (simp only [units_deeper]; omega)) | (show _ + 1 < _; first | exact offU (by assumption) (by decide) | (simp only [units_deeper]; omega))
      (repeat' (first | (k_unfold; (try dsimp only)) | (dsimp only; k_unfold; try dsimp only) | (k_end; wrow_close) | walk1 | (dsimp only; walk1) | (leave1; (try dsimp only)) | fail "no step"))
      (rename Fr _ _ _ _ => Fa); (rename News _ _ _ _ => Na)
      refine min_tups (vs := ys) (valF (placesF C c (c.length - 1))) (by rfl) ?uu ⟨_, newsAt Na 1 rfl, rfl, _, rfl⟩ (fun i v e => ?tt) (Nat.pos_of_ne_zero hne) ?_
      case uu => first | units_room | (first | exact offU (by assumption) (by decide) | (simp only [units_deeper]; omega)) | (show _ + 1 < _; first | exact offU (by assumption) (by decide) | (simp only [units_deeper]; omega))
      case tt =>
        refine hideG fun PP kP => ?_
        obtain ⟨T, t1, t2, n, e1, _, e2⟩ := hp.at i v e
        refine kP ?_
        clear kP PP
        exact ⟨T, t1, t2, n, e1, (Na _ (.tail _ (.tail _ (.tail _ (.tail _ (.tail _ (.tail _ (.tail _ (.tail _ (.tail _ (.tail _ (.tail _ e2)))))))))))).1⟩
      intro i v hb tkb hv hmin hkb
      refine hideG fun PP kP => ?_
      obtain ⟨T, t1, t2, nT, ev, hTb, hT⟩ := hp.at i v hv
      refine kP ?_
      clear kP PP
      subst ev
      have hilt : i < (placesF C c (c.length - 1)).length := by rw [← hpl]; exact (List.getElem?_eq_some_iff.mp hv).1
      rw [hpl] at hmin
      obtain ⟨r, kk, eq⟩ : ∃ r kk, (placesF C c (c.length - 1)).getD i (0, 0) = (r, kk) := ⟨_, _, rfl⟩
      have hMin := minAt_of hilt eq hmin
      rw [eq] at hT
      have Ng := News.grown Na hkb
      have hTn := Ng _ (.tail _ (.tail _ (.tail _ (.tail _ (.tail _ (.tail _ (.tail _ (.tail _ (.tail _ (.tail _ (.tail _ hT)))))))))))
      have Fb := Fa.grownK hkb
      have Nb : News g L' hb [(L' + 1, o2), (L' + 1 + 1, o1), (R', listOf (List.toArray us) n'), (R, listOf vs.toArray nR), (C.P, listOf #[.ref C.p0, .ref C.p1, .ref C.p2, .ref C.p3] C.n), (C.p0, listOf #[.int C.l0 C.a0, .int C.r0 C.b0] C.n0), (C.p1, listOf #[.int C.l1 C.a1, .int C.r1 C.b1] C.n1), (C.p2, listOf #[.int C.l2 C.a2, .int C.r2 C.b2] C.n2), (C.p3, listOf #[.int C.l3 C.a3, .int C.r3 C.b3] C.n3), (T, tupO (r : Nat) (kk : Nat) t1 t2 nT)] := by
        intro p hp'
        rcases List.mem_append.mp (show p ∈ [(L' + 1, o2), (L' + 1 + 1, o1), (R', listOf (List.toArray us) n'), (R, listOf vs.toArray nR), (C.P, listOf #[.ref C.p0, .ref C.p1, .ref C.p2, .ref C.p3] C.n), (C.p0, listOf #[.int C.l0 C.a0, .int C.r0 C.b0] C.n0), (C.p1, listOf #[.int C.l1 C.a1, .int C.r1 C.b1] C.n1), (C.p2, listOf #[.int C.l2 C.a2, .int C.r2 C.b2] C.n2), (C.p3, listOf #[.int C.l3 C.a3, .int C.r3 C.b3] C.n3)] ++ [(T, tupO (r : Nat) (kk : Nat) t1 t2 nT)] from hp') with hp' | hp'
        rotate_left
        · rw [List.mem_singleton.mp hp']; exact hTn
        · refine Ng p (.tail _ (.tail _ ?_))
          have hp2 : p ∈ [(L' + 1, o2), (L' + 1 + 1, o1), (R', listOf (List.toArray us) n'), (R, listOf vs.toArray nR), (C.P, listOf #[.ref C.p0, .ref C.p1, .ref C.p2, .ref C.p3] C.n), (C.p0, listOf #[.int C.l0 C.a0, .int C.r0 C.b0] C.n0), (C.p1, listOf #[.int C.l1 C.a1, .int C.r1 C.b1] C.n1), (C.p2, listOf #[.int C.l2 C.a2, .int C.r2 C.b2] C.n2), (C.p3, listOf #[.int C.l3 C.a3, .int C.r3 C.b3] C.n3)] ++ tl := List.mem_append_left _ hp'
          exact hp2
      have hr4 : r < 4 := ruleOf_lt hMin.here
      have hRest : ∀ p ∈ [(L' + 1 + 1, o1), (R', listOf (List.toArray us) n'), (R, listOf vs.toArray nR), (C.P, listOf #[.ref C.p0, .ref C.p1, .ref C.p2, .ref C.p3] C.n), (C.p0, listOf #[.int C.l0 C.a0, .int C.r0 C.b0] C.n0), (C.p1, listOf #[.int C.l1 C.a1, .int C.r1 C.b1] C.n1), (C.p2, listOf #[.int C.l2 C.a2, .int C.r2 C.b2] C.n2), (C.p3, listOf #[.int C.l3 C.a3, .int C.r3 C.b3] C.n3), (T, tupO (r : Nat) (kk : Nat) t1 t2 nT)], p.1 ≠ L' + 1 := by
        simp only [List.forall_mem_cons]
        exact ⟨Nat.ne_of_gt (Nat.lt_succ_self _), hRc.1, Nat.ne_of_lt (by omega), Nat.ne_of_lt (by omega), Nat.ne_of_lt (by omega), Nat.ne_of_lt (by omega), Nat.ne_of_lt (by omega), Nat.ne_of_lt (by omega), Nat.ne_of_gt (by omega), List.forall_mem_nil _⟩
      have hkf := hMin.fits
      have hz1 : (0 : Int) ≤ ((kk : Nat) : Int) := Int.natCast_nonneg kk
      have hz2 := nn2 kk
      clear Fa Na Ng hne hmin off8
      (repeat' (first | (k_unfold; (try dsimp only)) | (dsimp only; k_unfold; try dsimp only) | (k_end; wrow_close) | walk1 | (dsimp only; walk1) | (leave1; (try dsimp only)) | fail "no step"))
      unfold Halt
      (rename Fr _ _ _ _ => F5); (rename News _ _ _ _ => N5)
      refine' storeX_C F5 N5 ?c (UpdF.tail ?q1 (UpdF.tail ?q2 (UpdF.tail ?q3 (UpdF.tail ?q4 (UpdF.tail ?q5 (UpdF.head hRest)))))) e2 ?_ ?a ?b
      case a => rfl
      case b => rfl
      case c => rfl
      case q1 => k_ne
      case q2 => k_ne
      case q3 => k_ne
      case q4 => k_ne
      case q5 => k_ne
      clear F5 N5
      intro h7 o7 F7 N7 e7
      (try dsimp only at N7)
      (repeat' (first | (k_unfold; (try dsimp only)) | (dsimp only; k_unfold; try dsimp only) | (k_end; wrow_close) | walk1 | (dsimp only; walk1) | (leave1; (try dsimp only)) | fail "no step"))
      (rename IntsAre _ (List.take _ _ ++ _ ++ List.drop _ _) => hI)
      (rename _ ∧ _ => l1)
      have q1 : ((kk : Nat) : Int).toNat = kk := rfl
      have q2 := tn2 kk
      rw [q1, q2] at hI
      have q3 := cut_len (x := 256 + (r : Int)) hkf
      refine LoopPost.mk (List.take kk c ++ [256 + (r : Int)] ++ List.drop (kk + 2) c) ?k1 (joinI.mk (o2 := o7) (n' := 0) (frSet3 (by decide) (by decide) (by decide) F7) ?k2 e7 ?k3 hI ?k4 ?k5 (hstep c r kk hgc hMin))
      case k1 => show List.length _ < c.length; rw [q3]; exact Nat.sub_lt (Nat.lt_of_lt_of_le (Nat.succ_pos _) hkf) Nat.one_pos
      case k3 => exact ⟨Nat.ne_of_gt l1.2.2.2.2.1, Nat.ne_of_gt l1.2.2.2.2.2.1⟩
      case k4 => rw [q3]; exact le_pred hkf
      case k5 => rw [q3]; exact Nat.le_trans (Nat.sub_le _ _) hc12
      case k2 =>
        intro p hp'
        rcases List.mem_cons.mp hp' with rfl | hp'
        · exact N7 _ (.tail _ (.tail _ (.tail _ (.tail _ (.tail _ (.head _))))))
        rcases List.mem_cons.mp hp' with rfl | hp'
        · exact N7 _ (.tail _ (.tail _ (.tail _ (.tail _ (.tail _ (.tail _ (.head _)))))))
        rcases List.mem_cons.mp hp' with rfl | hp'
        · exact N7 _ (.head _)
        · exact N7 p (.tail _ (.tail _ (.tail _ (.tail _ (.tail _ (.tail _ (.tail _ (.tail _ (show p ∈ ((R, listOf vs.toArray nR) :: pairLed C) ++ [(T, tupO (r : Nat) (kk : Nat) t1 t2 nT)] from List.mem_append_left _ hp')))))))))
end
section
theorem start12 : True := by
  w_top off
  trivial
noncomputable def goR (l r m : Int) : Int → List Int → List Int
  | held, [] => if held = 0 then [] else [held]
  | held, x :: xs => if held = l ∧ x = r then m :: goR l r m 0 xs else if held = 0 then goR l r m x xs else held :: goR l r m x xs
noncomputable def roundF (l r m : Int) (ns : List Int) : List Int := goR l r m 0 ns
theorem frSet2 {g h : Heap} {L : Addr} {m : Str → Option Value} {a b : Str} {u v u' v' : Option Value} (hab : a ≠ b) (F : Fr g L h (fun y => if y = b then u else if y = a then v else if y = a then v' else if y = b then u' else m y)) : Fr g L h (fun y => if y = a then v else if y = b then u else m y) := by
  have e : (fun y => if y = b then u else if y = a then v else if y = a then v' else if y = b then u' else m y) = (fun y => if y = a then v else if y = b then u else m y) := by
    funext y
    by_cases h1 : y = a
    · subst h1; simp only [if_neg hab, if_true]
    · by_cases h2 : y = b
      · simp only [if_neg h1, if_pos h2]
      · simp only [if_neg h1, if_neg h2]
  rw [← e]; exact F
theorem WordsAre.snocQ {vs : List Value} {rem out : List Int} (h : WordsAre vs (rem.append (0 :: out))) (k : Int) (t : Tok) : WordsAre (vs ++ [.str (wordF k) t]) (rem ++ 0 :: (out ++ [k])) := by
  have q := h.snoc k t
  have e : rem.append (0 :: out) ++ [k] = rem ++ 0 :: (out ++ [k]) := by simp
  rw [← e]; exact q
structure RS where
  (fin : Bool) (rem : List Int) (held sym : Int) (out : List Int)
noncomputable def RS.q (c : RS) : List Int := if c.fin then c.out else c.rem ++ 0 :: c.out
noncomputable def RS.ok (l r m : Int) (ns : List Int) (c : RS) : Prop :=
  if c.fin then c.sym = 0 ∧ c.out = roundF l r m ns else 0 < c.sym ∧ c.out ++ goR l r m c.held c.rem = roundF l r m ns ∧ (∀ k ∈ c.rem, 0 < k ∧ k < 4096)
noncomputable def roundI (w : World) (A : LA) (S : SA) (ln : Int) (tl : Tok) (g : Heap) (L : Addr) (m₀ : Str → Option Value) (l r m : Int) (ns : List Int) (c : RS) (h : Heap) : Prop :=
  ∃ t t' vs n, Fr g L h (fun y => if y = Str.ofString "symbol" then some (.int c.sym t) else if y = Str.ofString "held" then some (.int c.held t') else m₀ y) ∧ News g L h [(A.lx, instObj 52 A.dx), (A.dx, dictOf (lexEs w A S ln tl) 4), (A.pb, listOf vs.toArray n)] ∧
    WordsAre vs c.q ∧ (0 ≤ c.held ∧ c.held < 4096) ∧ vs.length ≤ ns.length + 1 ∧ (c.held ≠ 0 → vs.length ≤ ns.length) ∧ c.ok l r m ns
theorem roundI.mk {w : World} {A : LA} {S : SA} {ln : Int} {tl : Tok} {g : Heap} {L : Addr} {m₀ : Str → Option Value} {l r m : Int} {ns : List Int} {c : RS} {h : Heap} {t t' : Tok} {vs : List Value} {n : Nat} (F : Fr g L h (fun y => if y = Str.ofString "symbol" then some (.int c.sym t) else if y = Str.ofString "held" then some (.int c.held t') else m₀ y)) (N : News g L h [(A.lx, instObj 52 A.dx), (A.dx, dictOf (lexEs w A S ln tl) 4), (A.pb, listOf vs.toArray n)])
    (hw : WordsAre vs c.q) (hh : 0 ≤ c.held ∧ c.held < 4096) (h1 : vs.length ≤ ns.length + 1) (h2 : c.held ≠ 0 → vs.length ≤ ns.length) (h3 : c.ok l r m ns) : roundI w A S ln tl g L m₀ l r m ns c h := ⟨t, t', vs, n, F, N, hw, hh, h1, h2, h3⟩
theorem round_spec {w : World} {loose : List Str} {mean : ExcName → Option Value} {mg mb : Str → Option Value} {A : LA} {S : SA} {h : Heap} {ln : Int} {tl : Tok} {n : Nat} {vs : List Value} {ns : List Int} {l r m : Int} {tL tR tM : Tok} (ND : LexN A S)
    (hlx : h.get? A.lx = some (instObj 52 A.dx)) (hdx : h.get? A.dx = some (dictOf (lexEs w A S ln tl) 4)) (hpb : h.get? A.pb = some (listOf vs.toArray n)) (hv : WordsAre vs (ns ++ [0])) (hns : ∀ k ∈ ns, 0 < k ∧ k < 4096) (hlen : ns.length ≤ 900)
    (hl : 0 < l ∧ l < 4096) (hr : 0 < r ∧ r < 4096) (hm : 0 < m ∧ m < 4096) :
    Spec w loose mean mg mb (.call (.ref 123) ⟨[.ref A.lx, .int l tL, .int r tR, .int m tM], []⟩) 6 100 [A.pb] [A.lx, A.dx, A.pb] h
      (fun v h' => v = .none ∧ ∃ us n', WordsAre us (roundF l r m ns ++ [0]) ∧ h'.get? A.pb = some (listOf us.toArray n')) := by
  unfold Spec
  k_fill
  intro dp un gd base outer h₀ s R hs B X T k hmf hroom hunits hret
  subst hs
  have ND' := ND
  unfold LexN SN at ND'
  have hl1 := hv.length
  rw [List.length_append, List.length_singleton] at hl1
  (refine' enter (news := ?news) ?k1 ?k2 ?k3 ?k4 ?kn ?kf ?k6 ?k7 ?k8 ?k9 ?kB ?_ ?c5 ?c2 ?c3 ?c4; (case k1 => assumption); (case k2 => assumption); (case k3 => assumption); (case k4 => assumption); (case k6 => k_is); (case k7 => k_is); (case k8 => (first | exact offU1 (by assumption) | (dsimp only [around]; omega))); (case k9 => exact BindsTo.of_eq rfl); (case c5 => decide); (case kB => exact locs rfl); (case c2 => exact rfl); (case c3 => exact rfl); (case c4 => exact rfl))
  case news => exact [(A.lx, instObj 52 A.dx), (A.dx, dictOf (lexEs w A S ln tl) 4), (A.pb, listOf vs.toArray n)]
  case kn => simp only [List.forall_mem_cons]; exact ⟨hlx, hdx, hpb, List.forall_mem_nil _⟩
  case kf => exact hmf
  intro g L' h₁ F N B' X' T' hlt hK hL
  k_lt hlt
  clear B X T
  unfold lexEs at N
  (try dsimp only)
  show wpAny _ _ _ _ _ _
  k_fold
  (repeat' (first | (k_unfold; (try dsimp only)) | (dsimp only; k_unfold; try dsimp only) | (k_end; wrow_close) | walk1 | (dsimp only; walk1) | (leave1; (try dsimp only)) | fail "no step"))
  unfold Halt
  (rename Fr _ _ _ _ => F2); (rename News _ _ _ _ => N2)
  refine while_run (σ := RS) (roundI w A S ln tl g L' _ l r m ns) (fun c => if c.fin then 0 else c.rem.length + 1) ⟨false, ns, 0, l, []⟩ ?hE ?turn ⟨_, _, vs, n, F2, N2, hv, ⟨Int.le_refl 0, (by decide : (0 : Int) < 4096)⟩, by omega, fun q => absurd rfl q, ?hok⟩
  case hE => first | passes_own | with_unfolding_all passes_own
  case hok => exact ⟨hl.1, rfl, hns⟩
  clear F2 N2 hv
  rintro ⟨fin, rem, held, sym, out⟩ h tk hI
  refine hideG fun PP kP => ?_
  obtain ⟨t, t', vs, n, F, N, hv, hh, hq1, hq2, ok⟩ := hI
  refine kP ?_
  clear kP PP
  unfold lexEs at N
  unfold RS.q at hv
  unfold RS.ok at ok
  dsimp only at F N hv hh hq2 ok
  cases fin with
  | true =>
    rw [if_pos rfl] at hv ok
    obtain ⟨e, ho⟩ := ok
    subst e
    (repeat' (first | (k_unfold; (try dsimp only)) | (dsimp only; k_unfold; try dsimp only) | (k_end; wrow_close) | walk1 | (dsimp only; walk1) | (leave1; (try dsimp only)) | fail "no step"))
    (rename Fr _ _ _ _ => F5); (rename News _ _ _ _ => N5)
    refine hret _ _ _ (Keeps.narrow (hK _ (Fr.keep F5)) ?k1) ⟨rfl, _, _, ?k2, newsAt N5 2 rfl⟩
    case k1 => exact List.forall_mem_cons.mpr ⟨.inr ⟨_, hlx, newsAt N5 0 rfl⟩, List.forall_mem_cons.mpr ⟨.inr ⟨_, hdx, newsAt N5 1 rfl⟩, List.forall_mem_cons.mpr ⟨.inl (.head _), List.forall_mem_nil _⟩⟩⟩
    case k2 => rw [← ho]; exact hv.snoc 0 _
  | false =>
    rw [if_neg Bool.false_ne_true] at hv ok
    obtain ⟨hsym, ho, hrem⟩ := ok
    cases rem with
    | nil =>
      cases hv with
      | cons k t2 hv =>
        simp only [List.length_cons] at hq1 hq2
        rename_i vs'
        have hvl : vs'.length ≤ 1000 := by omega
        (repeat' (first | (k_unfold; (try dsimp only)) | (dsimp only; k_unfold; try dsimp only) | (k_end; wrow_close) | walk1 | (dsimp only; walk1) | (leave1; (try dsimp only)) | fail "no step"))
        all_goals
          (rename Fr _ _ _ _ => F5); (rename News _ _ _ _ => N5)
          unfold goR at ho
          split at ho
          all_goals first
            | (exfalso; omega)
            | (refine LoopPost.mk ⟨true, [], 0, 0, out⟩ (Nat.succ_pos _) (roundI.mk (frSet2 (by decide) F5) N5 hv ⟨Int.le_refl 0, (by decide : (0 : Int) < 4096)⟩ ?_ (fun q => absurd rfl q) ⟨rfl, ?_⟩)
               · omega
               · rw [← ho, List.append_nil])
            | (refine LoopPost.mk ⟨true, [], 0, 0, out ++ [held]⟩ (Nat.succ_pos _) (roundI.mk (frSet2 (by decide) F5) N5 (hv.snoc _ _) ⟨Int.le_refl 0, (by decide : (0 : Int) < 4096)⟩ ?_ (fun q => absurd rfl q) ⟨rfl, ?_⟩)
               · rw [List.length_append, List.length_singleton]; omega
               · rw [← ho])
    | cons x rem =>
      cases hv with
      | cons k t2 hv =>
        simp only [List.length_cons] at hq1 hq2
        rename_i vs'
        have hvl : vs'.length ≤ 1000 := by omega
        have hx := hrem x (.head _)
        (repeat' (first | (k_unfold; (try dsimp only)) | (dsimp only; k_unfold; try dsimp only) | (k_end; wrow_close) | walk1 | (dsimp only; walk1) | (leave1; (try dsimp only)) | fail "no step"))
        all_goals
          (rename Fr _ _ _ _ => F5); (rename News _ _ _ _ => N5)
          unfold goR at ho
          have hrem' : ∀ k ∈ rem, 0 < k ∧ k < 4096 := fun k hk => hrem k (.tail _ hk)
          (repeat' split at ho)
          all_goals first
            | (exfalso; omega)
            | (refine LoopPost.mk ⟨false, rem, 0, x, out ++ [m]⟩ (Nat.lt_succ_self _) (roundI.mk (frSet2 (by decide) F5) N5 ?_ ⟨Int.le_refl 0, (by decide : (0 : Int) < 4096)⟩ ?_ (fun q => absurd rfl q) ⟨hx.1, ?_, hrem'⟩)
               · exact hv.snocQ _ _
               · rw [List.length_append, List.length_singleton]; omega
               · rw [← ho, List.append_assoc]; rfl)
            | (refine LoopPost.mk ⟨false, rem, x, x, out⟩ (Nat.lt_succ_self _) (roundI.mk (frSet2 (by decide) F5) N5 hv ⟨Int.le_of_lt hx.1, hx.2⟩ ?_ ?_ ⟨hx.1, ho, hrem'⟩)
               · omega
               · intro _; omega)
            | (refine LoopPost.mk ⟨false, rem, x, x, out ++ [held]⟩ (Nat.lt_succ_self _) (roundI.mk (frSet2 (by decide) F5) N5 ?_ ⟨Int.le_of_lt hx.1, hx.2⟩ ?_ ?_ ⟨hx.1, ?_, hrem'⟩)
               · exact hv.snocQ _ _
               · rw [List.length_append, List.length_singleton]; omega
               · intro _; rw [List.length_append, List.length_singleton]; omega
               · rw [← ho, List.append_assoc]; rfl)
end
noncomputable def noP (l r : Int) : List Int → Prop
  | [] => True
  | x :: t => ¬ (x = l ∧ t.head? = some r) ∧ noP l r t
theorem noP_suf {l r : Int} : ∀ (a : List Int) {b : List Int}, noP l r (a ++ b) → noP l r b
  | [], _, h => h
  | _ :: a, _, h => noP_suf a h.2
theorem noP_pre {l r : Int} : ∀ {a b : List Int}, noP l r (a ++ b) → noP l r a
  | [], _, _ => trivial
  | x :: a, b, h => ⟨fun q => h.1 ⟨q.1, by cases a with
    | nil => cases q.2
    | cons y a => exact q.2⟩, noP_pre h.2⟩
theorem noP_put {l r m : Int} (hl : m ≠ l) (hr : m ≠ r) : ∀ {a b : List Int}, noP l r a → noP l r b → noP l r (a ++ m :: b)
  | [], _, _, hb => ⟨fun q => hl q.1, hb⟩
  | x :: a, b, ha, hb => ⟨fun q => by
    cases a with
    | nil => injection q.2 with e; exact hr e
    | cons y a => exact ha.1 q, noP_put hl hr ha.2 hb⟩
theorem go_id {l r m : Int} : ∀ (xs : List Int) (h : Int), h ≠ 0 → (∀ x ∈ xs, x ≠ 0) → noP l r (h :: xs) → goR l r m h xs = h :: xs
  | [], h, h0, _, _ => by unfold goR; rw [if_neg h0]
  | x :: xs, h, h0, hx, hp => by
    unfold goR
    rw [if_neg (fun q => hp.1 ⟨q.1, by rw [q.2]; rfl⟩), if_neg h0, go_id xs x (hx x (.head _)) (fun y hy => hx y (.tail _ hy)) hp.2]
theorem round_id {l r m : Int} (hl : l ≠ 0) {xs : List Int} (hx : ∀ x ∈ xs, x ≠ 0) (hp : noP l r xs) : roundF l r m xs = xs := by
  unfold roundF
  cases xs with
  | nil => unfold goR; rw [if_pos rfl]
  | cons x xs =>
    unfold goR
    rw [if_neg (fun q => hl q.1.symm), if_pos rfl]
    exact go_id xs x (hx x (.head _)) (fun y hy => hx y (.tail _ hy)) hp
theorem go_made {l r m : Int} (hl : l ≠ 0) (hm : m ≠ 0) (hml : m ≠ l) : ∀ post : List Int, goR l r m m post = m :: goR l r m 0 post
  | [] => by unfold goR; rw [if_neg hm, if_pos rfl]
  | x :: xs => by
    rw [goR, goR]
    rw [if_neg (fun q => hml q.1), if_neg hm, if_neg (fun q => hl q.1.symm), if_pos rfl]
theorem go_put {l r m : Int} (hl : l ≠ 0) (hm : m ≠ 0) (hml : m ≠ l) (hmr : m ≠ r) (post : List Int) : ∀ (pre : List Int) (h : Int), noP l r (h :: (pre ++ [l])) → goR l r m h (pre ++ l :: r :: post) = goR l r m h (pre ++ m :: post)
  | [], h, hp => by
    have e1 : ¬ (h = l ∧ l = r) := fun q => hp.1 ⟨q.1, by rw [← q.2]; rfl⟩
    have e2 : goR l r m l (r :: post) = m :: goR l r m 0 post := by rw [goR, if_pos ⟨rfl, rfl⟩]
    have e3 : goR l r m h (l :: r :: post) = if h = 0 then goR l r m l (r :: post) else h :: goR l r m l (r :: post) := by rw [goR, if_neg e1]
    have e4 : goR l r m h (m :: post) = if h = 0 then goR l r m m post else h :: goR l r m m post := by rw [goR, if_neg (fun q => hmr q.2)]
    rw [List.nil_append, List.nil_append, e3, e4, e2, go_made hl hm hml post]
  | x :: pre, h, hp => by
    have e1 : ¬ (h = l ∧ x = r) := fun q => hp.1 ⟨q.1, by rw [q.2]; rfl⟩
    rw [List.cons_append, List.cons_append, goR, goR, if_neg e1, if_neg e1, go_put hl hm hml hmr post pre x hp.2]
theorem round_put {l r m : Int} (hl : l ≠ 0) (hm : m ≠ 0) (hml : m ≠ l) (hmr : m ≠ r) {pre post : List Int} (hp : noP l r (pre ++ [l])) : roundF l r m (pre ++ l :: r :: post) = roundF l r m (pre ++ m :: post) :=
  go_put hl hm hml hmr post pre 0 ⟨fun q => hl q.1.symm, hp⟩
theorem noP_of {l r : Int} : ∀ {c : List Int}, (∀ j, j + 2 ≤ c.length → pr2 c j ≠ [l, r]) → noP l r c
  | [], _ => trivial
  | x :: t, h => ⟨fun q => by
      cases t with
      | nil => cases q.2
      | cons y t =>
        injection q.2 with e
        exact h 0 (by simp) (by unfold pr2; rw [q.1, e]; rfl), noP_of fun j hj e => h (j + 1) (by simp only [List.length_cons]; omega) e⟩
theorem pr2_take {c : List Int} {j n : Nat} (h : j + 2 ≤ n) : pr2 (c.take n) j = pr2 c j := by
  unfold pr2
  rw [List.drop_take, List.take_take, Nat.min_eq_left (by omega)]
theorem cut2 {c : List Int} {k : Nat} {l r : Int} (hk : k + 2 ≤ c.length) (e : pr2 c k = [l, r]) : c = c.take k ++ l :: r :: c.drop (k + 2) := by
  have h1 : c.drop k = pr2 c k ++ c.drop (k + 2) := by
    unfold pr2
    rw [← List.drop_drop]
    exact (List.take_append_drop 2 (c.drop k)).symm
  rw [e] at h1
  calc c = c.take k ++ c.drop k := (List.take_append_drop k c).symm
    _ = _ := by rw [h1]; rfl
noncomputable def Low (C : PA) : Prop := (0 < C.l0 ∧ C.l0 < 256 ∧ 0 < C.r0 ∧ C.r0 < 256) ∧ (0 < C.l1 ∧ C.l1 < 257 ∧ 0 < C.r1 ∧ C.r1 < 257) ∧ (0 < C.l2 ∧ C.l2 < 258 ∧ 0 < C.r2 ∧ C.r2 < 258) ∧ (0 < C.l3 ∧ C.l3 < 259 ∧ 0 < C.r3 ∧ C.r3 < 259)
noncomputable def full (C : PA) (c : List Int) : List Int := roundF C.l3 C.r3 259 (roundF C.l2 C.r2 258 (roundF C.l1 C.r1 257 (roundF C.l0 C.r0 256 c)))
noncomputable def goodF (C : PA) (row c : List Int) : Prop := full C c = row ∧ ∀ x ∈ c, x ≠ 0
theorem rule_le {C : PA} {j : Nat} {s : List Int} (hj : j < 4) (e : s = prF C j) : ∃ r', r' ≤ j ∧ ruleOf C s = some r' := by
  subst e
  have hc : j = 0 ∨ j = 1 ∨ j = 2 ∨ j = 3 := by omega
  unfold ruleOf
  rcases hc with rfl | rfl | rfl | rfl
  · exact ⟨0, by omega, by rw [if_pos rfl]⟩
  · split
    · exact ⟨0, by omega, rfl⟩
    · exact ⟨1, by omega, by rw [if_pos rfl]⟩
  · split
    · exact ⟨0, by omega, rfl⟩
    · split
      · exact ⟨1, by omega, rfl⟩
      · exact ⟨2, by omega, by rw [if_pos rfl]⟩
  · split
    · exact ⟨0, by omega, rfl⟩
    · split
      · exact ⟨1, by omega, rfl⟩
      · split
        · exact ⟨2, by omega, rfl⟩
        · exact ⟨3, by omega, by rw [if_pos rfl]⟩
theorem rule_eq {C : PA} {r : Nat} {s : List Int} (e : ruleOf C s = some r) : s = prF C r := by
  unfold ruleOf at e
  split at e
  · injection e with e; subst e; exact Eq.symm (by assumption)
  · split at e
    · injection e with e; subst e; exact Eq.symm (by assumption)
    · split at e
      · injection e with e; subst e; exact Eq.symm (by assumption)
      · split at e
        · injection e with e; subst e; exact Eq.symm (by assumption)
        · cases e
theorem min_noP {C : PA} {c : List Int} {r k : Nat} (M : MinAt C c r k) {j : Nat} {a b : Int} (hj : j < 4) (he : prF C j = [a, b]) (hjr : j < r) : noP a b c := by
  refine noP_of fun p hp e => ?_
  obtain ⟨r', h1, h2⟩ := rule_le hj (e.trans he.symm)
  rcases M.first p r' hp h2 with q | ⟨q, _⟩ <;> omega
theorem min_noQ {C : PA} {c : List Int} {r k : Nat} (M : MinAt C c r k) {a b : Int} (hr : r < 4) (he : prF C r = [a, b]) : noP a b (c.take (k + 1)) := by
  refine noP_of fun p hp e => ?_
  have hf := M.fits
  rw [List.length_take] at hp
  have hp2 : p + 2 ≤ k + 1 := by omega
  rw [pr2_take hp2] at e
  obtain ⟨r', h1, h2⟩ := rule_le hr (e.trans he.symm)
  rcases M.first p r' (by omega) h2 with q | ⟨_, q⟩ <;> omega
theorem step_id {C : PA} {c : List Int} {r k : Nat} (M : MinAt C c r k) (hx : ∀ x ∈ c, x ≠ 0) {j : Nat} {a b m n : Int} (hj : j < 4) (he : prF C j = [a, b]) (hjr : j < r) (ha : 0 < a) (hma : m ≠ a) (hmb : m ≠ b) (hm : m ≠ 0) :
    roundF a b n c = c ∧ roundF a b n (c.take k ++ m :: c.drop (k + 2)) = c.take k ++ m :: c.drop (k + 2) := by
  have hp := min_noP M hj he hjr
  have ha' : a ≠ 0 := by omega
  refine ⟨round_id ha' hx hp, round_id ha' ?_ (noP_put hma hmb ?_ ?_)⟩
  · intro x h
    rcases List.mem_append.mp h with h | h
    · exact hx x (List.mem_of_mem_take h)
    · rcases List.mem_cons.mp h with rfl | h
      · exact hm
      · exact hx x (List.mem_of_mem_drop h)
  · exact noP_pre (a := c.take k) (b := c.drop k) (by rw [List.take_append_drop]; exact hp)
  · exact noP_suf (c.take (k + 2)) (by rw [List.take_append_drop]; exact hp)
theorem step_round {C : PA} {c : List Int} {r k : Nat} (M : MinAt C c r k) {a b m : Int} (hr : r < 4) (he : prF C r = [a, b]) (ha : 0 < a) (hma : m ≠ a) (hmb : m ≠ b) (hm : m ≠ 0) :
    roundF a b m c = roundF a b m (c.take k ++ m :: c.drop (k + 2)) := by
  have hq := min_noQ M hr he
  have hk := M.fits
  have e := (rule_eq M.here).trans he
  have hc := cut2 hk e
  have ht : c.take (k + 1) = c.take k ++ [a] := by
    have h1 : c[k]? = some a := by
      have := congrArg (fun l => l[0]?) e
      unfold pr2 at this
      simpa using this
    rw [List.take_add_one, h1]; rfl
  rw [ht] at hq
  calc roundF a b m c = roundF a b m (c.take k ++ a :: b :: c.drop (k + 2)) := by rw [← hc]
    _ = _ := round_put (by omega) hm hma hmb hq
theorem good_step {C : PA} (H : Low C) {row c : List Int} {r k : Nat} (hg : goodF C row c) (M : MinAt C c r k) : goodF C row (c.take k ++ [256 + (r : Int)] ++ c.drop (k + 2)) := by
  obtain ⟨hf, hx⟩ := hg
  unfold Low at H
  rw [List.append_assoc, List.singleton_append]
  have hr : r < 4 := ruleOf_lt M.here
  refine ⟨?_, ?_⟩
  · rw [← hf]
    have hc : r = 0 ∨ r = 1 ∨ r = 2 ∨ r = 3 := by omega
    unfold full
    rcases hc with rfl | rfl | rfl | rfl
    · have h0 := step_round (m := 256) M (by omega) (show prF C 0 = [C.l0, C.r0] from rfl) (by omega) (by omega) (by omega) (by omega)
      rw [show (256 : Int) + ((0 : Nat) : Int) = 256 from rfl, ← h0]
    · obtain ⟨a0, b0⟩ := step_id (m := 257) (n := 256) M hx (j := 0) (by omega) (show prF C 0 = [C.l0, C.r0] from rfl) (by omega) (by omega) (by omega) (by omega) (by omega)
      have h0 := step_round (m := 257) M (by omega) (show prF C 1 = [C.l1, C.r1] from rfl) (by omega) (by omega) (by omega) (by omega)
      rw [show (256 : Int) + ((1 : Nat) : Int) = 257 from rfl, a0, b0, ← h0]
    · obtain ⟨a0, b0⟩ := step_id (m := 258) (n := 256) M hx (j := 0) (by omega) (show prF C 0 = [C.l0, C.r0] from rfl) (by omega) (by omega) (by omega) (by omega) (by omega)
      obtain ⟨a1, b1⟩ := step_id (m := 258) (n := 257) M hx (j := 1) (by omega) (show prF C 1 = [C.l1, C.r1] from rfl) (by omega) (by omega) (by omega) (by omega) (by omega)
      have h0 := step_round (m := 258) M (by omega) (show prF C 2 = [C.l2, C.r2] from rfl) (by omega) (by omega) (by omega) (by omega)
      rw [show (256 : Int) + ((2 : Nat) : Int) = 258 from rfl, a0, b0, a1, b1, ← h0]
    · obtain ⟨a0, b0⟩ := step_id (m := 259) (n := 256) M hx (j := 0) (by omega) (show prF C 0 = [C.l0, C.r0] from rfl) (by omega) (by omega) (by omega) (by omega) (by omega)
      obtain ⟨a1, b1⟩ := step_id (m := 259) (n := 257) M hx (j := 1) (by omega) (show prF C 1 = [C.l1, C.r1] from rfl) (by omega) (by omega) (by omega) (by omega) (by omega)
      obtain ⟨a2, b2⟩ := step_id (m := 259) (n := 258) M hx (j := 2) (by omega) (show prF C 2 = [C.l2, C.r2] from rfl) (by omega) (by omega) (by omega) (by omega) (by omega)
      have h0 := step_round (m := 259) M (by omega) (show prF C 3 = [C.l3, C.r3] from rfl) (by omega) (by omega) (by omega) (by omega)
      rw [show (256 : Int) + ((3 : Nat) : Int) = 259 from rfl, a0, b0, a1, b1, a2, b2, ← h0]
  · intro x h
    rcases List.mem_append.mp h with h | h
    · exact hx x (List.mem_of_mem_take h)
    · rcases List.mem_cons.mp h with rfl | h
      · omega
      · exact hx x (List.mem_of_mem_drop h)
theorem good_end {C : PA} (H : Low C) {row c : List Int} (hg : goodF C row c) (hn : ∀ j, j + 2 ≤ c.length → ruleOf C (pr2 c j) = none) : c = row := by
  obtain ⟨hf, hx⟩ := hg
  unfold Low at H
  have key : ∀ {j : Nat} {a b : Int}, j < 4 → prF C j = [a, b] → noP a b c := fun {j a b} hj he => noP_of fun p hp e => by
    obtain ⟨r', _, h2⟩ := rule_le hj (e.trans he.symm)
    rw [hn p hp] at h2; cases h2
  rw [← hf]
  unfold full
  rw [round_id (by omega) hx (key (j := 0) (by omega) rfl), round_id (by omega) hx (key (j := 1) (by omega) rfl), round_id (by omega) hx (key (j := 2) (by omega) rfl), round_id (by omega) hx (key (j := 3) (by omega) rfl)]
theorem go_all {l r m : Int} {P : Int → Prop} (hm : P m) : ∀ (xs : List Int) (h : Int), (h ≠ 0 → P h) → (∀ x ∈ xs, P x) → ∀ y ∈ goR l r m h xs, P y
  | [], h, hh, _, y, hy => by
    unfold goR at hy
    split at hy
    · cases hy
    · rw [List.mem_singleton.mp hy]; exact hh (by assumption)
  | x :: xs, h, hh, hx, y, hy => by
    have hx1 := hx x (.head _)
    have hx2 : ∀ z ∈ xs, P z := fun z hz => hx z (.tail _ hz)
    unfold goR at hy
    split at hy
    · rcases List.mem_cons.mp hy with rfl | hy
      · exact hm
      · exact go_all hm xs 0 (fun q => absurd rfl q) hx2 y hy
    · split at hy
      · exact go_all hm xs x (fun _ => hx1) hx2 y hy
      · rcases List.mem_cons.mp hy with rfl | hy
        · exact hh (by assumption)
        · exact go_all hm xs x (fun _ => hx1) hx2 y hy
theorem round_all {l r m : Int} {P : Int → Prop} (hm : P m) {xs : List Int} (hx : ∀ x ∈ xs, P x) : ∀ y ∈ roundF l r m xs, P y := go_all hm xs 0 (fun q => absurd rfl q) hx
theorem go_len {l r m : Int} : ∀ (xs : List Int) (h : Int), (goR l r m h xs).length ≤ xs.length + (if h = 0 then 0 else 1)
  | [], h => by unfold goR; split <;> simp
  | x :: xs, h => by
    have h1 := go_len (l := l) (r := r) (m := m) xs x
    have h2 := go_len (l := l) (r := r) (m := m) xs 0
    rw [if_pos rfl] at h2
    unfold goR
    split
    · simp only [List.length_cons]; omega
    · split
      · simp only [List.length_cons]; split at h1 <;> omega
      · simp only [List.length_cons]; split at h1 <;> omega
theorem round_len {l r m : Int} (xs : List Int) : (roundF l r m xs).length ≤ xs.length := by
  have := go_len (l := l) (r := r) (m := m) xs 0
  rw [if_pos rfl] at this
  exact this
theorem go_yield {l r m : Int} {Y : Int → List Int} (hl : l ≠ 0) (hY : Y m = Y l ++ Y r) : ∀ (xs : List Int) (h : Int), (∀ x ∈ xs, x ≠ 0) → (goR l r m h xs).flatMap Y = (if h = 0 then [] else Y h) ++ xs.flatMap Y
  | [], h, _ => by unfold goR; split <;> simp
  | x :: xs, h, hx => by
    have hx1 := hx x (.head _)
    have hx2 : ∀ z ∈ xs, z ≠ 0 := fun z hz => hx z (.tail _ hz)
    unfold goR
    split
    · rename_i q
      obtain ⟨q1, q2⟩ := q
      rw [List.flatMap_cons, go_yield hl hY xs 0 hx2, if_pos rfl, if_neg (by rw [q1]; exact hl), List.flatMap_cons, hY, q1, q2]
      simp
    · split
      · rw [go_yield hl hY xs x hx2, if_neg hx1, List.flatMap_cons]; simp
      · rw [List.flatMap_cons, go_yield hl hY xs x hx2, if_neg hx1, List.flatMap_cons]
theorem round_yield {l r m : Int} {Y : Int → List Int} (hl : l ≠ 0) (hY : Y m = Y l ++ Y r) {xs : List Int} (hx : ∀ x ∈ xs, x ≠ 0) : (roundF l r m xs).flatMap Y = xs.flatMap Y := by
  unfold roundF
  rw [go_yield hl hY xs 0 hx, if_pos rfl, List.nil_append]
noncomputable def yA (m : Int) (l r : Int) (Y : Int → List Int) (x : Int) : List Int := if x = m then Y l ++ Y r else Y x
noncomputable def yF (C : PA) : Int → List Int := yA 259 C.l3 C.r3 (yA 258 C.l2 C.r2 (yA 257 C.l1 C.r1 (yA 256 C.l0 C.r0 fun x => [x])))
noncomputable def wF4 (x : Int) : Nat := if x = 256 then 3 else if x = 257 then 7 else if x = 258 then 15 else if x = 259 then 31 else 1
theorem yA_lt {m l r : Int} {Y : Int → List Int} {x : Int} (h : x < m) : yA m l r Y x = Y x := if_neg (by omega)
theorem yA_eq {m l r : Int} {Y : Int → List Int} : yA m l r Y m = Y l ++ Y r := if_pos rfl
theorem wF4_lt {x : Int} : (x < 256 → wF4 x = 1) ∧ (x < 257 → wF4 x ≤ 3) ∧ (x < 258 → wF4 x ≤ 7) ∧ (x < 259 → wF4 x ≤ 15) ∧ wF4 x ≤ 31 ∧ 1 ≤ wF4 x := by
  unfold wF4
  refine ⟨?_, ?_, ?_, ?_, ?_, ?_⟩ <;> (repeat' split) <;> omega
theorem yields {C : PA} (H : Low C) : Yields C (yF C) wF4 := by
  have z1 := H.1.1; have q1 := H.1.2.1; have z2 := H.1.2.2.1; have q2 := H.1.2.2.2
  have z3 := H.2.1.1; have q3 := H.2.1.2.1; have z4 := H.2.1.2.2.1; have q4 := H.2.1.2.2.2
  have z5 := H.2.2.1.1; have q5 := H.2.2.1.2.1; have z6 := H.2.2.1.2.2.1; have q6 := H.2.2.1.2.2.2
  have z7 := H.2.2.2.1; have q7 := H.2.2.2.2.1; have z8 := H.2.2.2.2.2.1; have q8 := H.2.2.2.2.2.2
  have w256 : wF4 256 = 3 := by decide
  have w257 : wF4 257 = 7 := by decide
  have w258 : wF4 258 = 15 := by decide
  have w259 : wF4 259 = 31 := by decide
  have a0 := (wF4_lt (x := C.l0)).1 (Int.lt_of_lt_of_le q1 (by decide))
  have b0 := (wF4_lt (x := C.r0)).1 (Int.lt_of_lt_of_le q2 (by decide))
  have a1 := (wF4_lt (x := C.l1)).2.1 (Int.lt_of_lt_of_le q3 (by decide))
  have b1 := (wF4_lt (x := C.r1)).2.1 (Int.lt_of_lt_of_le q4 (by decide))
  have a2 := (wF4_lt (x := C.l2)).2.2.1 (Int.lt_of_lt_of_le q5 (by decide))
  have b2 := (wF4_lt (x := C.r2)).2.2.1 (Int.lt_of_lt_of_le q6 (by decide))
  have a3 := (wF4_lt (x := C.l3)).2.2.2.1 (Int.lt_of_lt_of_le q7 (by decide))
  have b3 := (wF4_lt (x := C.r3)).2.2.2.1 (Int.lt_of_lt_of_le q8 (by decide))
  refine ⟨?_, ?_, ?_, ?_, ?_, fun x => wF4_lt.2.2.2.2.2, by rw [w256, a0, b0]; decide, by rw [w257]; exact Nat.lt_of_le_of_lt (Nat.add_le_add a1 b1) (by decide), by rw [w258]; exact Nat.lt_of_le_of_lt (Nat.add_le_add a2 b2) (by decide), by rw [w259]; exact Nat.lt_of_le_of_lt (Nat.add_le_add a3 b3) (by decide), ?_⟩
  · intro x _ h
    unfold yF
    have L : ∀ m : Int, 256 ≤ m → x < m := fun m e => Int.lt_of_lt_of_le h e
    rw [yA_lt (L _ (by decide)), yA_lt (L _ (by decide)), yA_lt (L _ (by decide)), yA_lt (L _ (by decide))]
  · unfold yF
    repeat rw [yA_lt (x := 256) (by decide)]
    rw [yA_eq]
    repeat rw [yA_lt (x := C.l0) (Int.lt_of_lt_of_le q1 (by decide))]
    repeat rw [yA_lt (x := C.r0) (Int.lt_of_lt_of_le q2 (by decide))]
  · unfold yF
    repeat rw [yA_lt (x := 257) (by decide)]
    rw [yA_eq, yA_lt (m := 259) (x := C.l1) (Int.lt_of_lt_of_le q3 (by decide)), yA_lt (m := 258) (x := C.l1) (Int.lt_of_lt_of_le q3 (by decide)), yA_lt (m := 257) (x := C.l1) (Int.lt_of_lt_of_le q3 (by decide)), yA_lt (m := 259) (x := C.r1) (Int.lt_of_lt_of_le q4 (by decide)), yA_lt (m := 258) (x := C.r1) (Int.lt_of_lt_of_le q4 (by decide)), yA_lt (m := 257) (x := C.r1) (Int.lt_of_lt_of_le q4 (by decide))]
  · unfold yF
    repeat rw [yA_lt (x := 258) (by decide)]
    rw [yA_eq, yA_lt (m := 259) (x := C.l2) (Int.lt_of_lt_of_le q5 (by decide)), yA_lt (m := 258) (x := C.l2) (Int.lt_of_lt_of_le q5 (by decide)), yA_lt (m := 259) (x := C.r2) (Int.lt_of_lt_of_le q6 (by decide)), yA_lt (m := 258) (x := C.r2) (Int.lt_of_lt_of_le q6 (by decide))]
  · unfold yF
    rw [yA_eq, yA_lt (m := 259) (x := C.l3) (Int.lt_of_lt_of_le q7 (by decide)), yA_lt (m := 259) (x := C.r3) (Int.lt_of_lt_of_le q8 (by decide))]
  · have L : ∀ {x m : Int}, 0 < x → x < m → m ≤ 260 → SymOk x := fun h g e => ⟨h, Int.lt_of_lt_of_le g e⟩
    exact ⟨L z1 q1 (by decide), L z2 q2 (by decide), L z3 q3 (by decide), L z4 q4 (by decide), L z5 q5 (by decide), L z6 q6 (by decide), L z7 q7 (by decide), L z8 q8 (by decide)⟩
theorem wSum_le {W : Int → Nat} {B : Nat} (h : ∀ x, W x ≤ B) : ∀ l : List Int, wSum W l ≤ l.length * B
  | [] => by simp [wSum]
  | x :: r => by
    have := wSum_le h r
    have := h x
    simp only [wSum, List.length_cons, Nat.succ_mul]
    omega
theorem full_facts {C : PA} (H : Low C) {ns : List Int} (hs : ∀ x ∈ ns, 0 < x ∧ x < 256) : goodF C (full C ns) ns ∧ (full C ns).flatMap (yF C) = ns ∧ (full C ns).length ≤ ns.length ∧ ∀ x ∈ full C ns, SymOk x := by
  have Y := yields H
  have hx : ∀ x ∈ ns, SymOk x := fun x h => ⟨(hs x h).1, by have := (hs x h).2; omega⟩
  have h1 := round_all (l := C.l0) (r := C.r0) (m := 256) (P := SymOk) (by unfold SymOk; omega) hx
  have h2 := round_all (l := C.l1) (r := C.r1) (m := 257) (P := SymOk) (by unfold SymOk; omega) h1
  have h3 := round_all (l := C.l2) (r := C.r2) (m := 258) (P := SymOk) (by unfold SymOk; omega) h2
  have h4 := round_all (l := C.l3) (r := C.r3) (m := 259) (P := SymOk) (by unfold SymOk; omega) h3
  have nz : ∀ {l : List Int}, (∀ x ∈ l, SymOk x) → ∀ x ∈ l, x ≠ 0 := fun h x hx => by have := (h x hx).1; omega
  unfold Low at H
  refine ⟨⟨rfl, nz hx⟩, ?_, ?_, h4⟩
  · unfold full
    rw [round_yield (by omega) Y.y3 (nz h3), round_yield (by omega) Y.y2 (nz h2), round_yield (by omega) Y.y1 (nz h1), round_yield (by omega) Y.y0 (nz hx)]
    clear h1 h2 h3 h4 hx
    induction ns with
    | nil => rfl
    | cons x r ih =>
      have hx := hs x (.head _)
      rw [List.flatMap_cons, Y.term x hx.1 hx.2, ih fun y hy => hs y (.tail _ hy)]
      rfl
  · unfold full
    exact Nat.le_trans (round_len _) (Nat.le_trans (round_len _) (Nat.le_trans (round_len _) (round_len _)))
section
local macro_rules | `(tactic| walk_at "pad") => `(tactic| skip)
theorem start13 : True := by
  w_top off
  trivial
noncomputable def rowQ (rem : List Int) : List Int := (rem ++ [0]).tail
noncomputable def rowI (w : World) (A : LA) (S : SA) (ln : Int) (tl : Tok) (g : Heap) (L D : Addr) (m₀ : Str → Option Value) (ns : List Int) (c : List Int × List Int) (h : Heap) : Prop :=
  ∃ t vs n us nD, Fr g L h (fun y => if y = Str.ofString "symbol" then some (.int (c.1.headD 0) t) else m₀ y) ∧ News g L h [(D, listOf us.toArray nD), (A.lx, instObj 52 A.dx), (A.dx, dictOf (lexEs w A S ln tl) 4), (A.pb, listOf vs.toArray n)] ∧
    WordsAre vs (rowQ c.1) ∧ IntsAre us c.2 ∧ c.2 ++ c.1 = ns
theorem rowI.mk {w : World} {A : LA} {S : SA} {ln : Int} {tl : Tok} {g : Heap} {L D : Addr} {m₀ : Str → Option Value} {ns : List Int} {c : List Int × List Int} {h : Heap} {t : Tok} {vs : List Value} {n : Nat} {us : List Value} {nD : Nat} (k0 : Fr g L h (fun y => if y = Str.ofString "symbol" then some (.int (c.1.headD 0) t) else m₀ y)) (k1 : News g L h [(D, listOf us.toArray nD), (A.lx, instObj 52 A.dx), (A.dx, dictOf (lexEs w A S ln tl) 4), (A.pb, listOf vs.toArray n)]) (k2 : WordsAre vs (rowQ c.1)) (k3 : IntsAre us c.2) (k4 : c.2 ++ c.1 = ns) : rowI w A S ln tl g L D m₀ ns c h := ⟨t, vs, n, us, nD, k0, k1, k2, k3, k4⟩
theorem row_spec {w : World} {loose : List Str} {mean : ExcName → Option Value} {mg mb : Str → Option Value} {A : LA} {S : SA} {h : Heap} {ln : Int} {tl : Tok} {n : Nat} {vs : List Value} {ns : List Int} (ND : LexN A S)
    (hlx : h.get? A.lx = some (instObj 52 A.dx)) (hdx : h.get? A.dx = some (dictOf (lexEs w A S ln tl) 4)) (hpb : h.get? A.pb = some (listOf vs.toArray n)) (hv : WordsAre vs (ns ++ [0])) (hns : ∀ k ∈ ns, 0 < k ∧ k < 4096) (hlen : ns.length ≤ 900) :
    Spec w loose mean mg mb (.call (.ref 130) ⟨[.ref A.lx], []⟩) 5 80 [A.pb] [A.lx, A.dx, A.pb] h
      (fun v h' => ∃ D us nD n', v = .ref D ∧ h.objs.size ≤ D ∧ h'.get? D = some (listOf us.toArray nD) ∧ IntsAre us ns ∧ h'.get? A.pb = some (listOf #[] n')) := by
  unfold Spec
  k_fill
  intro dp un gd base outer h₀ s R hs B X T k hmf hroom hunits hret
  subst hs
  have ND' := ND
  unfold LexN SN at ND'
  have hl1 := hv.length
  rw [List.length_append, List.length_singleton] at hl1
  obtain ⟨k₀, t₀, vs', e0, hv'⟩ : ∃ k₀ t₀ vs', vs = .str (wordF k₀) t₀ :: vs' ∧ k₀ = ns.headD 0 ∧ WordsAre vs' (rowQ ns) := by
    cases ns with
    | nil => cases hv with | cons k t h => exact ⟨0, _, _, rfl, rfl, h⟩
    | cons a r => cases hv with | cons k t h => exact ⟨a, _, _, rfl, rfl, h⟩
  obtain ⟨ek, hv'⟩ := hv'
  subst e0
  have hk0 : 0 ≤ k₀ ∧ k₀ < 4096 := by
    subst ek
    cases ns with
    | nil => exact ⟨by decide, by decide⟩
    | cons a r => exact ⟨Int.le_of_lt (hns a (.head _)).1, (hns a (.head _)).2⟩
  subst ek
  have hl2 : vs'.length ≤ 1000 := by rw [List.length_cons] at hl1; omega
  (refine' enter (news := ?news) ?k1 ?k2 ?k3 ?k4 ?kn ?kf ?k6 ?k7 ?k8 ?k9 ?kB ?_ ?c5 ?c2 ?c3 ?c4; (case k1 => assumption); (case k2 => assumption); (case k3 => assumption); (case k4 => assumption); (case k6 => k_is); (case k7 => k_is); (case k8 => (first | exact offU1 (by assumption) | (dsimp only [around]; omega))); (case k9 => exact BindsTo.of_eq rfl); (case c5 => decide); (case kB => exact locs rfl); (case c2 => exact rfl); (case c3 => exact rfl); (case c4 => exact rfl))
  case news => exact [(A.lx, instObj 52 A.dx), (A.dx, dictOf (lexEs w A S ln tl) 4), (A.pb, listOf (Value.str (wordF (ns.headD 0)) t₀ :: vs').toArray n)]
  case kn => simp only [List.forall_mem_cons]; exact ⟨hlx, hdx, hpb, List.forall_mem_nil _⟩
  case kf => exact hmf
  intro g L' h₁ F N B' X' T' hl hK hL
  k_lt hl
  clear B X T
  unfold lexEs at N
  (try dsimp only)
  show wpAny _ _ _ _ _ _
  k_fold
  (repeat' (first | (k_unfold; (try dsimp only)) | (dsimp only; k_unfold; try dsimp only) | (k_end; wrow_close) | walk1 | (dsimp only; walk1) | (leave1; (try dsimp only)) | fail "no step"))
  unfold Halt
  (rename Fr _ _ _ _ => F2); (rename News _ _ _ _ => N2)
  refine while_run (σ := List Int × List Int) (rowI w A S ln tl g L' _ _ ns) (fun c => c.1.length) (ns, []) ?hE ?turn ⟨_, _, _, [], _, F2, N2, hv', .nil, rfl⟩
  case hE => first | passes_own | with_unfolding_all passes_own
  clear F2 N2
  rintro ⟨rem, acc⟩ h tk hI
  refine hideG fun PP kP => ?_
  obtain ⟨t, vs, n, us, nD, F, N, hv, hi, e⟩ := hI
  refine kP ?_
  clear kP PP
  unfold lexEs at N
  dsimp only at F N hv hi e
  cases rem with
  | nil =>
    cases hv
    simp only [List.headD_nil] at F
    (repeat' (first | (k_unfold; (try dsimp only)) | (dsimp only; k_unfold; try dsimp only) | (k_end; wrow_close) | walk1 | (dsimp only; walk1) | (leave1; (try dsimp only)) | fail "no step"))
    (rename Fr _ _ _ _ => F5); (rename News _ _ _ _ => N5)
    refine hret _ _ _ (Keeps.narrow (hK _ (Fr.keep F5)) ?k1) ⟨_, us, nD, n, rfl, Nat.le_trans hL (Nat.le_of_lt (by assumption)), newsAt N5 0 rfl, ?k2, newsAt N5 3 rfl⟩
    case k1 => exact List.forall_mem_cons.mpr ⟨.inr ⟨_, hlx, newsAt N5 1 rfl⟩, List.forall_mem_cons.mpr ⟨.inr ⟨_, hdx, newsAt N5 2 rfl⟩, List.forall_mem_cons.mpr ⟨.inl (.head _), List.forall_mem_nil _⟩⟩⟩
    case k2 => rw [← e, List.append_nil]; exact hi
  | cons x r =>
    simp only [List.headD_cons] at F
    obtain ⟨k₀, t₀, vs', e0, ek2, hv'⟩ : ∃ k₀ t₀ vs', vs = .str (wordF k₀) t₀ :: vs' ∧ k₀ = r.headD 0 ∧ WordsAre vs' (rowQ r) := by
      cases r with
      | nil => cases hv with | cons k t h => exact ⟨0, _, _, rfl, rfl, h⟩
      | cons a r => cases hv with | cons k t h => exact ⟨a, _, _, rfl, rfl, h⟩
    subst e0 ek2
    have hx := hns x (by rw [← e]; simp)
    have hk1 : 0 ≤ r.headD 0 ∧ r.headD 0 < 4096 := by
      cases r with
      | nil => exact ⟨by decide, by decide⟩
      | cons a r => have q := hns a (by rw [← e]; simp); exact ⟨Int.le_of_lt q.1, q.2⟩
    have hus : us.length ≤ 1000 := by
      have q := IntsAre.length hi
      have q2 := congrArg List.length e
      simp at q2
      omega
    have hl3 : vs'.length ≤ 1000 := by
      have q := hv'.length
      have q2 := congrArg List.length e
      unfold rowQ at q
      simp at q q2
      omega
    (repeat' (first | (k_unfold; (try dsimp only)) | (dsimp only; k_unfold; try dsimp only) | (k_end; wrow_close) | walk1 | (dsimp only; walk1) | (leave1; (try dsimp only)) | fail "no step"))
    (rename Fr _ _ _ _ => F5); (rename News _ _ _ _ => N5)
    simp only [List.push_toArray] at N5
    refine LoopPost.mk (r, acc ++ [x]) (Nat.lt_succ_self _) (rowI.mk (vs := vs') (us := us ++ [.int x _]) (frSet1 F5) N5 hv' (ints_snoc hi x _) ?_)
    rw [← e, List.append_assoc]; rfl
end
theorem sum_bound {B : Int} (hB : 0 ≤ B) : ∀ l : List Int, (∀ x ∈ l, 0 ≤ x ∧ x ≤ B) → 0 ≤ l.sum ∧ l.sum ≤ (l.length : Int) * B
  | [], _ => by simp
  | x :: r, h => by
    have h1 := h x (.head _)
    have h2 := sum_bound hB r fun y hy => h y (.tail _ hy)
    simp only [List.sum_cons, List.length_cons, Int.natCast_succ, Int.add_mul, Int.one_mul]
    omega
theorem tot_le {w : List Int} {n : Nat} {T : Int} (hT : 7186778 + (List.map (fun k' => (k' + 1) * (w.getD k'.toNat 0).fmod 1000000) (rangeKs 0 n)).sum = T) (hn : n ≤ 60) : 7186778 ≤ T ∧ T < 4000000000 := by
  have h := sum_bound (B := 60000000) (by decide) (List.map (fun k' => (k' + 1) * (w.getD k'.toNat 0).fmod 1000000) (rangeKs 0 n)) (by
    intro x hx
    obtain ⟨k, hk, rfl⟩ := List.mem_map.mp hx
    have hk := mem_rangeKs hk
    have h0 : 0 ≤ (w.getD k.toNat 0).fmod 1000000 := Int.fmod_nonneg_of_pos _ (by decide)
    have h1 : (w.getD k.toNat 0).fmod 1000000 < 1000000 := Int.fmod_lt_of_pos _ (by decide)
    refine ⟨Int.mul_nonneg (by omega) h0, ?_⟩
    have h2 : (k + 1) * (w.getD k.toNat 0).fmod 1000000 ≤ 60 * (w.getD k.toNat 0).fmod 1000000 := Int.mul_le_mul_of_nonneg_right (by omega) h0
    omega)
  rw [List.length_map, rangeKs_length] at h
  have : (n : Int) * 60000000 ≤ 60 * 60000000 := Int.mul_le_mul_of_nonneg_right (by omega) (by decide)
  omega
theorem fmod48 (x : Int) : 0 ≤ x.fmod 48 ∧ x.fmod 48 < 48 := ⟨Int.fmod_nonneg_of_pos _ (by decide), Int.fmod_lt_of_pos _ (by decide)⟩
theorem if_mem {α : Type} {f : Int → Prop} [∀ k, Decidable (f k)] {fi se : α} {l : List Int} : ∀ d ∈ List.map (fun k' => if f k' then se else fi) l, d = fi ∨ d = se := by
  intro d hd
  obtain ⟨k, _, rfl⟩ := List.mem_map.mp hd
  by_cases h : f k
  · right; rw [if_pos h]
  · left; rw [if_neg h]
theorem turns_L {prog : Program} {w : World} {A : Around} {h₀ : Heap} {L : Addr} {m : Str → Option Value} {env : Env} {elt : Expr} {x : Str} {scope : Scope} {cl : List (Str × Addr)} {s : Shared} {S : List (Addr × Obj) → Prop} {P : Nat → Value → Prop}
    {Fin : List Value → List (Addr × Obj) → Prop} {n : Nat} (Inv : Nat → List Value → List (Addr × Obj) → Prop) {ys₀ : List Value} {news₀ : List (Addr × Obj)} (start : Inv 0 ys₀ news₀)
    (turn : ∀ i ys news, i < n → Inv i ys news → ∀ v I oI C oC D m₂ h tk (E' : Value → Shared → Prop), P i v → LCg.NsObj oC m₂ → m₂ x = some v → Fr h₀ L h m → News h₀ L h ((I, oI) :: (C, oC) :: (D, LCg.lst ys) :: news) → LCg.Off3 I C D news → ((@Ne Nat I C) ∧ (@Ne Nat I D) ∧ (@Ne Nat C D)) →
      wpAny (model prog w) A (PySem.eval elt (compEnvC scope cl C env)) (LCg.CompEnd h₀ L m { s with heap := h, toks := tk } I oI C oC D (LCg.lst ys) S (fun y news' => Inv (i + 1) (ys ++ [y]) news')) E' { s with heap := h, toks := tk })
    (fin : ∀ ys news, Inv n ys news → Fin ys news) : LCg.CompRest prog w A h₀ L m env elt x scope cl s S P Fin n 0 ys₀ news₀ := by
  have key : ∀ k i ys news, i + k = n → Inv i ys news → LCg.CompRest prog w A h₀ L m env elt x scope cl s S P Fin k i ys news := by
    intro k
    induction k with
    | zero =>
      intro i ys news e iv
      have e' : i = n := by omega
      subst e'
      exact LCg.CompRest.zero (fin _ _ iv)
    | succ k ih =>
      intro i ys news e iv
      refine LCg.CompRest.succ fun v I oI C oC D m₂ h tk E' a1 a2 a3 a4 a5 a6 a7 => ?_
      refine wpAny_mono (turn i ys news (by omega) iv v I oI C oC D m₂ h tk E' a1 a2 a3 a4 a5 a6 a7) (fun y s'' hy => ?_) fun _ _ x => x
      obtain ⟨h', tk', news', q1, q2, q3, q4, q5, q6⟩ := hy
      exact ⟨h', tk', news', q1, q2, q3, q4, q5, ih (i + 1) _ _ (by omega) q6⟩
  exact key n 0 _ _ (by omega) start
noncomputable def opsText : Str := Str.ofString "( ) [ ] : , ; + - * / | & < > = . % { } == != <= >= ~ ^ << >> ** += -= *= /= %= &= |= ^= <<= >>= **= // //= @ @= -> ... := !"
noncomputable def opTbl : List (List Nat) := [[40], [41], [91], [93], [58], [44], [59], [43], [45], [42], [47], [124], [38], [60], [62], [61], [46], [37], [123], [125], [61, 61], [33, 61], [60, 61], [62, 61], [126], [94], [60, 60], [62, 62], [42, 42], [43, 61], [45, 61], [42, 61], [47, 61], [37, 61], [38, 61], [124, 61], [94, 61], [60, 60, 61], [62, 62, 61], [42, 42, 61], [47, 47], [47, 47, 61], [64], [64, 61], [45, 62], [46, 46, 46], [58, 61], [33]]
noncomputable def opw (i : Nat) : List Nat := opTbl.getD i []
theorem ops_split : Txt.split opsText (Str.ofString " ") = opTbl.map textOf := by decide +kernel
theorem opw_ok : ∀ i, i < 48 → 0 < (opw i).length ∧ (opw i).length ≤ 3 ∧ ∀ c ∈ opw i, c < 128 := by decide +kernel
theorem ops_at {l : List (Str × Tok)} (e : l.map (fun x => x.1) = opTbl.map textOf) {i : Nat} (hi : i < 48) : ∃ t, (strValues l)[i]? = some (.str (textOf (opw i)) t) := by
  have h1 : (l.map (fun x => x.1))[i]? = some (textOf (opw i)) := by
    rw [e, List.getElem?_map]
    unfold opw
    rw [List.getD_eq_getElem?_getD]
    have : i < opTbl.length := hi
    rw [List.getElem?_eq_getElem this]
    rfl
  rw [List.getElem?_map] at h1
  unfold strValues
  rw [List.getElem?_map]
  cases q : l[i]? with
  | none => rw [q] at h1; cases h1
  | some p =>
    rw [q] at h1
    injection h1 with h1
    exact ⟨p.2, by rw [← h1]; rfl⟩
theorem ints_at {vs : List Value} {ns : List Int} (h : IntsAre vs ns) : ∀ {i : Nat}, i < ns.length → ∃ t, vs[i]? = some (.int (ns.getD i 0) t) := by
  induction h with
  | nil => intro i hi; simp at hi
  | cons k t h ih =>
    intro i hi
    cases i with
    | zero => exact ⟨t, rfl⟩
    | succ i => obtain ⟨t', e⟩ := ih (i := i) (by simpa using hi); exact ⟨t', by simpa using e⟩
theorem newsPick {h₀ h : Heap} {L : Addr} {news : List (Addr × Obj)} (N : News h₀ L h news) (is : List Nat) : News h₀ L h (is.filterMap fun i => news[i]?) := by
  intro p hp
  obtain ⟨i, _, hi⟩ := List.mem_filterMap.mp hp
  exact N p (List.mem_of_getElem? hi)
theorem n60 (l : Int) : ((if 60 < l then 60 else l) - 0).toNat ≤ 60 := by split <;> omega
theorem ds12 {f : Int → Int} : (List.map f (rangeKs 0 (12 - 0 : Int).toNat)).length = 12 := by rw [List.length_map, rangeKs_length]; rfl
theorem item_list {prog : Program} {w : World} {A : Around} {E : Value → Shared → Prop} {s : Shared} {value slice : PySem.Expr} {l : Addr} {items : Array Value} {k : Int} {u : Tok} {v : Value} {Q : Value → Shared → Prop} (hl : s.heap.IsList l items) (h0 : 0 ≤ k) (hfit : k < 2 ^ 63) (ht : items[k.toNat]? = some v) (h : Q v s)
    (hs : subscripted slice false (.ref l) (.int k u) = operate [.ref l, .int k u] (getItem (.ref l) (.int k u)) := by with_unfolding_all rfl) (hg : ∀ r, letTemporaryGo value (.ref l) r = pure () := by intro _; with_unfolding_all rfl) :
    wpAny (model prog w) A (subscriptTail value slice (.ref l) (.int k u)) Q E s :=
  subscriptTail_builtin hl.typeIs PySem.F.slot_list_getitem.lookup (wpAny_getItem_list hl h0 hfit ht h) hs hg
theorem z0 (i : Nat) : (0 + (i : Int)).toNat = i := by omega
theorem ds_at {ds : List Int} {fi se : Int} (h12 : ds.length = 12) (hd : ∀ d ∈ ds, d = fi ∨ d = se) (hf : 0 ≤ fi ∧ fi < 48) (hs : 0 ≤ se ∧ se < 48) {i : Nat} (hi : i < 12) : 0 ≤ ds.getD i 0 ∧ ds.getD i 0 < 48 := by
  have h := hd (ds.getD i 0) (by rw [List.getD_eq_getElem?_getD, List.getElem?_eq_getElem (by omega), Option.getD_some]; exact List.getElem_mem _)
  rcases h with h | h <;> rw [h] <;> assumption
theorem op_item {ops : List (Str × Tok)} {ds : List Int} {i : Nat} (e : ops.map (fun x => x.1) = opTbl.map textOf) (hd : 0 ≤ ds.getD i 0 ∧ ds.getD i 0 < 48) : ∃ t, (strValues ops).toArray[(ds.getD (0 + (i : Int)).toNat 0).toNat]? = some (.str (textOf (opw (ds.getD i 0).toNat)) t) := by
  rw [z0]
  obtain ⟨t, h⟩ := ops_at e (i := (ds.getD i 0).toNat) (by omega)
  exact ⟨t, by rw [List.getElem?_toArray]; exact h⟩
theorem p3 (n : Nat) : (0 : Int) < 3 ^ n := Int.pow_pos (by decide)
theorem p3n (n : Nat) : (3 : Int) ^ n ≠ 0 := fun q => absurd (p3 n) (by rw [q]; decide)
theorem way_ok {T : Int} (h : 7186778 ≤ T ∧ T < 4000000000) (n : Nat) : 0 ≤ T.fdiv (3 ^ n) ∧ T.fdiv (3 ^ n) < 10000000000 := by
  have hp := p3 n
  refine ⟨Int.fdiv_nonneg (by omega) (Int.le_of_lt hp), ?_⟩
  rw [Int.fdiv_eq_ediv_of_nonneg _ (Int.le_of_lt hp)]
  have : T / 3 ^ n ≤ T := Int.ediv_le_self _ (by omega)
  omega
theorem p3log {n : Nat} (h : n < 12) : ((3 : Int) ^ (0 + (n : Int)).toNat).natAbs.log2 < 9000 := by
  rw [z0]
  have key : ∀ n, n < 12 → ((3 : Int) ^ n).natAbs.log2 < 9000 := by decide +kernel
  exact key n h
theorem strs_step {zs : List Value} {f : Nat → Str} {i : Nat} {x : Str} {t : Tok} (h : StrsAre zs ((List.range i).map f)) (e : x = f i) : StrsAre (zs ++ [.str x t]) ((List.range (i + 1)).map f) := by
  rw [List.range_succ, List.map_append, e]
  exact kct_snoc h
theorem text_step {T : Int} {ds : List Int} {zs : List Value} {i : Nat} {t : Tok} (h : StrsAre zs ((List.range i).map fun k => textOf (writF (opw (ds.getD k 0).toNat) (T.fdiv (3 ^ k))))) :
    StrsAre (zs ++ [.str (textOf (writF (opw (ds.getD i 0).toNat) (T.fdiv (3 ^ (0 + (i : Int)).toNat)))) t]) ((List.range (i + 1)).map fun k => textOf (writF (opw (ds.getD k 0).toNat) (T.fdiv (3 ^ k)))) :=
  strs_step h (by rw [z0])
noncomputable def textL (T : Int) (ds : List Int) : List Nat := (List.range 12).flatMap fun k => writF (opw (ds.getD k 0).toNat) (T.fdiv (3 ^ k))
theorem text_carried {T : Int} {ds : List Int} {zs : List Value} (h : StrsAre zs ((List.range 12).map fun k => textOf (writF (opw (ds.getD k 0).toNat) (T.fdiv (3 ^ k))))) :
    CarriedAll zs ((List.range 12).map fun k => PyData.str (textOf (writF (opw (ds.getD k 0).toNat) (T.fdiv (3 ^ k))))) := by
  have hc := h.carried
  rw [List.map_map] at hc
  exact hc
theorem text_join {T : Int} {ds : List Int} : Txt.join (Str.ofString "") ((List.range 12).map fun k => textOf (writF (opw (ds.getD k 0).toNat) (T.fdiv (3 ^ k)))) = textOf (textL T ds) := by
  have h := join_texts ((List.range 12).map fun k => writF (opw (ds.getD k 0).toNat) (T.fdiv (3 ^ k)))
  rw [List.map_map] at h
  unfold textL
  rw [List.flatMap_def]
  exact h
theorem opw_len3 (n : Nat) : (opw n).length ≤ 3 := by
  by_cases h : n < 48
  · exact (opw_ok n h).2.1
  · have : opw n = [] := by
      unfold opw
      rw [List.getD_eq_getElem?_getD, List.getElem?_eq_none (by have : opTbl.length = 48 := rfl; omega)]
      rfl
    rw [this]; decide
theorem esc_len2 (l : List Nat) : (l.flatMap fun c => [92, c]).length = 2 * l.length := by
  induction l with
  | nil => rfl
  | cons x r ih => simp only [List.flatMap_cons, List.length_append, List.length_cons, List.length_nil, ih]; omega
theorem writ_len {wd : List Nat} (h : wd.length ≤ 3) (way : Int) : (writF wd way).length ≤ 7 := by
  unfold writF
  split
  · simp only [List.length_append, List.length_cons, List.length_nil]; omega
  · split
    · simp only [List.length_append, List.length_cons, List.length_nil, esc_len2]; omega
    · simp only [List.length_append, List.length_cons, List.length_nil]; omega
theorem textOf_len2 (l : List Nat) : (textOf l).length = l.length := by simp [textOf, PySem.Str.length]
theorem text_each {T : Int} {ds : List Int} : ∀ k ∈ List.range 12, (textOf (writF (opw (ds.getD k 0).toNat) (T.fdiv (3 ^ k)))).length ≤ 10 := by
  intro k _
  rw [textOf_len2]
  exact Nat.le_trans (writ_len (opw_len3 _) _) (by decide)
theorem flat_len2 {f : Nat → List Nat} {B : Nat} (h : ∀ k, (f k).length ≤ B) : ∀ l : List Nat, (l.flatMap f).length ≤ B * l.length
  | [] => by simp
  | x :: r => by
    have := flat_len2 h r
    have := h x
    simp only [List.flatMap_cons, List.length_append, List.length_cons, Nat.mul_succ]
    omega
theorem textL_len (T : Int) (ds : List Int) : (textL T ds).length ≤ 84 := flat_len2 (B := 7) (fun k => writ_len (opw_len3 _) _) (List.range 12)
theorem textL_ok (T : Int) (ds : List Int) : (textOf (textL T ds)).length ≤ 1000 := by rw [textOf_len2]; exact Nat.le_trans (textL_len _ _) (by decide)
theorem news_keep {h₀ h h' : Heap} {L : Addr} {news : List (Addr × Obj)} {muts : List Addr} (N : News h₀ L h news) (k : Keeps muts h h') (hn : ∀ p ∈ news, p.1 ∉ muts) : News h₀ L h' news := fun p hp => News.keeps2 N k hp (hn p hp)
theorem news_cons {h₀ h : Heap} {L a : Addr} {o : Obj} {news : List (Addr × Obj)} (x : h.get? a = some o ∧ a ≠ L ∧ h₀.get? a = none) (N : News h₀ L h news) : News h₀ L h ((a, o) :: news) := by
  intro p hp
  rcases List.mem_cons.mp hp with rfl | hp
  · exact x
  · exact N p hp
theorem news_keep82 {h₀ h h' : Heap} {L : Addr} {news : List (Addr × Obj)} (N : News h₀ L h news) (k : Keeps [82] h h') (hn : ∀ p ∈ news, p.1 ≠ 82) : News h₀ L h' news := fun p hp => News.keeps2 N k hp (fun q => hn p hp (List.mem_singleton.mp q))
structure LawFacts (T fi se : Int) (ds : List Int) : Prop where
  hT : 7186778 ≤ T ∧ T < 4000000000
  hf : 0 ≤ fi ∧ fi < 48
  hs : 0 ≤ se ∧ se < 48
  h12 : ds.length = 12
  hm : ∀ d ∈ ds, d = fi ∨ d = se
noncomputable def wF (T : Int) (ds : List Int) (k : Nat) : List Nat := writF (opw (ds.getD k 0).toNat) (T.fdiv (3 ^ k))
noncomputable def sufL (T : Int) (ds : List Int) (i : Nat) : List Nat := ((List.range 12).drop i).flatMap (wF T ds)
theorem suf0 (T : Int) (ds : List Int) : sufL T ds 0 = textL T ds := rfl
theorem suf12 (T : Int) (ds : List Int) : sufL T ds 12 = [] := rfl
theorem suf_step (T : Int) (ds : List Int) {i : Nat} (h : i < 12) : sufL T ds i = wF T ds i ++ sufL T ds (i + 1) := by
  have e : (List.range 12).drop i = i :: (List.range 12).drop (i + 1) := by
    rw [List.drop_eq_getElem_cons (by simpa using h), List.getElem_range]
  unfold sufL
  rw [e, List.flatMap_cons]
theorem blank_ws (way : Int) : isWs (blankF way) = true := by
  unfold blankF
  split
  · rfl
  · split
    · rfl
    · split <;> rfl
theorem tok_cut {wd : List Nat} {way : Int} (h0 : wd ≠ []) (hg : ∀ c ∈ wd, c ≠ 34 ∧ c ≠ 92 ∧ isWs c = false) : ∃ (pc : Piece) (post : List Nat), writF wd way = pc.enc ++ post ∧ (∀ b ∈ post, isWs b = true) ∧ pc.val = wd ∧ pc.over = 0 ∧ ∀ rest, pc.ok rest := by
  unfold writF
  split
  · exact ⟨.quoted wd, [blankF way], rfl, fun b hb => by rw [List.mem_singleton.mp hb]; exact blank_ws way, rfl, rfl, fun _ c hc => ⟨(hg c hc).1, (hg c hc).2.1⟩⟩
  · split
    · refine ⟨.bare (wd.map fun c => (true, c)) (blankF way), [], ?_, fun b hb => (by cases hb), ?_, rfl, fun _ => ⟨?_, ?_, blank_ws way⟩⟩
      · simp only [Piece.enc, List.append_nil]
        congr 1
        clear h0 hg
        induction wd with
        | nil => rfl
        | cons c r ih => simp only [List.flatMap_cons, List.map_cons, ih]; rfl
      · simp only [Piece.val, List.map_map]; exact List.map_id wd
      · simpa using h0
      · intro i hi e
        obtain ⟨c, _, rfl⟩ := List.mem_map.mp hi
        cases e
    · refine ⟨.bare (wd.map fun c => (false, c)) (blankF way), [], ?_, fun b hb => (by cases hb), ?_, rfl, fun _ => ⟨?_, ?_, blank_ws way⟩⟩
      · simp only [Piece.enc, List.append_nil]
        congr 1
        clear h0 hg
        induction wd with
        | nil => rfl
        | cons c r ih => simp only [List.flatMap_cons, List.map_cons, ← ih]; rfl
      · simp only [Piece.val, List.map_map]; exact List.map_id wd
      · simpa using h0
      · intro i hi _
        obtain ⟨c, hc, rfl⟩ := List.mem_map.mp hi
        exact hg c hc
structure TokSt (T : Int) (ds : List Int) (i : Nat) (ln p : Int) (pre : List Nat) : Prop where
  con : ∃ con, con ++ (pre ++ sufL T ds i) = textL T ds ∧ ln = lns 1 con ∧ p = con.length
  bl : ∀ b ∈ pre, isWs b = true
theorem lns_app (ln : Int) (a b : List Nat) : lns (lns ln a) b = lns ln (a ++ b) := by
  unfold lns
  rw [List.count_append]
  omega
theorem rem_of {con l txt : List Nat} (h : con ++ l = txt) : Rem (textOf txt) (con.length : Int) l := by
  refine ⟨Int.natCast_nonneg _, ?_⟩
  rw [← h]
  simp [textOf]
theorem tokSt0 (T : Int) (ds : List Int) : TokSt T ds 0 1 0 [] := ⟨⟨[], by simp [suf0], rfl, rfl⟩, fun b hb => by cases hb⟩
theorem opw_good : ∀ i, i < 48 → opw i ≠ [] ∧ ∀ c ∈ opw i, c ≠ 34 ∧ c ≠ 92 ∧ isWs c = false := by decide +kernel
theorem tok_turn {T : Int} {ds : List Int} {i : Nat} {ln p : Int} {pre : List Nat} (S : TokSt T ds i ln p pre) (hi : i < 12) (hd : 0 ≤ ds.getD i 0 ∧ ds.getD i 0 < 48) :
    ∃ (pc : Piece) (pre' : List Nat), (∀ rest, pc.ok rest) ∧ pc.over = 0 ∧ pc.val = opw (ds.getD i 0).toNat ∧ Rem (textOf (textL T ds)) p (pre ++ (pc.enc ++ (pre' ++ sufL T ds (i + 1)))) ∧ TokSt T ds (i + 1) (lns ln (pre ++ pc.enc)) (p + ((pre ++ pc.enc).length : Nat)) pre' ∧
      0 ≤ ln ∧ ln + ((pre ++ pc.enc).length : Nat) ≤ 900 ∧ p + ((pre ++ pc.enc).length : Nat) ≤ 900 := by
  obtain ⟨⟨con, hcon, hln, hp⟩, hbl⟩ := S
  obtain ⟨g1, g2⟩ := opw_good (ds.getD i 0).toNat (by omega)
  obtain ⟨pc, post, h1, h2, h3, h4, h5⟩ := tok_cut (way := T.fdiv (3 ^ i)) g1 g2
  have e : sufL T ds i = pc.enc ++ (post ++ sufL T ds (i + 1)) := by
    rw [suf_step T ds hi, ← List.append_assoc, ← h1]; rfl
  rw [e] at hcon
  have hl := congrArg List.length hcon
  have hx := textL_len T ds
  simp only [List.length_append] at hl
  have hc := List.count_le_length (a := 10) (l := con)
  refine ⟨pc, post, h5, h4, h3, ?_, ⟨⟨con ++ (pre ++ pc.enc), ?_, ?_, ?_⟩, h2⟩, ?_, ?_, ?_⟩
  · rw [hp]; exact rem_of hcon
  · rw [← hcon]; simp only [List.append_assoc]
  · rw [hln, lns_app]
  · rw [hp]; simp only [List.length_append]; omega
  · rw [hln]; unfold lns; omega
  · rw [hln]; unfold lns; simp only [List.length_append]; omega
  · rw [hp]; simp only [List.length_append]; omega
theorem tok_end {T : Int} {ds : List Int} {ln p : Int} {pre : List Nat} (S : TokSt T ds 12 ln p pre) : Rem (textOf (textL T ds)) p (pre ++ (Piece.done.enc ++ [])) ∧ lns ln (pre ++ Piece.done.enc) = 1 + (((textL T ds).count 10 : Nat) : Int) ∧ 0 ≤ ln ∧ ln + ((pre ++ Piece.done.enc).length : Nat) ≤ 900 ∧ p + ((pre ++ Piece.done.enc).length : Nat) ≤ 900 := by
  obtain ⟨⟨con, hcon, hln, hp⟩, hbl⟩ := S
  rw [suf12, List.append_nil] at hcon
  have hl := congrArg List.length hcon
  have hx := textL_len T ds
  simp only [List.length_append] at hl
  have hc := List.count_le_length (a := 10) (l := con)
  refine ⟨?_, ?_, ?_, ?_, ?_⟩
  · rw [hp]; simp only [Piece.enc, List.append_nil]; exact rem_of hcon
  · rw [hln, lns_app]; simp only [Piece.enc, List.append_nil]; rw [hcon]; rfl
  · rw [hln]; unfold lns; omega
  · rw [hln]; unfold lns; simp only [Piece.enc, List.length_append, List.length_nil]; omega
  · rw [hp]; simp only [Piece.enc, List.length_append, List.length_nil]; omega
theorem news_two {h₀ h h' : Heap} {L a b : Addr} {oa ob oa' ob' : Obj} {rest : List (Addr × Obj)} (N : News h₀ L h ((a, oa) :: (b, ob) :: rest)) (k : Keeps [a, b] h h') (ha : h'.get? a = some oa') (hb : h'.get? b = some ob') (hn : ∀ p ∈ rest, p.1 ≠ a ∧ p.1 ≠ b) : News h₀ L h' ((a, oa') :: (b, ob') :: rest) := by
  intro p hp
  rcases List.mem_cons.mp hp with rfl | hp
  · exact News.mut2 N (p := (a, oa)) (.head _) ha
  rcases List.mem_cons.mp hp with rfl | hp
  · exact News.mut2 N (p := (b, ob)) (.tail _ (.head _)) hb
  · refine News.keeps2 N k (.tail _ (.tail _ hp)) fun q => ?_
    rcases List.mem_cons.mp q with q | q
    · exact (hn p hp).1 q
    · exact (hn p hp).2 (List.mem_singleton.mp q)
theorem lexA_of {w : World} {S : SA} {h : Heap} {pb lx dx : Nat} {k1 k2 k3 k4 tw tl : Tok} {ln : Int} (_el : h.get? lx = some (instObj 52 dx)) (e : h.get? dx = some (dictOf (lexEs w ⟨lx, dx, pb, k1, k2, k3, k4, tw⟩ S ln tl) 4)) :
    ∃ A : LA, A.lx = lx ∧ A.dx = dx ∧ A.pb = pb ∧ ∃ tl, h.get? A.dx = some (dictOf (lexEs w A S ln tl) 4) := ⟨⟨lx, dx, pb, k1, k2, k3, k4, tw⟩, rfl, rfl, rfl, tl, e⟩
noncomputable def wordsI {T fi se : Int} {ds : List Int} (_ : LawFacts T fi se ds) (w : World) (A : LA) (S : SA) (rest : List (Addr × Obj)) (i : Nat) (zs : List Value) (news : List (Addr × Obj)) : Prop :=
  ∃ ln p pre tl tp n, news = (A.dx, dictOf (lexEs w A S ln tl) 4) :: (S.pl, listOf #[.int p tp] n) :: rest ∧ TokSt T ds i ln p pre ∧ StrsAre zs ((List.range i).map fun k => textOf (opw (ds.getD k 0).toNat))
theorem LawFacts.at {T fi se : Int} {ds : List Int} (L : LawFacts T fi se ds) {i : Nat} (hi : i < 12) : 0 ≤ ds.getD i 0 ∧ ds.getD i 0 < 48 := ds_at L.h12 L.hm L.hf L.hs hi
theorem news_turn {h₀ h h' : Heap} {L I C D a b : Addr} {oI oC oD oa ob oa' ob' : Obj} {rest : List (Addr × Obj)} (N : News h₀ L h ((I, oI) :: (C, oC) :: (D, oD) :: (a, oa) :: (b, ob) :: rest)) (k : Keeps [a, b] h h') (ha : h'.get? a = some oa') (hb : h'.get? b = some ob')
    (off : LCg.Off3 I C D ((a, oa) :: (b, ob) :: rest)) (hn : ∀ p ∈ rest, p.1 ≠ a ∧ p.1 ≠ b) : News h₀ L h' ((I, oI) :: (C, oC) :: (D, oD) :: (a, oa') :: (b, ob') :: rest) ∧ LCg.Off3 I C D ((a, oa') :: (b, ob') :: rest) := by
  have oa1 := LCg.Off3.mem off (a, oa) (.head _)
  have ob1 := LCg.Off3.mem off (b, ob) (.tail _ (.head _))
  refine ⟨fun p hp => ?_, LCg.Off3.of fun p hp => ?_⟩
  · have kp : ∀ {p : Addr × Obj}, p ∈ ((I, oI) :: (C, oC) :: (D, oD) :: (a, oa) :: (b, ob) :: rest) → p.1 ≠ a → p.1 ≠ b → h'.get? p.1 = some p.2 ∧ p.1 ≠ L ∧ h₀.get? p.1 = none := fun hp q1 q2 => News.keeps2 N k hp fun q => by
      rcases List.mem_cons.mp q with q | q
      · exact q1 q
      · exact q2 (List.mem_singleton.mp q)
    rcases List.mem_cons.mp hp with rfl | hp
    · exact kp (p := (I, oI)) (.head _) (Ne.symm oa1.1) (Ne.symm ob1.1)
    rcases List.mem_cons.mp hp with rfl | hp
    · exact kp (p := (C, oC)) (.tail _ (.head _)) (Ne.symm oa1.2.1) (Ne.symm ob1.2.1)
    rcases List.mem_cons.mp hp with rfl | hp
    · exact kp (p := (D, oD)) (.tail _ (.tail _ (.head _))) (Ne.symm oa1.2.2) (Ne.symm ob1.2.2)
    rcases List.mem_cons.mp hp with rfl | hp
    · exact News.mut2 N (p := (a, oa)) (.tail _ (.tail _ (.tail _ (.head _)))) ha
    rcases List.mem_cons.mp hp with rfl | hp
    · exact News.mut2 N (p := (b, ob)) (.tail _ (.tail _ (.tail _ (.tail _ (.head _))))) hb
    · exact kp (.tail _ (.tail _ (.tail _ (.tail _ (.tail _ hp))))) (hn p hp).1 (hn p hp).2
  · rcases List.mem_cons.mp hp with rfl | hp
    · exact oa1
    rcases List.mem_cons.mp hp with rfl | hp
    · exact ob1
    · exact LCg.Off3.mem off p (.tail _ (.tail _ hp))
theorem items_run {prog : Program} {w : World} {A : Around} {E : Value → Shared → Prop} {s : Shared} {env : Env} {h₀ : Heap} {target : PySem.Expr} {body : List Stmt} {Q : Flow → Shared → Prop} {I : Addr} {keep : List (Addr × Obj)} {vs : List Value} {m₀ : Str → Option Value} {news₀ : List (Addr × Obj)}
    (J : Nat → (Str → Option Value) → List (Addr × Obj) → Prop)
    (turn : ∀ i v m news h tk (oI : Obj), vs[i]? = some v → J i m news → Fr h₀ env.locals h m → oI.cls = .type "list_iterator" → News h₀ env.locals h ((I, oI) :: news) →
      wpAny (model prog w) A (assign target env v) (fun _ s₂ => wpAny (model prog w) A (execs body env) (UnrPostW h₀ env.locals { s with heap := h, toks := tk } [(I, oI)] (fun m' n' => SubL keep n' ∧ J (i + 1) m' n') Q) E s₂) E { s with heap := h, toks := tk })
    (fin : ∀ m news h tk, J vs.length m news → Fr h₀ env.locals h m → News h₀ env.locals h news → Q .next { s with heap := h, toks := tk })
    (start : J 0 m₀ news₀) : ItemsRest prog w A E h₀ env target body Q s [(I, "list_iterator")] keep (vs.map .val) m₀ news₀ := by
  have key : ∀ (r : List Value) (i : Nat) m news, vs.drop i = r → i ≤ vs.length → J i m news → ItemsRest prog w A E h₀ env target body Q s [(I, "list_iterator")] keep (r.map .val) m news := by
    intro r
    induction r with
    | nil =>
      intro i m news e hi hj
      have : i = vs.length := by have := List.drop_eq_nil_iff.mp e; omega
      subst this
      exact ItemsRest.zero fun h tk F N => fin m news h tk hj F N
    | cons v r ih =>
      intro i m news e hi hj
      have hv : vs[i]? = some v := by
        have := congrArg (fun l => l[0]?) e
        simpa using this
      have hlt : i < vs.length := by
        rcases List.getElem?_eq_some_iff.mp hv with ⟨h, _⟩
        exact h
      have e' : vs.drop (i + 1) = r := by
        rw [List.drop_eq_getElem_cons hlt] at e
        exact (List.cons.inj e).2
      refine ItemsRest.val fun h tk F => ?_
      refine AllObj.cons fun oI hc => ?_
      refine AllObj.nil ?_
      intro N
      refine wpAny_mono (turn i v m news h tk oI hv hj F hc N) (fun _ s₂ h₂ => wpAny_mono h₂ (fun f s₃ h₃ => ?_) fun _ _ x => x) fun _ _ x => x
      cases f with
      | ret _ => exact h₃
      | brk => exact h₃
      | next =>
        obtain ⟨h', tk', m', n', q1, q2, q3, q4, q5, q6⟩ := h₃
        exact ⟨h', tk', m', n', q1, q2, q3, q4, q5, ih (i + 1) m' n' e' hlt q6⟩
      | cont =>
        obtain ⟨h', tk', m', n', q1, q2, q3, q4, q5, q6⟩ := h₃
        exact ⟨h', tk', m', n', q1, q2, q3, q4, q5, ih (i + 1) m' n' e' hlt q6⟩
  exact key vs 0 m₀ news₀ rfl (Nat.zero_le _) start
theorem strs_at {vs : List Value} {l : List Str} (h : StrsAre vs l) : ∀ {i : Nat} {v : Value}, vs[i]? = some v → ∃ x t, l[i]? = some x ∧ v = .str x t := by
  induction h with
  | nil => intro i v e; simp at e
  | cons x t h ih =>
    intro i v e
    cases i with
    | zero => simp at e; exact ⟨x, t, rfl, e.symm⟩
    | succ i => exact ih (by simpa using e)
theorem selfMap (a : Str) (m : Str → Option Value) : m = (fun y => if y = a then m a else m y) := by
  funext y
  by_cases h : y = a
  · subst h; rw [if_pos rfl]
  · rw [if_neg h]
noncomputable def pushI {T fi se : Int} {ds : List Int} (_ : LawFacts T fi se ds) (A : LA) (m₀ : Str → Option Value) (K : List (Addr × Obj)) (i : Nat) (m : Str → Option Value) (news : List (Addr × Obj)) : Prop :=
  ∃ u us n, m = (fun y => if y = Str.ofString "word" then u else m₀ y) ∧ news = (A.pb, listOf (List.toArray us) n) :: K ∧ WordsAre us ((List.range i).map fun k => ds.getD k 0 + 7)
theorem word_at {ds : List Int} {zs : List Value} {i : Nat} {v : Value} (hz : StrsAre zs ((List.range 12).map fun k => textOf (opw (ds.getD k 0).toNat))) (hv : zs[i]? = some v) : i < 12 ∧ ∃ t, v = .str (textOf (opw (ds.getD i 0).toNat)) t := by
  obtain ⟨x, t, h1, h2⟩ := strs_at hz hv
  rw [List.getElem?_map] at h1
  by_cases hi : i < 12
  · refine ⟨hi, t, ?_⟩
    rw [List.getElem?_range hi] at h1
    cases h1
    exact h2
  · rw [List.getElem?_eq_none (by simpa using hi)] at h1
    cases h1
theorem words_step {ds : List Int} {us : List Value} {i : Nat} {t : Tok} (h : WordsAre us ((List.range i).map fun k => ds.getD k 0 + 7)) : WordsAre (us ++ [.str (wordF (ds.getD i 0 + 7)) t]) ((List.range (i + 1)).map fun k => ds.getD k 0 + 7) := by
  rw [List.range_succ, List.map_append]
  exact h.snoc _ _
theorem off_one {I : Addr} {a : Addr} {o o' oI : Obj} {K : List (Addr × Obj)} (hI : ∀ p ∈ (a, o) :: K, p.1 < I) : ∀ p ∈ (a, o') :: K, ∀ q ∈ [(I, oI)], p.1 ≠ q.1 := by
  intro p hp q hq
  rw [List.mem_singleton.mp hq]
  rcases List.mem_cons.mp hp with rfl | hp
  · exact Nat.ne_of_lt (hI (a, o) (.head _))
  · exact Nat.ne_of_lt (hI p (.tail _ hp))
theorem ds_nat {T fi se : Int} {ds : List Int} (L : LawFacts T fi se ds) {i : Nat} (hi : i < 12) : (ds.getD i 0).toNat < 48 := by have := L.at hi; omega
theorem news_one {h₀ h h' : Heap} {L I a : Addr} {oI o o' : Obj} {K : List (Addr × Obj)} (N : News h₀ L h ((I, oI) :: (a, o) :: K)) (k : Keeps [a] h h') (ha : h'.get? a = some o') (hI : I ≠ a) (hK : ∀ p ∈ K, p.1 ≠ a) : News h₀ L h' ((I, oI) :: (a, o') :: K) := by
  intro p hp
  rcases List.mem_cons.mp hp with rfl | hp
  · exact News.keeps2 N k (p := (I, oI)) (.head _) (fun q => hI (List.mem_singleton.mp q))
  rcases List.mem_cons.mp hp with rfl | hp
  · exact News.mut2 N (p := (a, o)) (.tail _ (.head _)) ha
  · exact News.keeps2 N k (.tail _ (.tail _ hp)) (fun q => hK p hp (List.mem_singleton.mp q))
noncomputable def OffA (a : Addr) (K : List (Addr × Obj)) : Prop := ∀ p ∈ K, p.1 ≠ a
theorem OffA.tail {a : Addr} {p : Addr × Obj} {K : List (Addr × Obj)} (h : OffA a (p :: K)) : OffA a K := fun q hq => h q (.tail _ hq)
theorem OffA.cons {a b : Addr} {o : Obj} {K : List (Addr × Obj)} (h1 : b ≠ a) (h : OffA a K) : OffA a ((b, o) :: K) := fun q hq => by
  rcases List.mem_cons.mp hq with rfl | hq
  · exact h1
  · exact h q hq
theorem off_pb {h₀ h : Heap} {L a : Addr} {o : Obj} {K : List (Addr × Obj)} (_ : News h₀ L h ((a, o) :: K)) (P : OffA a K) : OffA a K := P
theorem news_head {h₀ h h' : Heap} {L a : Addr} {o o' : Obj} {K : List (Addr × Obj)} (N : News h₀ L h ((a, o) :: K)) (k : Keeps [a] h h') (ha : h'.get? a = some o') (hK : ∀ p ∈ K, p.1 ≠ a) : News h₀ L h' ((a, o') :: K) := by
  intro p hp
  rcases List.mem_cons.mp hp with rfl | hp
  · exact News.mut2 N (p := (a, o)) (.head _) ha
  · exact News.keeps2 N k (.tail _ hp) (fun q => hK p hp (List.mem_singleton.mp q))
theorem news_drop1 {h₀ h : Heap} {L : Addr} {a b : Addr × Obj} {K : List (Addr × Obj)} (N : News h₀ L h (a :: b :: K)) : News h₀ L h (a :: K) := by
  intro p hp
  rcases List.mem_cons.mp hp with rfl | hp
  · exact N _ (.head _)
  · exact N p (.tail _ (.tail _ hp))
noncomputable def OffB (a b : Addr) (K : List (Addr × Obj)) : Prop := ∀ p ∈ K, p.1 ≠ a ∧ p.1 ≠ b
theorem off_dp {h₀ h : Heap} {L a b : Addr} {oa ob : Obj} {x y : Addr × Obj} {K : List (Addr × Obj)} (_ : News h₀ L h (x :: y :: (a, oa) :: (b, ob) :: K)) (P : OffB a b K) : OffB a b K := P
theorem ett_at (w : World) : ∀ d : Nat, d < 48 → ∃ t, nsIn (frg.heap_1 w.params) 64 (textOf (opw d)) = some (some (.int ((d : Int) + 7) t))
  | 0, _ => ⟨_, by with_unfolding_all rfl⟩
  | 1, _ => ⟨_, by with_unfolding_all rfl⟩
  | 2, _ => ⟨_, by with_unfolding_all rfl⟩
  | 3, _ => ⟨_, by with_unfolding_all rfl⟩
  | 4, _ => ⟨_, by with_unfolding_all rfl⟩
  | 5, _ => ⟨_, by with_unfolding_all rfl⟩
  | 6, _ => ⟨_, by with_unfolding_all rfl⟩
  | 7, _ => ⟨_, by with_unfolding_all rfl⟩
  | 8, _ => ⟨_, by with_unfolding_all rfl⟩
  | 9, _ => ⟨_, by with_unfolding_all rfl⟩
  | 10, _ => ⟨_, by with_unfolding_all rfl⟩
  | 11, _ => ⟨_, by with_unfolding_all rfl⟩
  | 12, _ => ⟨_, by with_unfolding_all rfl⟩
  | 13, _ => ⟨_, by with_unfolding_all rfl⟩
  | 14, _ => ⟨_, by with_unfolding_all rfl⟩
  | 15, _ => ⟨_, by with_unfolding_all rfl⟩
  | 16, _ => ⟨_, by with_unfolding_all rfl⟩
  | 17, _ => ⟨_, by with_unfolding_all rfl⟩
  | 18, _ => ⟨_, by with_unfolding_all rfl⟩
  | 19, _ => ⟨_, by with_unfolding_all rfl⟩
  | 20, _ => ⟨_, by with_unfolding_all rfl⟩
  | 21, _ => ⟨_, by with_unfolding_all rfl⟩
  | 22, _ => ⟨_, by with_unfolding_all rfl⟩
  | 23, _ => ⟨_, by with_unfolding_all rfl⟩
  | 24, _ => ⟨_, by with_unfolding_all rfl⟩
  | 25, _ => ⟨_, by with_unfolding_all rfl⟩
  | 26, _ => ⟨_, by with_unfolding_all rfl⟩
  | 27, _ => ⟨_, by with_unfolding_all rfl⟩
  | 28, _ => ⟨_, by with_unfolding_all rfl⟩
  | 29, _ => ⟨_, by with_unfolding_all rfl⟩
  | 30, _ => ⟨_, by with_unfolding_all rfl⟩
  | 31, _ => ⟨_, by with_unfolding_all rfl⟩
  | 32, _ => ⟨_, by with_unfolding_all rfl⟩
  | 33, _ => ⟨_, by with_unfolding_all rfl⟩
  | 34, _ => ⟨_, by with_unfolding_all rfl⟩
  | 35, _ => ⟨_, by with_unfolding_all rfl⟩
  | 36, _ => ⟨_, by with_unfolding_all rfl⟩
  | 37, _ => ⟨_, by with_unfolding_all rfl⟩
  | 38, _ => ⟨_, by with_unfolding_all rfl⟩
  | 39, _ => ⟨_, by with_unfolding_all rfl⟩
  | 40, _ => ⟨_, by with_unfolding_all rfl⟩
  | 41, _ => ⟨_, by with_unfolding_all rfl⟩
  | 42, _ => ⟨_, by with_unfolding_all rfl⟩
  | 43, _ => ⟨_, by with_unfolding_all rfl⟩
  | 44, _ => ⟨_, by with_unfolding_all rfl⟩
  | 45, _ => ⟨_, by with_unfolding_all rfl⟩
  | 46, _ => ⟨_, by with_unfolding_all rfl⟩
  | 47, _ => ⟨_, by with_unfolding_all rfl⟩
  | d + 48, h => absurd h (by omega)
theorem ett_in {w : World} {g : Heap} (_ : (frg.heap_1 w.params).In g) {d : Int} (h0 : 0 ≤ d) (h : d < 48) : ∃ t, nsIn (frg.heap_1 w.params) 64 (textOf (opw d.toNat)) = some (some (.int (d + 7) t)) := by
  obtain ⟨t, e⟩ := ett_at w d.toNat (by omega)
  exact ⟨t, by rw [e, Int.toNat_of_nonneg h0]⟩
section
theorem start14 : True := by
  w_top off
  trivial
section
variable {w : World} {loose : List Str} {mean : ExcName → Option Value} {mg mb : Str → Option Value}
/-- as Spec, for a code that reads a list of the ground -/
noncomputable def SpecI (w : World) (loose : List Str) (mean : ExcName → Option Value) (mg mb : Str → Option Value) (sc : Addr) (vs : List Value) (c : Code) (d u : Nat) (muts own : List Addr) (h : Heap) (Post : Value → Heap → Prop) : Prop :=
  ∀ (dp un : Nat) (gd : Option (List Code)) (base : Heap) (outer : List Env) (h₀ : Heap) (s : Shared) (R : Result → Shared → Prop), s.heap = h → h₀.IsList sc vs.toArray → Below (around dp un gd outer) base outer h₀ → (frg.heap_1 w.params).In h₀ → Top topProg loose mean mg mb h₀ →
    (∀ b o, h₀.get? b = some o → h.get? b = some o) → (∀ a ∈ own, h₀.get? a = none) → dp + d < recursionLimit → un + u < cLine →
    (∀ v h' tk', Keeps muts h h' → Post v h' → R (.ok (.ret v)) { s with heap := h', toks := tk' }) → codeAny (model PySem.Challenge.rw_ta0022_01.row.prog w) (around dp un gd outer) c R s
theorem enterI {A : Around} {base h₀ : Heap} {outer : List Env} {s : Shared} {R : Result → Shared → Prop} {news : List (Addr × Obj)}
    {name qual : Str} {params : Arguments} {body : List Stmt} {scope : Scope} {dV kV doc pm cdv ct oc : Value} {an od : Option Addr} {osl : Array (Option Value)} {f : Addr} {args : Args} {binds : List (Str × Value)}
    (B : Below A base outer h₀) (X : (frg.heap_1 w.params).In h₀) (T : Top topProg loose mean mg mb h₀) (k : ∀ b o, h₀.get? b = some o → s.heap.get? b = some o)
    (hn : ∀ p ∈ news, s.heap.get? p.1 = some p.2) (hf : ∀ a ∈ news.map (·.1), h₀.get? a = none)
    (ho : (frg.heap_1 w.params).lookup f = some ⟨oc, od, .func (fnOf name qual params body scope dV kV doc pm an cdv ct), osl⟩) (hcd : codeIn (frg.heap_1 w.params) cdv qual = true) (hroom : A.depth < recursionLimit)
    (hbind : BindsTo s (fnOf name qual params body scope dV kV doc pm an cdv ct) args binds) (hloc : ∀ y ∈ binds, scope.names.lookup y.1 = some .local)
    (h : ∀ g L' h₁, Fr g L' h₁ (fun y => binds.reverse.lookup y) → News g L' h₁ news → Below A base outer g → (frg.heap_1 w.params).In g → Top topProg loose mean mg mb g → (∀ p ∈ news, p.1 < L') →
      (∀ h', (∀ b o, g.get? b = some o → h'.get? b = some o) → Keeps (news.map (·.1)) s.heap h') → s.heap.objs.size ≤ L' → (∀ b o, h₀.get? b = some o → g.get? b = some o) →
      wpAny (model PySem.Challenge.rw_ta0022_01.row.prog w) (A.deeper (envOf qual scope L' f cdv)) (execs body (envOf qual scope L' f cdv))
        (fun fl s' => R (.ok (.ret (match fl with | .ret v => v | _ => .none))) s')
        (fun _ _ => False)
        { s with heap := h₁, toks := s.toks + binds.length })
    (hcell : ∀ x ∈ scope.names, x.2 ≠ .cell) (hco : scope.isCoroutine = false := by rfl) (hgen : scope.isGenerator = false := by rfl) (hk : scope.kind = .function := by rfl) : codeAny (model PySem.Challenge.rw_ta0022_01.row.prog w) A (.call (.ref f) args) R s := by
  have st : ∀ b o, h₀.get? b = some o → (hideAll s.heap (news.map (·.1))).get? b = some o := fun b o e => hideAll_get _ (k b o e) fun q => by rw [hf b q] at e; cases e
  have BG : Below A base outer (hideAll s.heap (news.map (·.1))) := ⟨B.stack, fun b o e => st b o (B.stays b o e), B.frames.of_keeps fun b o e _ => ⟨o, st b o e, rfl⟩⟩
  refine codeAny_call_def (fd := fnOf name qual params body scope dV kV doc pm an cdv ct) (body := body) (binds := binds) hroom (k _ _ (X _ _ ho)) rfl (T.nolimit.keeps k) (codeRec_of (fun a o e => k _ _ (X a o e)) hcd) rfl hbind hcell hloc (fun h₁ hns hk₁ => ?_) hco hgen hk
  refine wpAny_mono (E := fun _ _ => False) ?_ (fun _ _ x => x) (fun _ _ x => False.elim x)
  exact h (hideAll s.heap (news.map (·.1))) s.heap.objs.size h₁ ⟨hns, fun b o e => hk₁ b o (of_hideAll _ e), Nat.le_of_eq (hideAll_size _ _)⟩
    (fun p hp => ⟨hk₁ _ _ (hn p hp), Nat.ne_of_lt (Heap.lt_size (hn p hp)), hideAll_none _ (List.mem_map_of_mem hp)⟩) BG (fun a o e => st _ _ (X a o e)) (T.keeps st) (fun p hp => Heap.lt_size (hn p hp))
    (fun h' hk b o e n => hk b o (hideAll_get _ e n)) (Nat.le_refl _) st

theorem SpecI.use {A A₀ : Around} {base h₀ : Heap} {outer : List Env} {env : Env} {s : Shared} {Q E : Value → Shared → Prop} {news : List (Addr × Obj)} {f : Addr} {args : List Value} {L : Addr} {m : Str → Option Value} {d u : Nat} {muts own : List Addr} {Post : Value → Heap → Prop} {sc : Addr} {vs : List Value}
    (S : SpecI w loose mean mg mb sc vs (.call (.ref f) ⟨args, []⟩) d u muts own s.heap Post) (hl : h₀.IsList sc vs.toArray)
    (B : Below A₀ base outer h₀) (F : Fr h₀ L s.heap m) (X : (frg.heap_1 w.params).In h₀) (N : News h₀ L s.heap news) (T : Top topProg loose mean mg mb h₀) (hA : A.frames = some (env :: outer)) (hf : env.frame = some L) (hke : env.scope.kind = .function) (hh : A.handled = none)
    (hm : ∀ a ∈ muts, a ∈ news.map (·.1)) (ho : ∀ a ∈ own, a ∈ news.map (·.1)) (hd : A.depth + d < recursionLimit) (hu : A.units + u < cLine)
    (h : ∀ v h' tk', Fr h₀ L h' m → Keeps muts s.heap h' → Post v h' → Q v { s with heap := h', toks := tk' }) : wpAny (model PySem.Challenge.rw_ta0022_01.row.prog w) A (call (.ref f) args) Q E s := by
  refine wpAny_call ?_
  refine hideG fun PP kP => ?_
  obtain ⟨FG, BG, st, -⟩ := groundX (R := fun _ _ => True) B F N hA hf hke
  refine kP ?_
  clear kP PP
  refine hideG fun PP kP => ?_
  obtain ⟨ah, ad, af, ag, au⟩ := A
  refine kP ?_
  clear kP PP
  cases hh; cases hA
  exact S ad au ag base (env :: outer) _ s _ rfl (hl.at fun o e => st _ o e) BG (X.keeps st) (T.keeps st) (fun b o e => of_hideAll _ e) (fun a ha => hideAll_none _ (ho a ha)) hd hu fun v h' tk' k p => h v h' tk' (Fr.keeps2 F N k hm) k p
end
theorem range_run {prog : Program} {w : World} {A : Around} {E : Value → Shared → Prop} {s : Shared} {env : Env} {h₀ : Heap} {x : Str} {body : List Stmt} {Q : Flow → Shared → Prop} {I : Addr} {a : Int} {n : Nat} {m₀ : Str → Option Value} {news₀ : List (Addr × Obj)}
    (J : Nat → (Str → Option Value) → List (Addr × Obj) → Prop)
    (turn : ∀ i m news t h tk, i < n → J i m news → Fr h₀ env.locals h (fun y => if y = x then some (.int (a + (i : Int)) t) else m y) → News h₀ env.locals h ((I, itR (a + ((i + 1 : Nat) : Int)) ((n : Int) - ((i + 1 : Nat) : Int))) :: news) →
      wpAny (model prog w) A (execs body env) (UnrPost h₀ env.locals { s with heap := h, toks := tk } I (itR (a + ((i + 1 : Nat) : Int)) ((n : Int) - ((i + 1 : Nat) : Int))) (J (i + 1)) Q) E { s with heap := h, toks := tk })
    (fin : ∀ m news h tk, J n m news → Fr h₀ env.locals h m → News h₀ env.locals h news → Q .next { s with heap := h, toks := tk })
    (start : J 0 m₀ news₀) : RangeRest prog w A E h₀ env x body Q s I a n n 0 m₀ news₀ := by
  have key : ∀ k i m news, i + k = n → J i m news → RangeRest prog w A E h₀ env x body Q s I a n k i m news := by
    intro k
    induction k with
    | zero =>
      intro i m news e hj
      have e' : i = n := by omega
      subst e'
      exact RangeRest.zero fun h tk F N => fin m news h tk hj F N
    | succ k ih =>
      intro i m news e hj
      refine RangeRest.succ fun t h tk F N => ?_
      refine wpAny_mono (turn i m news t h tk (by omega) hj F N) (fun f s₃ h₃ => ?_) fun _ _ x => x
      cases f with
      | ret _ => exact h₃
      | brk => exact h₃
      | next =>
        refine hideG fun PP kP => ?_
        obtain ⟨h', tk', m', n', q1, q2, q3, q4, q5⟩ := h₃
        refine kP ?_
        clear kP PP
        exact ⟨h', tk', m', n', q1, q2, q3, q4, ih (i + 1) m' n' (by omega) q5⟩
      | cont =>
        refine hideG fun PP kP => ?_
        obtain ⟨h', tk', m', n', q1, q2, q3, q4, q5⟩ := h₃
        refine kP ?_
        clear kP PP
        exact ⟨h', tk', m', n', q1, q2, q3, q4, ih (i + 1) m' n' (by omega) q5⟩
  exact key n 0 _ _ (by omega) start
inductive Made (P : Nat) : Nat → List Value → List (Addr × Obj) → Prop
  | nil : Made P 0 [] []
  | snoc {i : Nat} {vs : List Value} {tl : List (Addr × Obj)} (p : Nat) (l r : Int) (a b : Tok) (n : Nat) (hP : P < p) (hp : ∀ q ∈ tl, q.1 < p) (hl : 0 < l ∧ l < 256 + (i : Int)) (hr : 0 < r ∧ r < 256 + (i : Int)) : Made P i vs tl → Made P (i + 1) (vs ++ [.ref p]) ((p, listOf #[.int l a, .int r b] n) :: tl)
theorem known_item {prog : Program} {w : World} {A : Around} {E : Value → Shared → Prop} {s : Shared} {value slice : PySem.Expr} {l : Addr} {ws : List Value} {a b X : Int} {i : Nat} {u : Tok} {Q : Value → Shared → Prop} (hl : s.heap.IsList l ws.toArray)
    (hI : IntsAre ws ([a, b] ++ List.map (fun k' => 256 + k') (rangeKs 0 (0 + (i : Int) - 0).toNat))) (hi : i < 4) (ha : 0 < a ∧ a < 256) (hb : 0 < b ∧ b < 256) (h : ∀ x t, 0 < x ∧ x < 256 + (i : Int) → Q (.int x t) s)
    (hs : subscripted slice false (.ref l) (.int (X.fmod ((1 + 1 + (List.map (fun k' => (256 : Int) + k') (rangeKs 0 (0 + (i : Int) - 0).toNat)).length : Nat) : Int)) u) = operate [.ref l, .int (X.fmod ((1 + 1 + (List.map (fun k' => (256 : Int) + k') (rangeKs 0 (0 + (i : Int) - 0).toNat)).length : Nat) : Int)) u] (getItem (.ref l) (.int (X.fmod ((1 + 1 + (List.map (fun k' => (256 : Int) + k') (rangeKs 0 (0 + (i : Int) - 0).toNat)).length : Nat) : Int)) u)) := by with_unfolding_all rfl)
    (hg : ∀ r, letTemporaryGo value (.ref l) r = pure () := by intro _; with_unfolding_all rfl) :
    wpAny (model prog w) A (subscriptTail value slice (.ref l) (.int (X.fmod ((1 + 1 + (List.map (fun k' => (256 : Int) + k') (rangeKs 0 (0 + (i : Int) - 0).toNat)).length : Nat) : Int)) u)) Q E s := by
  have e : (1 + 1 + (List.map (fun k' => (256 : Int) + k') (rangeKs 0 (0 + (i : Int) - 0).toNat)).length : Nat) = 2 + i := by rw [List.length_map, rangeKs_length]; omega
  rw [e] at hs ⊢
  have h0 : 0 ≤ X.fmod ((2 + i : Nat) : Int) := Int.fmod_nonneg_of_pos _ (by omega)
  have h1 : X.fmod ((2 + i : Nat) : Int) < ((2 + i : Nat) : Int) := Int.fmod_lt_of_pos _ (by omega)
  refine hideG fun PP kP => ?_
  obtain ⟨t, hv⟩ := ints_at hI (i := (X.fmod ((2 + i : Nat) : Int)).toNat) (by rw [List.length_append, List.length_map, rangeKs_length]; simp only [List.length_cons, List.length_nil]; omega)
  refine kP ?_
  clear kP PP
  refine item_list hl h0 (by omega) (by rw [List.getElem?_toArray]; exact hv) (h _ t ?_) hs hg
  have hlen : (X.fmod ((2 + i : Nat) : Int)).toNat < ([a, b] ++ List.map (fun k' => (256 : Int) + k') (rangeKs 0 (0 + (i : Int) - 0).toNat)).length := by rw [List.length_append, List.length_map, rangeKs_length]; simp only [List.length_cons, List.length_nil]; omega
  rw [List.getD_eq_getElem?_getD, List.getElem?_eq_getElem hlen, Option.getD_some]
  have hm := List.getElem_mem hlen
  rcases List.mem_append.mp hm with hm | hm
  · rcases List.mem_cons.mp hm with q | hm
    · rw [q]; omega
    · rw [List.mem_singleton.mp hm]; omega
  · obtain ⟨k, hk, q⟩ := List.mem_map.mp hm
    rw [← q]
    have := mem_rangeKs hk
    omega
noncomputable def pairsI (S P I : Nat) (oS : Obj) (m₀ : Str → Option Value) (i : Nat) (m : Str → Option Value) (news : List (Addr × Obj)) : Prop :=
  ∃ u1 u2 u3 vs tl n, m = (fun y => if y = Str.ofString "k" then u1 else if y = Str.ofString "drawn" then u2 else if y = Str.ofString "known" then u3 else m₀ y) ∧ news = (P, listOf (List.toArray vs) n) :: (S, oS) :: tl ∧ Made I i vs tl
theorem Made.gt {I i vs tl} (h : Made I i vs tl) : ∀ q ∈ tl, I < q.1 := by
  induction h with
  | nil => intro q hq; cases hq
  | snoc p l r a b n hP hp hl hr h ih =>
    intro q hq
    rcases List.mem_cons.mp hq with rfl | hq
    · exact hP
    · exact ih q hq
theorem Made.len {I i vs tl} (h : Made I i vs tl) : vs.length = i := by
  induction h with
  | nil => rfl
  | snoc p l r a b n hP hp hl hr h ih => rw [List.length_append, ih]; rfl
theorem allLt_mem {d : Nat} : ∀ {l : List (Addr × Obj)}, AllLt d l → ∀ q ∈ l, q.1 < d
  | [], _, _, h => nomatch h
  | _ :: _, x, p, h => by
    rcases List.mem_cons.mp h with rfl | h
    · exact x.1
    · exact allLt_mem x.2 p h
theorem selfMap3 (a b c : Str) (m : Str → Option Value) : m = (fun y => if y = a then m a else if y = b then m b else if y = c then m c else m y) := by
  funext y
  by_cases h1 : y = a
  · subst h1; rw [if_pos rfl]
  · rw [if_neg h1]
    by_cases h2 : y = b
    · subst h2; rw [if_pos rfl]
    · rw [if_neg h2]
      by_cases h3 : y = c
      · subst h3; rw [if_pos rfl]
      · rw [if_neg h3]
noncomputable def CutQ (s : Shared) (v : Value) (s' : Shared) : Prop := ∃ d t tk, v = .int d t ∧ (0 ≤ d ∧ d < 1000000) ∧ s' = { s with toks := tk }
theorem ifexp_cut {prog : Program} {w : World} {A : Around} {e : PySem.Expr} {env : Env} {Q E : Value → Shared → Prop} {s : Shared} (h : wpAny (model prog w) A (eval e env) (CutQ s) E s)
    (k : ∀ d t tk, 0 ≤ d → d < 1000000 → Q (.int d t) { s with toks := tk }) : wpAny (model prog w) A (eval e env) Q E s :=
  wpAny_mono h (fun v s' hq => by
    obtain ⟨d, t, tk, rfl, hd, rfl⟩ := hq
    exact k d t tk hd.1 hd.2) fun _ _ x => x
theorem fm6 (x : Int) : 0 ≤ Int.fmod x 1000000 ∧ Int.fmod x 1000000 < 1000000 := ⟨Int.fmod_nonneg_of_pos x (by decide), Int.fmod_lt_of_pos x (by decide)⟩
local macro_rules | `(tactic| walk_at "eval IfExp") => `(tactic| (k_here; goal_lacks CutQ; refine halt ?_))
local macro_rules | `(tactic| walk_at "pyIter ref") => `(tactic| (k_here; refine halt ?_))
local macro_rules | `(tactic| walk_at "subscriptTail") => `(tactic| (k_here; (with_reducible show wpAny _ _ (subscriptTail _ _ (Value.ref _) (Value.int (Int.fmod _ _) _)) _ _ _); refine halt ?_))
theorem pairs_spec {w : World} {loose : List Str} {mean : ExcName → Option Value} {mg mb : Str → Option Value} {h : Heap} {sc S nS : Nat} {vs : List Value} {ns : List Int} {a b : Int} {ta tb : Tok} (hi : IntsAre vs ns) (hn : ns.length ≤ 63) (ha : 0 < a ∧ a < 256) (hb : 0 < b ∧ b < 256)
    (hS : h.get? S = some (listOf #[.int a ta, .int b tb] nS)) :
    SpecI w loose mean mg mb sc vs (.call (.ref 116) ⟨[.ref sc, .ref S], []⟩) 5 80 [] [S] h
      (fun v h' => ∃ C : PA, v = .ref C.P ∧ h.objs.size ≤ C.P ∧ PairsN C ∧ PairsAt C h' ∧ Low C) := by
  unfold SpecI
  k_fill
  intro dp un gd base outer h₀ s Rr hs hsl B X T k hmf hroom hunits hret
  subst hs
  (refine' enterI (news := ?news) ?k1 ?k2 ?k3 ?k4 ?kn ?kf ?k6 ?k7 ?k8 ?k9 ?kB ?_ ?c5 ?c2 ?c3 ?c4; (case k1 => assumption); (case k2 => assumption); (case k3 => assumption); (case k4 => assumption); (case k6 => k_is); (case k7 => k_is); (case k8 => (first | exact offU1 (by assumption) | (dsimp only [around]; omega))); (case k9 => exact BindsTo.of_eq rfl); (case c5 => decide); (case kB => exact locs rfl); (case c2 => exact rfl); (case c3 => exact rfl); (case c4 => exact rfl))
  case news => exact [(S, listOf #[.int a ta, .int b tb] nS)]
  case kn => exact List.forall_mem_cons.mpr ⟨hS, List.forall_mem_nil _⟩
  case kf => exact hmf
  intro g L' h₁ F N B' X' T' hlt hK hL hst
  replace hsl := hsl.at fun o e => hst _ o e
  k_lt hlt
  clear B X T
  (try dsimp only)
  show wpAny _ _ _ _ _ _
  k_fold
  (repeat' (first | (k_unfold; (try dsimp only)) | (dsimp only; k_unfold; try dsimp only) | (k_end; wrow_close) | walk1 | (dsimp only; walk1) | (leave1; (try dsimp only)) | fail "no step"))
  unfold Halt
  (rename Fr _ _ _ _ => F2); (rename News _ _ _ _ => N2)
  refine iter_rangeUnr (n := 4) (by rfl) (by assumption) (by first | decide | rfl) (by first | decide | rfl) F2 N2 (fun I hI => ?_)
  refine range_run (pairsI S _ I (listOf #[.int a ta, .int b tb] nS) _) ?turn ?fin ⟨_, _, _, [], [], 0, selfMap3 _ _ _ _, rfl, .nil⟩
  case turn =>
    rintro i m news t h tk hi4 hE1 F N
    refine hideG fun PP kP => ?_
    obtain ⟨u1, u2, u3, ps, tl, n, em, en, hM⟩ := hE1
    refine kP ?_
    clear kP PP
    subst em en
    clear F2 N2
    (repeat' (first | (k_unfold; (try dsimp only)) | (dsimp only; k_unfold; try dsimp only) | (k_end; wrow_close) | walk1 | (dsimp only; walk1) | (leave1; (try dsimp only)) | fail "no step"))
    unfold Halt
    refine ifexp_cut ?cut fun dd td tkd hd0 hd1 => ?_
    case cut =>
      (repeat' (first | (k_unfold; (try dsimp only)) | (dsimp only; k_unfold; try dsimp only) | (k_end; wrow_close) | walk1 | (dsimp only; walk1) | (leave1; (try dsimp only)) | fail "no step"))
      all_goals first
        | exact ⟨_, _, _, rfl, ⟨Int.le_refl 0, by decide⟩, rfl⟩
        | exact ⟨_, _, _, rfl, fm6 _, rfl⟩
    (repeat' (first | (k_unfold; (try dsimp only)) | (dsimp only; k_unfold; try dsimp only) | (k_end; wrow_close) | walk1 | (dsimp only; walk1) | (leave1; (try dsimp only)) | fail "no step"))
    unfold Halt
    (rename News _ _ _ _ => N3); (rename IntsAre _ (_ ++ _) => hI3)
    refine known_item (isListOf (newsAt N3 0 rfl)) hI3 hi4 ha hb fun x tx hx => ?_
    (repeat' (first | (k_unfold; (try dsimp only)) | (dsimp only; k_unfold; try dsimp only) | (k_end; wrow_close) | walk1 | (dsimp only; walk1) | (leave1; (try dsimp only)) | fail "no step"))
    all_goals
      unfold Halt
      (rename News _ _ _ _ => N4); (rename IntsAre _ (_ ++ _) => hI4)
      refine known_item (isListOf (newsAt N4 0 rfl)) hI4 hi4 ha hb fun y ty hy => ?_
      (repeat' (first | (k_unfold; (try dsimp only)) | (dsimp only; k_unfold; try dsimp only) | (k_end; wrow_close) | walk1 | (dsimp only; walk1) | (leave1; (try dsimp only)) | fail "no step"))
      rename_i lP
      (rename Fr _ _ _ _ => F5); (rename News _ _ _ _ => N5)
      have hP := hI _ (.head _)
      have hSI := hI _ (.tail _ (.head _))
      dsimp only at hP hSI
      have N6 : News _ _ _ ((_, _) :: (_, _) :: (_, _) :: (_, _) :: _) := fun q hq => N5 q (by
        rcases List.mem_cons.mp hq with rfl | hq
        · exact .tail _ (.tail _ (.tail _ (.tail _ (.tail _ (.head _)))))
        rcases List.mem_cons.mp hq with rfl | hq
        · exact .tail _ (.tail _ (.tail _ (.tail _ (.head _))))
        rcases List.mem_cons.mp hq with rfl | hq
        · exact .tail _ (.tail _ (.tail _ (.tail _ (.tail _ (.tail _ (.head _))))))
        rcases List.mem_cons.mp hq with rfl | hq
        · exact .head _
        · exact .tail _ (.tail _ (.tail _ (.tail _ (.tail _ (.tail _ (.tail _ hq)))))))
      have hgt := hM.gt
      refine append_K F5 N6 (Upd.head ?_) (fun h6 F6 N6 => ?_) ?_
      · intro q hq
        rcases List.mem_cons.mp hq with rfl | hq
        · exact Nat.ne_of_gt hP
        rcases List.mem_cons.mp hq with rfl | hq
        · exact Nat.ne_of_lt (by assumption)
        rcases List.mem_cons.mp hq with rfl | hq
        · exact Nat.ne_of_gt lP.2.2.2.2.1
        · exact Nat.ne_of_gt (Nat.lt_trans hP (hgt q hq))
      · rw [List.push_toArray] at N6
        (repeat' (first | (k_unfold; (try dsimp only)) | (dsimp only; k_unfold; try dsimp only) | (k_end; wrow_close) | walk1 | (dsimp only; walk1) | (leave1; (try dsimp only)) | fail "no step"))
        refine ⟨_, _, _, (_, _) :: (_, _) :: (_, _) :: _, rfl, frSet3 (by decide) (by decide) (by decide) F6, fun q hq => N6 q ?_, ?_, ⟨_, _, _, _, _, n + 1, rfl, rfl, Made.snoc _ x y tx ty 0 lP.2.2.2.1 (fun q hq => allLt_mem lP.2.2.2.2.2.2 q hq) hx hy hM⟩⟩
        · rcases List.mem_cons.mp hq with rfl | hq
          · exact .tail _ (.head _)
          rcases List.mem_cons.mp hq with rfl | hq
          · exact .head _
          rcases List.mem_cons.mp hq with rfl | hq
          · exact .tail _ (.tail _ (.head _))
          · exact .tail _ (.tail _ (.tail _ hq))
        · intro q hq
          rcases List.mem_cons.mp hq with rfl | hq
          · exact Nat.ne_of_lt hP
          rcases List.mem_cons.mp hq with rfl | hq
          · exact Nat.ne_of_lt hSI
          rcases List.mem_cons.mp hq with rfl | hq
          · exact Nat.ne_of_gt lP.2.2.2.1
          · exact Nat.ne_of_gt (hgt q hq)
      · have := hM.len
        rw [sizeLine_eq]
        simp only [List.size_toArray]
        omega
  case fin =>
    rintro m news h tk hE2 F N
    refine hideG fun PP kP => ?_
    obtain ⟨u1, u2, u3, ps, tl, n, em, en, hM⟩ := hE2
    refine kP ?_
    clear kP PP
    subst em en
    clear F2 N2
    cases hM with | snoc p3 l3 r3 a3 b3 n3 hP3 hp3 hl3 hr3 hM
    cases hM with | snoc p2 l2 r2 a2 b2 n2 hP2 hp2 hl2 hr2 hM
    cases hM with | snoc p1 l1 r1 a1 b1 n1 hP1 hp1 hl1 hr1 hM
    cases hM with | snoc p0 l0 r0 a0 b0 n0 hP0 hp0 hl0 hr0 hM
    cases hM
    (repeat' (first | (k_unfold; (try dsimp only)) | (dsimp only; k_unfold; try dsimp only) | (k_end; wrow_close) | walk1 | (dsimp only; walk1) | (leave1; (try dsimp only)) | fail "no step"))
    (rename Fr _ _ _ _ => F5); (rename News _ _ _ _ => N5)
    have q1 := hp3 _ (.head _)
    have q2 := hp2 _ (.head _)
    have q3 := hp1 _ (.head _)
    have q0 := hI _ (.head _)
    dsimp only at q0 q1 q2 q3
    refine hret _ _ _ (Keeps.narrow (hK _ (Fr.keep F5)) ?k1) ⟨⟨_, p0, p1, p2, p3, l0, r0, l1, r1, l2, r2, l3, r3, a0, b0, a1, b1, a2, b2, a3, b3, n, n0, n1, n2, n3⟩, rfl, Nat.le_trans hL (Nat.le_of_lt (by assumption)), ⟨Nat.lt_trans q0 hP0, q3, q2, q1⟩, ?k2, ?k3⟩
    case k1 => exact List.forall_mem_cons.mpr ⟨.inr ⟨_, hS, newsAt N5 1 rfl⟩, List.forall_mem_nil _⟩
    case k2 =>
      intro q hq
      refine (N5 q ?_).1
      rcases List.mem_cons.mp hq with rfl | hq
      · exact .head _
      rcases List.mem_cons.mp hq with rfl | hq
      · exact .tail _ (.tail _ (.tail _ (.tail _ (.tail _ (.head _)))))
      rcases List.mem_cons.mp hq with rfl | hq
      · exact .tail _ (.tail _ (.tail _ (.tail _ (.head _))))
      rcases List.mem_cons.mp hq with rfl | hq
      · exact .tail _ (.tail _ (.tail _ (.head _)))
      rcases List.mem_cons.mp hq with rfl | hq
      · exact .tail _ (.tail _ (.head _))
      · cases hq
    case k3 => exact ⟨by simp only; omega, by simp only; omega, by simp only; omega, by simp only; omega⟩
end
theorem chain82 {a b : Nat} (h : 82 < a) (g : a + 1 + 1 + 1 + 1 + 1 + 1 + 1 < b) : a + 1 + 1 + 1 + 1 + 1 + 1 + 1 < b ∧ a + 1 + 1 + 1 + 1 + 1 + 1 < b ∧ a + 1 + 1 + 1 + 1 + 1 < b ∧ a + 1 + 1 + 1 + 1 < b ∧ a + 1 + 1 + 1 < b ∧ a + 1 + 1 < b ∧ a + 1 < b ∧ 82 < b := by omega
theorem k12a {k : Int} (h : k < 0 + ((12 - 0 : Int).toNat : Int)) : k ≤ 1000000 := Int.le_trans (Int.le_of_lt h) (by decide)
theorem k12b {k : Int} (h : k < 0 + ((12 - 0 : Int).toNat : Int)) : k < 9000 := Int.lt_trans h (by decide)
theorem pair_at {C : PA} (H : Low C) {i : Nat} (h : i < 4) : (#[.ref C.p0, .ref C.p1, .ref C.p2, .ref C.p3] : Array Value)[(0 + (i : Int)).toNat]? = some (.ref (pA C i)) ∧ (∃ a b n, (pA C i, listOf #[.int (lA C i) a, .int (rA C i) b] n) ∈ pairLed C) ∧ (0 < lA C i ∧ lA C i < 4096) ∧ (0 < rA C i ∧ rA C i < 4096) := by
  unfold Low at H
  rcases below4 h with rfl | rfl | rfl | rfl
  · exact ⟨rfl, ⟨C.a0, C.b0, C.n0, .tail _ (.head _)⟩, by simp only [lA]; omega, by simp only [rA]; omega⟩
  · exact ⟨rfl, ⟨C.a1, C.b1, C.n1, .tail _ (.tail _ (.head _))⟩, by simp only [lA]; omega, by simp only [rA]; omega⟩
  · exact ⟨rfl, ⟨C.a2, C.b2, C.n2, .tail _ (.tail _ (.tail _ (.head _)))⟩, by simp only [lA]; omega, by simp only [rA]; omega⟩
  · exact ⟨rfl, ⟨C.a3, C.b3, C.n3, .tail _ (.tail _ (.tail _ (.tail _ (.head _))))⟩, by simp only [lA]; omega, by simp only [rA]; omega⟩
noncomputable def rnds (C : PA) : Nat → List Int → List Int
  | 0, c => c
  | i + 1, c => roundF (lA C i) (rA C i) (256 + (0 + (i : Int))) (rnds C i c)
theorem rnds4 (C : PA) (c : List Int) : rnds C 4 c = full C c := rfl
theorem rnds_ok {C : PA} {c : List Int} (hc : ∀ k ∈ c, 0 < k ∧ k < 256) (hl : c.length ≤ 12) : ∀ i, i ≤ 4 → (∀ k ∈ rnds C i c, 0 < k ∧ k < 4096) ∧ (rnds C i c).length ≤ 12
  | 0, _ => ⟨fun k hk => by have := hc k hk; omega, hl⟩
  | i + 1, h => by
    obtain ⟨h1, h2⟩ := rnds_ok hc hl i (by omega)
    exact ⟨round_all (P := fun k => 0 < k ∧ k < 4096) (by omega) h1, Nat.le_trans (round_len _) h2⟩
noncomputable def roundsI (C : PA) (A : LA) (ns : List Int) (m₀ : Str → Option Value) (K : List (Addr × Obj)) (i : Nat) (m : Str → Option Value) (news : List (Addr × Obj)) : Prop :=
  ∃ u us n, m = (fun y => if y = Str.ofString "rule" then u else m₀ y) ∧ news = (A.pb, listOf (List.toArray us) n) :: K ∧ WordsAre us (rnds C i ns ++ [0])
noncomputable def syms (ds : List Int) : List Int := (List.range 12).map fun k => ds.getD k 0 + 7
theorem syms_ok {T fi se : Int} {ds : List Int} (L : LawFacts T fi se ds) : (∀ k ∈ syms ds, 0 < k ∧ k < 256) ∧ (syms ds).length = 12 := by
  refine ⟨fun k hk => ?_, by unfold syms; rw [List.length_map, List.length_range]⟩
  obtain ⟨i, hi, rfl⟩ := List.mem_map.mp hk
  have := L.at (List.mem_range.mp hi)
  omega
theorem off_I {I a : Addr} {o o' : Obj} {K : List (Addr × Obj)} (hI : ∀ p ∈ (a, o) :: K, p.1 < I) : ∀ p ∈ (a, o') :: K, p.1 ≠ I := by
  intro p hp
  rcases List.mem_cons.mp hp with rfl | hp
  · exact Nat.ne_of_lt (hI (a, o) (.head _))
  · exact Nat.ne_of_lt (hI p (.tail _ hp))
theorem syms_map {T fi se : Int} {ds : List Int} (L : LawFacts T fi se ds) : List.map (fun k' => k' + 7) ds = syms ds := by
  have e : ds = (List.range 12).map fun k => ds.getD k 0 := by
    refine List.ext_getElem ?_ ?_
    · rw [List.length_map, L.h12, List.length_range]
    · intro i h1 h2
      rw [List.getElem_map, List.getElem_range, List.getD_eq_getElem?_getD, List.getElem?_eq_getElem h1, Option.getD_some]
  have e2 := congrArg (List.map (fun k' : Int => k' + 7)) e
  rw [List.map_map] at e2
  exact e2
theorem ne_same {prog : Program} {w : World} {A : Around} {E : Value → Shared → Prop} {s : Shared} {a b : Addr} {vs us : List Value} {ns : List Int} {Q : Value → Shared → Prop} (hl : s.heap.IsList a vs.toArray) (hi : IntsAre vs ns) (hl' : s.heap.IsList b us.toArray) (hi' : IntsAre us ns) (hu : A.units + 64 < cLine)
    (h : Q (.bool false) s) : wpAny (model prog w) A (compareOp .NotEq (.ref a) (.ref b)) Q E s :=
  ne_intsK hl hi hl' hi' hu (by rw [decide_eq_true rfl]; exact h)
end
section
local macro_rules | `(tactic| l_bnd) => `(tactic| first | exact k12a (by assumption) | exact k12b (by assumption) | fail "no")
local macro_rules | `(tactic| walk_at "eval ListComp") => `(tactic| (k_here; (with_reducible show wpAny _ _ (PySem.eval (Expr.ListComp (Expr.Call (Expr.Name _ _) [Expr.Subscript _ _ _, _] _ _) _ _ _) _) _ _ _); refine halt ?_))
local macro_rules | `(tactic| walk_at "call ref") => `(tactic| (k_here; (show wpAny _ _ (call (Value.ref _) _) _ _ _); (fail_if_success first | show wpAny _ _ (call (Value.ref 111) _) _ _ _ | show wpAny _ _ (call (Value.ref 52) _) _ _ _ | show wpAny _ _ (call (Value.ref 28) _) _ _ _); refine halt ?_))
local macro_rules | `(tactic| walk_at "last call builtin:str.join") => `(tactic| (k_here; refine halt ?_))
local macro_rules | `(tactic| walk_at "call builtin:str.join") => `(tactic| (k_here; refine halt ?_))
local macro_rules | `(tactic| walk_at "exec For Name Name cons nil") => `(tactic| (k_here; (rename Fr _ _ _ _ => lF'); (with_unfolding_all refine' For_turns lF' ?_; k_whole)))
local macro_rules | `(tactic| walk_at "pyIter ref") => `(tactic| (k_here; refine halt ?_))
local macro_rules | `(tactic| walk_at "subscriptTail") => `(tactic| (k_here; (show wpAny _ _ (subscriptTail _ _ (Value.ref 64) (Value.str _ _)) _ _ _); refine halt ?_))
local macro_rules | `(tactic| walk_at "compareOp NotEq ref ref") => `(tactic| (k_here; refine halt ?_))
local macro_rules | `(tactic| walk_at "call builtin:str.count") => `(tactic| (k_here; refine halt ?_))
local macro_rules | `(tactic| walk_at "CompSrc") => `(tactic| (k_here; (with_reducible show LCg.CompSrc _ _ _ _ _ _ _ (Expr.Call _ _ _ _) _ _ _ _ _ _); refine halt ?_))
local macro_rules | `(tactic| walk_at "subscriptTail") => `(tactic| (k_here; (with_reducible show wpAny _ _ (subscriptTail _ _ (Value.ref (PA.P _)) (Value.int _ _)) _ _ _); refine halt ?_))
local macro_rules | `(tactic| walk_at "subscriptTail") => `(tactic| (k_here; (with_reducible show wpAny _ _ (subscriptTail _ _ (Value.ref (pA _ _)) (Value.int _ _)) _ _ _); refine halt ?_))
theorem start15 : True := by
  w_top off
  trivial
noncomputable def law1 := fun (hbox : Box _) => (by
  refine hd ?_
  w_strict (k_go0)
  (all_goals try k_fold)
  (repeat' (first | (k_unfold; (try dsimp only)) | (k_end; wrow_close) | walk1 | (dsimp only; walk1) | (leave1; (try dsimp only)) | fail "no step"))
  unfold Halt
  repeat (rename _ => xx; revert xx)
  intro hbox
  exact hbox.get : PySem.Challenge.rw_ta0022_01.Holds)
noncomputable def law2 := fun (hbox : Box2 _) => (by
  w_top off
  refine law1 ⟨?_⟩
  k_fill
  intros
  rename_i xD1 ops x1 x2 eOps aOps x3 x4 x5 x6 x7 x8 x9 dOps x10 x11 x12 x13 x14 x15 x16 x17 x18 x19 x20 x21 x22 x23 x24 x25 x26 x27 off9 x29 x30 x31 xh3 xo3 dT xtk xh2 xo2 dF xh1 xo1 dS xh xtk2 xt xu xv xa xb xk1 xk2 xg ys hI hL8 xD xh9 xtk9 offD xh10 o0 F N d0 tk
  obtain ⟨T, tT, fi, tF, se, tS, ds, dT', dF', dS', hT, hf, hse, hI', hd12, hdm⟩ : ∃ T tT fi tF se tS ds, xo3.data = .cell (some (.int T tT)) ∧ xo2.data = .cell (some (.int fi tF)) ∧ xo1.data = .cell (some (.int se tS)) ∧ (7186778 ≤ T ∧ T < 4000000000) ∧ (0 ≤ fi ∧ fi < 48) ∧ (0 ≤ se ∧ se < 48) ∧ IntsAre ys ds ∧ ds.length = 12 ∧ (∀ d ∈ ds, d = fi ∨ d = se) :=
    ⟨_, _, _, _, _, _, _, dT, dF, dS, tot_le rfl (n60 _), fmod48 _, fmod48 _, hI, ds12, if_mem⟩
  clear dT dF dS hI hL8 xa xb xk1 xk2
  have N2 : News _ _ _ [_, _, _, _, _, _, _, _, _, _] := newsPick N [3, 4, 5, 6, 7, 8, 9, 0, 2, 10]
  clear N
  refine LCg.ListComp_U (F₀ := by k_asm) (by with_unfolding_all rfl) (by decide) (by rfl) (by decide) (by rfl) ?_
  (repeat' (first | (k_unfold; (try dsimp only)) | (k_end; wrow_close) | walk1 | (dsimp only; walk1) | (leave1; (try dsimp only)) | fail "no step"))
  unfold Halt
  refine LCg.CompSrc.range (n := 12) (by rfl) (by k_asm) (by k_asm) (by assumption) (by first | decide | rfl) (by first | rfl | decide) (Nat.le_of_ble_eq_true rfl) ?_
  intro g'
  (rename Fr _ _ _ _ => F9); (rename News _ _ _ _ => N9)
  refine turns_L (fun i zs news => news = _ ∧ StrsAre zs ((List.range i).map fun k => textOf (writF (opw (ds.getD k 0).toNat) (T.fdiv (3 ^ k))))) ⟨rfl, .nil⟩ ?one ?fin
  case one =>
    rintro i zs news hi hE1 v I oI Cc oC D m₂ hh tkk E' hE2 nso m2 F3 N3 off3 ne3
    refine hideG fun PP kP => ?_
    obtain ⟨en, hz⟩ := hE1
    obtain ⟨t, ev⟩ := hE2
    refine kP ?_
    clear kP PP
    subst en ev
    clear F9 N9
    have hdi := ds_at hd12 hdm hf hse hi
    have eOps2 := eOps.trans ops_split
    refine hideG fun PP kP => ?_
    obtain ⟨tO, hO⟩ := op_item eOps2 hdi
    refine kP ?_
    clear kP PP
    have hz1 : (0 : Int) ≤ 0 + (i : Int) := Int.add_nonneg (Int.le_refl 0) (Int.natCast_nonneg i)
    (repeat' (first | (k_unfold; (try dsimp only)) | ((with_reducible show wpAny _ _ (subscriptTail _ _ (Value.ref _) (Value.int (List.getD _ _ _) _)) _ _ _); refine halt ?_) | ((with_reducible show wpAny _ _ (binaryOp _ (Value.int _ _) (Value.int (3 ^ _) _)) _ _ _); refine halt ?_) | (k_end; wrow_close) | walk1 | (dsimp only; walk1) | (leave1; (try dsimp only)) | fail "no step"))
    (try unfold Halt)
    (rename News _ _ _ _ => N4)
    refine item_list (isListOf (newsAt N4 11 rfl)) ?k1 ?k2 hO ?_
    case k1 => rw [z0]; exact hdi.1
    case k2 => rw [z0]; exact Int.lt_trans hdi.2 (by decide)
    have hp3 := p3 (0 + (i : Int)).toNat
    (repeat' (first | (k_unfold; (try dsimp only)) | ((with_reducible show wpAny _ _ (subscriptTail _ _ (Value.ref _) (Value.int (List.getD _ _ _) _)) _ _ _); refine halt ?_) | ((with_reducible show wpAny _ _ (binaryOp _ (Value.int _ _) (Value.int (3 ^ _) _)) _ _ _); refine halt ?_) | (k_end; wrow_close) | walk1 | (dsimp only; walk1) | (leave1; (try dsimp only)) | fail "no step"))
    (try unfold Halt)
    refine floordiv_int (p3n (0 + (i : Int)).toNat) ?_ (Or.inl (PyProof.noPylong_of_log2 (p3log hi)))
    (repeat' (first | (k_unfold; (try dsimp only)) | (k_end; wrow_close) | walk1 | (dsimp only; walk1) | (leave1; (try dsimp only)) | fail "no step"))
    unfold Halt
    (rename Fr _ _ _ _ => F5); (rename News _ _ _ _ => N5)
    obtain ⟨hop1, hop2, hop3⟩ := opw_ok (ds.getD i 0).toNat (by omega)
    have hway := way_ok hT (0 + (i : Int)).toNat
    refine' Spec.use (written_spec hop1 hop2 hop3 hway.1 hway.2) ?B F5 ?X N5 ?T rfl rfl rfl rfl (List.forall_mem_nil _) (List.forall_mem_nil _) ?d ?u ?_
    case B => k_asm
    case X => k_asm
    case T => k_asm
    case d => first | decide | exact Nat.le_of_ble_eq_true rfl
    case u => first | decide | exact Nat.le_of_ble_eq_true rfl
    rintro v h' tk' F6 K6 hE3
    refine hideG fun PP kP => ?_
    obtain ⟨t', ev⟩ := hE3
    refine kP ?_
    clear kP PP
    subst ev
    have N6 := newsUpd0 N5 K6
    exact LCg.CompEnd.intro F6 N6 _ (fun p hp => hp) off3 trivial ⟨rfl, text_step hz⟩
  rintro zs news hE4
  refine hideG fun PP kP => ?_
  obtain ⟨en, hz⟩ := hE4
  refine kP ?_
  clear kP PP
  subst en
  unfold LCg.FinE
  intro xD2 hh tkk F3 N3 offE
  clear F9 N9
  have hCar := text_carried hz
  (repeat' (first | (k_unfold; (try dsimp only)) | (k_end; wrow_close) | walk1 | (dsimp only; walk1) | (leave1; (try dsimp only)) | fail "no step"))
  unfold Halt
  (rename News _ _ _ _ => N4)
  refine KT.join_B 10 (News.isList N4 (.head _)) hCar text_each (by decide) (by decide) ?_
  intro tX tkX
  rw [text_join]
  (repeat' (first | (k_unfold; (try dsimp only)) | (k_end; wrow_close) | walk1 | (dsimp only; walk1) | (leave1; (try dsimp only)) | fail "no step"))
  unfold Halt
  (rename Fr _ _ _ _ => F6); (rename News _ _ _ _ => N6)
  have hx7 := offD.2.2.1
  have hx82 := offD.2.2.2.2.2.2.2.2.2
  have hD1 := x5.1
  clear off9 offD x5
  have LF : LawFacts T fi se ds := ⟨hT, hf, hse, hd12, hdm⟩
  repeat (rename _ => xx; revert xx)
  intro hbox
  exact hbox.get : PySem.Challenge.rw_ta0022_01.Holds)
noncomputable def law3 := fun (hbox : Box2 _) => (by
  w_top off
  refine law2 ⟨?_⟩
  k_fill
  intros
  rename_i hx7 hx82 hD1 LF
  (rename Fr _ _ _ _ => F6); (rename News _ _ _ _ => N6); (rename 82 < _ => l0)
  refine' Spec.use (stream_spec _ _ _ (textL_ok _ _) (newsAt N6 10 rfl)) ?B F6 ?X N6 ?T rfl rfl rfl rfl ?m ?o ?d ?u ?_
  case B => k_asm
  case X => k_asm
  case T => k_asm
  case m => simp
  case o => simp
  case d => first | decide | exact Nat.le_of_ble_eq_true rfl
  case u => first | decide | exact Nat.le_of_ble_eq_true rfl
  rintro v h7 tk7 F7 K7 hE1
  refine hideG fun PP kP => ?_
  obtain ⟨S, t₀, nS, psS, ev, SC, SO, RO, hpl, h82, hSN, hSc⟩ := hE1
  refine kP ?_
  clear kP PP
  subst ev
  have Nold : News _ _ _ [_, _, _, _, _, _, _, _, _] := newsPick N6 [1, 2, 3, 4, 5, 6, 7, 8, 9]
  have hSz := Nat.lt_of_lt_of_le (Heap.lt_size (newsAt N6 1 rfl)) hSc
  have hSz2 := Nat.lt_of_lt_of_le (Heap.lt_size (newsAt N6 8 rfl)) hSc
  have hSz3 := Nat.lt_of_lt_of_le (Heap.lt_size (newsAt N6 9 rfl)) hSc
  have Nk := news_keep82 Nold K7 (by
    simp only [List.forall_mem_cons]
    exact ⟨Nat.ne_of_gt (by omega), Nat.ne_of_gt (by omega), Nat.ne_of_gt (by omega), Nat.ne_of_gt (by omega), Nat.ne_of_gt (by omega), Nat.ne_of_gt (by omega), Nat.ne_of_gt (by omega), Ne.symm hx82, Nat.ne_of_gt (by omega), List.forall_mem_nil _⟩)
  have Nk := news_cons (News.mut2 N6 (p := (82, _)) (.tail _ (.tail _ (.tail _ (.tail _ (.tail _ (.tail _ (.tail _ (.tail _ (.tail _ (.tail _ (.head _))))))))))) h82) Nk
  have hSN' := hSN
  unfold SN at hSN'
  have Nk := news_cons (News.new2 F6 SC.h2 hSc) Nk
  have Nk := news_cons (News.new2 F6 SC.h1 (Nat.le_trans hSc (by omega))) Nk
  have Nk := news_cons (News.new2 F6 hpl (Nat.le_trans hSc (by omega))) Nk
  have Nk := news_cons (News.new2 F6 SC.hcc (Nat.le_trans hSc (by omega))) Nk
  have Nk := news_cons (News.new2 F6 SC.hrd (Nat.le_trans hSc (by omega))) Nk
  have Nk := news_cons (News.new2 F6 SC.hst (Nat.le_trans hSc (by omega))) Nk
  have Nk := news_cons (News.new2 F6 SC.hsd (Nat.le_trans hSc (by omega))) Nk
  clear Nold F6 N6 K7 SC hpl h82
  (try dsimp only [List.nil_append] at Nk)
  (repeat' (first | (k_unfold; (try dsimp only)) | (k_end; wrow_close) | walk1 | (dsimp only; walk1) | (leave1; (try dsimp only)) | fail "no step"))
  unfold Halt
  repeat (rename _ => xx; revert xx)
  intro hbox
  exact hbox.get : PySem.Challenge.rw_ta0022_01.Holds)
noncomputable def law4 := fun (hbox : Box2 _) => (by
  w_top off
  refine law3 ⟨?_⟩
  k_fill
  intros
  (rename Fr _ _ _ _ => F9); (rename News _ _ _ _ => N9); (rename 82 < _ => l0)
  (rename SA => S); (rename StrmO _ => SO); (rename ReadOK _ _ _ _ _ _ _ => RO); (rename SN _ => hSN)
  refine hideG fun PP kP => ?_
  obtain ⟨A, ax, ad, ap, tl0, hdx⟩ := lexA_of (newsAt N9 1 rfl) (newsAt N9 2 rfl)
  refine kP ?_
  clear kP PP
  have NR := newsPick N9 [0, 1, 3, 4, 5, 6, 8, 9, 10, 11, 12, 13, 14, 15, 16, 17, 18, 19]
  generalize hrest : List.filterMap _ _ = rest at NR
  have hr : rest = [_, _, _, _, _, _, _, _, _, _, _, _, _, _, _, _, _, _] := hrest.symm
  clear hrest
  have NR := news_cons (N9 _ (.tail _ (.tail _ (.tail _ (.tail _ (.tail _ (.tail _ (.tail _ (.head _))))))))) NR
  have NR := news_cons ⟨hdx, (ad ▸ (N9 _ (.tail _ (.tail _ (.head _)))).2)⟩ NR
  have cp := chain82 l0 (b := S.pl) (by omega)
  have cd := chain82 l0 (b := A.dx) (by omega)
  have hdis : ∀ p ∈ rest, p.1 ≠ A.dx ∧ p.1 ≠ S.pl := by
    rw [hr]
    (try unfold OffA); simp only [List.forall_mem_cons]
    refine ⟨?_, ?_, ?_, ?_, ?_, ?_, ?_, ?_, ?_, ?_, ?_, ?_, ?_, ?_, ?_, ?_, ?_, ?_, List.forall_mem_nil _⟩ <;> (constructor <;> first | (refine Nat.ne_of_lt ?_; walk_at "pick") | exact Nat.ne_of_gt (by omega) | exact Nat.ne_of_lt (by omega))
  subst ax ad ap
  have ND : LexN A S := ⟨hSN, by omega, by omega, by omega⟩
  (rename LawFacts _ _ _ _ => LF)
  refine LCg.CompSrc.range (n := 12) (by rfl) F9 NR (by assumption) (by first | decide | rfl) (by first | rfl | decide) (Nat.le_of_ble_eq_true rfl) ?_
  intro g'
  clear N9 F9
  refine turns_L (wordsI LF _ A S rest) ⟨1, 0, [], tl0, _, _, rfl, tokSt0 _ _, .nil⟩ ?one ?_
  case one =>
    rintro i zs news hi hE1 v I oI Cc oC D m₂ hh tkk E' hE2 nso m2 F3 N3 off3 ne3
    refine hideG fun PP kP => ?_
    obtain ⟨ln, p, pre, tl, tp, n, en, hst, hz⟩ := hE1
    obtain ⟨t, ev⟩ := hE2
    refine kP ?_
    clear kP PP
    subst en ev
    have hr2 := hr
    subst hr2
    clear NR
    (try dsimp only at N3)
    (repeat' (first | (k_unfold; (try dsimp only)) | (k_end; wrow_close) | walk1 | (dsimp only; walk1) | (leave1; (try dsimp only)) | fail "no step"))
    unfold Halt
    (rename Fr _ _ _ _ => F5); (rename News _ _ _ _ => N5)
    refine hideG fun PP kP => ?_
    obtain ⟨pc, pre', hok, hov, hval, hRem, hst', hl0, hl1, hl2⟩ := tok_turn hst hi (LF.at hi)
    refine kP ?_
    clear kP PP
    refine' Spec.use (get_token_stream SO RO ND ⟨newsAt N5 6 rfl, ⟨_, newsAt N5 3 rfl⟩, ⟨_, _, newsAt N5 4 rfl⟩, ⟨newsAt N5 8 rfl, newsAt N5 7 rfl, newsAt N5 9 rfl, newsAt N5 11 rfl, newsAt N5 12 rfl, newsAt N5 10 rfl⟩⟩ (newsAt N5 5 rfl) (textL_ok _ _) pre pc _ hst.bl (hok _) hRem hl0 hl1 hl2) ?B F5 ?X N5 ?T rfl rfl rfl rfl ?m ?o ?d ?u ?_
    case B => k_asm
    case X => k_asm
    case T => k_asm
    case m => simp
    case o => simp
    case d => first | decide | exact Nat.le_of_ble_eq_true rfl
    case u => first | decide | exact Nat.le_of_ble_eq_true rfl
    rintro v h7 tk7 F7 K7 hE3
    refine hideG fun PP kP => ?_
    obtain ⟨⟨tv, ev⟩, ⟨hlx7, ⟨tl2, hdx2⟩, ⟨tp2, n2, hpl2⟩, strm7⟩⟩ := hE3
    refine kP ?_
    clear kP PP
    subst ev
    refine hideG fun PP kP => ?_
    obtain ⟨N7, off7⟩ := news_turn N5 K7 hdx2 hpl2 off3 hdis
    refine kP ?_
    clear kP PP
    exact LCg.CompEnd.intro F7 N7 _ (fun p hp => hp) off7 trivial ⟨_, _, pre', tl2, tp2, n2, rfl, by rw [hov, Int.add_zero]; exact hst', strs_step hz (by rw [hval])⟩
  rintro zs news hE4
  refine hideG fun PP kP => ?_
  obtain ⟨ln, p, pre, tl, tp, n, en, hst, hz⟩ := hE4
  refine kP ?_
  clear kP PP
  subst en
  unfold LCg.FinA
  intro xW hW tkW FW NW offW
  rw [hr] at NW offW
  have NP : News _ _ _ [_, _, _, _, _, _, _, _, _, _, _, _, _, _, _, _, _, _, _, _, _] := newsPick NW [3, 0, 1, 2, 4, 5, 6, 7, 8, 9, 10, 11, 12, 13, 14, 15, 16, 17, 18, 19, 20]
  have hWpb := offW.2.2.1
  clear NW NR offW
  have cb := chain82 l0 (b := A.pb) (by omega)
  have hpbK := off_pb NP (by
    (try unfold OffA); simp only [List.forall_mem_cons]
    refine ⟨?_, ?_, ?_, ?_, ?_, ?_, ?_, ?_, ?_, ?_, ?_, ?_, ?_, ?_, ?_, ?_, ?_, ?_, ?_, ?_, List.forall_mem_nil _⟩ <;> first | (refine Nat.ne_of_lt ?_; walk_at "pick") | exact Nat.ne_of_gt (by omega) | exact Nat.ne_of_lt (by omega) | exact hWpb | exact Ne.symm hWpb)
  have hdpK := off_dp NP (by
    unfold OffB; simp only [List.forall_mem_cons]
    refine ⟨?_, ?_, ?_, ?_, ?_, ?_, ?_, ?_, ?_, ?_, ?_, ?_, ?_, ?_, ?_, ?_, ?_, List.forall_mem_nil _⟩ <;> (constructor <;> first | (refine Nat.ne_of_lt ?_; walk_at "pick") | exact Nat.ne_of_gt (by omega) | exact Nat.ne_of_lt (by omega)))
  clear cp cd cb
  repeat (rename _ => xx; revert xx)
  intro hbox
  exact hbox.get : PySem.Challenge.rw_ta0022_01.Holds)
noncomputable def law5 := fun (hbox : Box2 _) => (by
  w_top off
  refine law4 ⟨?_⟩
  k_fill
  intros
  (rename OffA _ _ => hpbK); (rename Frag.In _ _ => XX); (rename LawFacts _ _ _ _ => LF); (rename LexN _ _ => ND); (rename StrsAre _ _ => hz); (rename News _ _ _ _ => NW); (rename Fr _ _ _ _ => FW)
  (repeat' (first | (k_unfold; (try dsimp only)) | (k_end; wrow_close) | walk1 | (dsimp only; walk1) | (leave1; (try dsimp only)) | fail "no step"))
  unfold Halt
  (rename Fr _ _ _ _ => F5); (rename News _ _ _ _ => N5)
  refine iter_listTurns (by rfl) F5 N5 (.tail _ (.head _)) rfl rfl (fun I hI => ?_)
  refine items_run (pushI LF _ _ _) ?turn ?fin ⟨_, [], 0, selfMap _ _, rfl, .nil⟩
  case turn =>
    rename LA => A
    rintro i v m news hh tkk oI hv hE1 F hc N
    refine hideG fun PP kP => ?_
    obtain ⟨u, us, n, em, en, hw⟩ := hE1
    refine kP ?_
    clear kP PP
    subst em en
    refine hideG fun PP kP => ?_
    obtain ⟨hi, t, ev⟩ := word_at hz hv
    refine kP ?_
    clear kP PP
    subst ev
    refine hideG fun PP kP => ?_
    obtain ⟨tE, hE⟩ := ett_in XX (LF.at hi).1 (LF.at hi).2
    refine kP ?_
    clear kP PP
    clear F5 N5
    (repeat' (first | (k_unfold; (try dsimp only)) | (k_end; wrow_close) | walk1 | (dsimp only; walk1) | (leave1; (try dsimp only)) | fail "no step"))
    unfold Halt
    (rename Fr _ _ _ _ => F5); (rename News _ _ _ _ => N5)
    refine topItem_K F5 XX (by k_is) (by k_keys) hE ?_
    have hdi := LF.at hi
    (repeat' (first | (k_unfold; (try dsimp only)) | (k_end; wrow_close) | walk1 | (dsimp only; walk1) | (leave1; (try dsimp only)) | fail "no step"))
    unfold Halt
    (rename Fr _ _ _ _ => F6); (rename News _ _ _ _ => N6)
    refine' Spec.use (word_spec ?a ?b) ?B F6 ?X N6 ?T rfl rfl rfl rfl (List.forall_mem_nil _) (List.forall_mem_nil _) ?d ?u ?_
    case a => omega
    case b => omega
    case B => k_asm
    case X => k_asm
    case T => k_asm
    case d => first | decide | exact Nat.le_of_ble_eq_true rfl
    case u => first | decide | exact Nat.le_of_ble_eq_true rfl
    rintro v h' tk' F7 K7 hE2
    refine hideG fun PP kP => ?_
    obtain ⟨t', ev⟩ := hE2
    refine kP ?_
    clear kP PP
    subst ev
    have N7 := newsUpd0 N6 K7
    (repeat' (first | (k_unfold; (try dsimp only)) | (k_end; wrow_close) | walk1 | (dsimp only; walk1) | (leave1; (try dsimp only)) | fail "no step"))
    unfold Halt
    (rename Fr _ _ _ _ => F8); (rename News _ _ _ _ => N8)
    have hul := hw.length
    rw [List.length_map, List.length_range] at hul
    refine' Spec.use (push_spec ND (newsAt N8 5 rfl) (newsAt N8 3 rfl) (newsAt N8 1 rfl) ?len) ?B F8 ?X N8 ?T rfl rfl rfl rfl ?m ?o ?d ?u ?_
    case len => omega
    case B => k_asm
    case X => k_asm
    case T => k_asm
    case m => simp
    case o => simp
    case d => first | decide | exact Nat.le_of_ble_eq_true rfl
    case u => first | decide | exact Nat.le_of_ble_eq_true rfl
    rintro v h8 tk8 F9 K9 hE3
    refine hideG fun PP kP => ?_
    obtain ⟨ev, n9, hpb9⟩ := hE3
    refine kP ?_
    clear kP PP
    subst ev
    have N9 := news_one N8 K9 hpb9 (Nat.ne_of_gt (hI (A.pb, _) (.head _))) hpbK
    (repeat' (first | (k_unfold; (try dsimp only)) | (k_end; wrow_close) | walk1 | (dsimp only; walk1) | (leave1; (try dsimp only)) | fail "no step"))
    exact ⟨_, _, _, _, rfl, frSet1 F9, N9, off_one hI, ⟨⟨.tail _ (.head _), trivial⟩, _, _, n9, rfl, rfl, words_step hw⟩⟩
  rintro m news hh tkk hE4 F N
  refine hideG fun PP kP => ?_
  obtain ⟨u, us, n, em, en, hw⟩ := hE4
  refine kP ?_
  clear kP PP
  have hzl := hz.length
  rw [List.length_map, List.length_range] at hzl
  rw [hzl] at hw
  subst em en
  clear hz hzl F5 N5
  have w0 : wordF 0 = Str.ofString "" := by decide +kernel
  (repeat' (first | (k_unfold; (try dsimp only)) | (k_end; wrow_close) | walk1 | (dsimp only; walk1) | (leave1; (try dsimp only)) | fail "no step"))
  unfold Halt
  (rename Fr _ _ _ _ => F6); (rename News _ _ _ _ => N6)
  refine' Spec.use (word_spec ?a ?b) ?B F6 ?X N6 ?T rfl rfl rfl rfl (List.forall_mem_nil _) (List.forall_mem_nil _) ?d ?u ?_
  case a => omega
  case b => omega
  case B => k_asm
  case X => k_asm
  case T => k_asm
  case d => first | decide | exact Nat.le_of_ble_eq_true rfl
  case u => first | decide | exact Nat.le_of_ble_eq_true rfl
  rintro v h' tk' F7 K7 hE5
  refine hideG fun PP kP => ?_
  obtain ⟨t', ev⟩ := hE5
  refine kP ?_
  clear kP PP
  rw [w0] at ev
  subst ev
  have N7 := newsUpd0 N6 K7
  clear F6 N6 K7
  (repeat' (first | (k_unfold; (try dsimp only)) | (k_end; wrow_close) | walk1 | (dsimp only; walk1) | (leave1; (try dsimp only)) | fail "no step"))
  unfold Halt
  (rename Fr _ _ _ _ => F6); (rename News _ _ _ _ => N6)
  refine' Spec.use (word_spec ?a ?b) ?B F6 ?X N6 ?T rfl rfl rfl rfl (List.forall_mem_nil _) (List.forall_mem_nil _) ?d ?u ?_
  case a => omega
  case b => omega
  case B => k_asm
  case X => k_asm
  case T => k_asm
  case d => first | decide | exact Nat.le_of_ble_eq_true rfl
  case u => first | decide | exact Nat.le_of_ble_eq_true rfl
  rintro v h' tk' F7 K7 hE6
  refine hideG fun PP kP => ?_
  obtain ⟨t', ev⟩ := hE6
  refine kP ?_
  clear kP PP
  subst ev
  have N7 := newsUpd0 N6 K7
  clear F6 N6 K7
  (repeat' (first | (k_unfold; (try dsimp only)) | (k_end; wrow_close) | walk1 | (dsimp only; walk1) | (leave1; (try dsimp only)) | fail "no step"))
  unfold Halt
  (rename Fr _ _ _ _ => F8); (rename News _ _ _ _ => N8)
  have hul := hw.length
  rw [List.length_map, List.length_range] at hul
  refine' Spec.use (push_spec ND (newsAt N8 4 rfl) (newsAt N8 2 rfl) (newsAt N8 0 rfl) ?len) ?B F8 ?X N8 ?T rfl rfl rfl rfl ?m ?o ?d ?u ?_
  case len => omega
  case B => k_asm
  case X => k_asm
  case T => k_asm
  case m => simp
  case o => simp
  case d => first | decide | exact Nat.le_of_ble_eq_true rfl
  case u => first | decide | exact Nat.le_of_ble_eq_true rfl
  rintro v h8 tk8 F9 K9 hE7
  refine hideG fun PP kP => ?_
  obtain ⟨ev, n9, hpb9⟩ := hE7
  refine kP ?_
  clear kP PP
  subst ev
  have N9 := news_drop1 (news_head N8 K9 hpb9 hpbK)
  have hw2 := hw.snoc 0 t'
  clear hw hul hpb9 N8 F8 K9
  replace hpbK := hpbK.tail
  (repeat' (first | (k_unfold; (try dsimp only)) | (k_end; wrow_close) | walk1 | (dsimp only; walk1) | (leave1; (try dsimp only)) | fail "no step"))
  unfold Halt
  repeat (rename _ => xx; revert xx)
  intro hbox
  exact hbox.get : PySem.Challenge.rw_ta0022_01.Holds)
noncomputable def law6 := fun (hbox : Box2 _) => (by
  w_top off
  refine law5 ⟨?_⟩
  k_fill
  intros
  (rename OffA _ _ => hpbK); (rename WordsAre _ _ => hw2)
  (rename Frag.In _ _ => XX); (rename LawFacts _ _ _ _ => LF); (rename LexN _ _ => ND); (rename News _ _ _ _ => N5); (rename Fr _ _ _ _ => F5); (rename PySem.Heap.IsList (ghostOf _ _) _ _ => hsc)
  have hf7 := LF.hf
  have hs7 := LF.hs
  refine' SpecI.use (pairs_spec ?hi ?hn ?ha ?hb (newsAt N5 0 rfl)) hsc ?B F5 ?X N5 ?T rfl rfl rfl rfl ?m ?o ?d ?u ?_
  case hi => assumption
  case hn => omega
  case ha => omega
  case hb => omega
  case B => k_asm
  case X => k_asm
  case T => k_asm
  case m => simp
  case o => simp
  case d => first | decide | exact Nat.le_of_ble_eq_true rfl
  case u => first | decide | exact Nat.le_of_ble_eq_true rfl
  rintro v h7 tk7 F7 K7 hE1
  refine hideG fun PP kP => ?_
  obtain ⟨C, ev, hP, PN, PL, HL⟩ := hE1
  refine kP ?_
  clear kP PP
  subst ev
  have PN' := PN
  unfold PairsN at PN'
  dsimp only at hP
  have hb0 := Heap.lt_size (newsAt N5 1 rfl)
  have N7 := newsUpd0 N5 K7
  have NR : News _ _ _ [_, _, _, _, _, _, _, _, _, _, _, _, _, _, _, _, _, _, _] := newsPick N7 [2, 3, 4, 5, 6, 7, 8, 9, 10, 11, 12, 13, 14, 15, 16, 17, 18, 19, 20]
  have NR := news_cons (News.new2 F5 (PL _ (.tail _ (.tail _ (.tail _ (.tail _ (.head _)))))) (Nat.le_trans hP (by dsimp only; omega))) NR
  have NR := news_cons (News.new2 F5 (PL _ (.tail _ (.tail _ (.tail _ (.head _))))) (Nat.le_trans hP (by dsimp only; omega))) NR
  have NR := news_cons (News.new2 F5 (PL _ (.tail _ (.tail _ (.head _)))) (Nat.le_trans hP (by dsimp only; omega))) NR
  have NR := news_cons (News.new2 F5 (PL _ (.tail _ (.head _))) (Nat.le_trans hP (by dsimp only; omega))) NR
  have NR := news_cons (News.new2 F5 (PL _ (.head _)) hP) NR
  have NR := news_cons (N7 _ (.tail _ (.head _))) NR
  (try dsimp only at NR)
  replace hpbK : OffA _ _ := off_pb NR (OffA.cons (Nat.ne_of_gt (Nat.lt_of_lt_of_le hb0 hP)) (OffA.cons (Nat.ne_of_gt (Nat.lt_of_lt_of_le hb0 (Nat.le_trans hP (by omega)))) (OffA.cons (Nat.ne_of_gt (Nat.lt_of_lt_of_le hb0 (Nat.le_trans hP (by omega)))) (OffA.cons (Nat.ne_of_gt (Nat.lt_of_lt_of_le hb0 (Nat.le_trans hP (by omega)))) (OffA.cons (Nat.ne_of_gt (Nat.lt_of_lt_of_le hb0 (Nat.le_trans hP (by omega)))) hpbK)))))
  clear N5 F5 K7 N7 PL hb0 hP
  (repeat' (first | (k_unfold; (try dsimp only)) | (k_end; wrow_close) | walk1 | (dsimp only; walk1) | (leave1; (try dsimp only)) | fail "no step"))
  unfold Halt
  (rename Fr _ _ _ _ => F8); (rename News _ _ _ _ => N8)
  refine iter_rangeUnr (n := 4) (by rfl) (by assumption) (by first | decide | rfl) (by first | decide | rfl) F8 N8 (fun I hI => ?_)
  have hso := syms_ok LF
  refine range_run (roundsI C _ (syms _) _ _) ?turn ?fin ⟨_, _, _, selfMap _ _, rfl, hw2⟩
  case turn =>
    rename LA => A
    rintro i m news t hh tkk hi4 hE2 F N
    refine hideG fun PP kP => ?_
    obtain ⟨u, us, n, em, en, hw⟩ := hE2
    refine kP ?_
    clear kP PP
    subst em en
    clear F8 N8 hw2
    refine hideG fun PP kP => ?_
    obtain ⟨hpi, ⟨ta, tb, n', hmem⟩, hl, hr⟩ := pair_at HL hi4
    refine kP ?_
    clear kP PP
    have hgp := (N _ (.tail _ (.tail _ (List.mem_append_left _ hmem)))).1
    (repeat' (first | (k_unfold; (try dsimp only)) | (k_end; wrow_close) | walk1 | (dsimp only; walk1) | (leave1; (try dsimp only)) | fail "no step"))
    unfold Halt
    refine item_listT (isListOf (newsAt N 2 rfl)) (by omega) (by omega) hpi ?_
    (repeat' (first | (k_unfold; (try dsimp only)) | (k_end; wrow_close) | walk1 | (dsimp only; walk1) | (leave1; (try dsimp only)) | fail "no step"))
    unfold Halt
    refine item_listT (isListOf hgp) (by decide) (by decide) rfl ?_
    (repeat' (first | (k_unfold; (try dsimp only)) | (k_end; wrow_close) | walk1 | (dsimp only; walk1) | (leave1; (try dsimp only)) | fail "no step"))
    unfold Halt
    refine item_listT (isListOf (newsAt N 2 rfl)) (by omega) (by omega) hpi ?_
    (repeat' (first | (k_unfold; (try dsimp only)) | (k_end; wrow_close) | walk1 | (dsimp only; walk1) | (leave1; (try dsimp only)) | fail "no step"))
    unfold Halt
    refine item_listT (isListOf hgp) (by decide) (by decide) rfl ?_
    (repeat' (first | (k_unfold; (try dsimp only)) | (k_end; wrow_close) | walk1 | (dsimp only; walk1) | (leave1; (try dsimp only)) | fail "no step"))
    unfold Halt
    (rename Fr _ _ _ _ => F5)
    obtain ⟨hrk, hrl⟩ := rnds_ok hso.1 (Nat.le_of_eq hso.2) i (by omega)
    refine' Spec.use (round_spec ND (newsAt N 9 rfl) (newsAt N 7 rfl) (newsAt N 1 rfl) hw hrk ?len hl hr ?hm) ?B F5 ?X N ?T rfl rfl rfl rfl ?m ?o ?d ?u ?_
    case len => omega
    case hm => omega
    case B => k_asm
    case X => k_asm
    case T => k_asm
    case m => simp
    case o => simp
    case d => first | decide | exact Nat.le_of_ble_eq_true rfl
    case u => first | decide | exact Nat.le_of_ble_eq_true rfl
    rintro v h8 tk8 F9 K9 hE3
    refine hideG fun PP kP => ?_
    obtain ⟨ev, us9, n9, hw9, hpb9⟩ := hE3
    refine kP ?_
    clear kP PP
    subst ev
    have N9 := news_one N K9 hpb9 (Nat.ne_of_gt (hI (A.pb, _) (.head _))) hpbK
    (repeat' (first | (k_unfold; (try dsimp only)) | (k_end; wrow_close) | walk1 | (dsimp only; walk1) | (leave1; (try dsimp only)) | fail "no step"))
    exact ⟨_, _, _, _, rfl, frSet1 F9, N9, off_I hI, ⟨_, us9, n9, rfl, rfl, hw9⟩⟩
  rename LA => A
  rintro m news hh tkk hE4 F N
  refine hideG fun PP kP => ?_
  obtain ⟨u, us, n, em, en, hw⟩ := hE4
  refine kP ?_
  clear kP PP
  subst em en
  clear F8 N8 hw2 hI
  rw [rnds4] at hw
  obtain ⟨hrk, hrl⟩ := rnds_ok (C := C) hso.1 (Nat.le_of_eq hso.2) 4 (by omega)
  rw [rnds4] at hrk hrl
  (repeat' (first | (k_unfold; (try dsimp only)) | (k_end; wrow_close) | walk1 | (dsimp only; walk1) | (leave1; (try dsimp only)) | fail "no step"))
  unfold Halt
  (rename Fr _ _ _ _ => F5); (rename News _ _ _ _ => N5)
  refine' Spec.use (row_spec ND (newsAt N5 8 rfl) (newsAt N5 6 rfl) (newsAt N5 0 rfl) hw hrk ?len) ?B F5 ?X N5 ?T rfl rfl rfl rfl ?m ?o ?d ?u ?_
  case len => omega
  case B => k_asm
  case X => k_asm
  case T => k_asm
  case m => simp
  case o => simp
  case d => first | decide | exact Nat.le_of_ble_eq_true rfl
  case u => first | decide | exact Nat.le_of_ble_eq_true rfl
  rintro v h8 tk8 F9 K9 hE5
  refine hideG fun PP kP => ?_
  obtain ⟨D, us9, nD, n9, ev, hD1, hD2, hrow, hpb9⟩ := hE5
  refine kP ?_
  clear kP PP
  subst ev
  have hp3D := Nat.lt_of_lt_of_le (Heap.lt_size (newsAt N5 5 rfl)) hD1
  have N9 := news_cons (News.new2 F5 hD2 hD1) (news_head N5 K9 hpb9 hpbK)
  clear F5 N5 hw hpb9 hD1 hD2 K9
  repeat (rename _ => xx; revert xx)
  intro hbox
  exact hbox.get : PySem.Challenge.rw_ta0022_01.Holds)
noncomputable def law7 := fun (hbox : Box2 _) => (by
  w_top off
  refine law6 ⟨?_⟩
  k_fill
  intros
  (rename OffA _ _ => hpbK); (rename IntsAre _ (full _ _) => hrow); (rename Frag.In _ _ => XX); (rename LawFacts _ _ _ _ => LF); (rename LexN _ _ => ND); (rename PairsN _ => PN); (rename Low _ => HL); (rename News _ _ _ _ => N5); (rename Fr _ _ _ _ => F5)
  rename PA => C
  rename LA => A
  (repeat' (first | (k_unfold; (try dsimp only)) | (k_end; wrow_close) | walk1 | (dsimp only; walk1) | (leave1; (try dsimp only)) | fail "no step"))
  unfold Halt
  (rename Fr _ _ _ _ => F6); (rename News _ _ _ _ => N6); (rename IntsAre _ (List.map _ _) => hsy)
  rw [syms_map LF] at hsy
  have hso := syms_ok LF
  refine hideG fun PP kP => ?_
  obtain ⟨hg0, hgY, hgL, hgS⟩ := full_facts HL hso.1
  refine kP ?_
  clear kP PP
  have hPL : PairsAt C _ := fun q hq => (N6 q (.tail _ (.tail _ (.tail _ (List.mem_append_left _ hq))))).1
  refine' Spec.use (joined_spec PN hPL (newsAt N6 0 rfl) hsy ?n1 ?n12 (goodF C (full C (syms _))) hg0 (fun c r k hg M => good_step HL hg M)) ?B F6 ?X N6 ?T rfl rfl rfl rfl ?m ?o ?d ?u ?_
  case n1 => omega
  case n12 => omega
  case B => k_asm
  case X => k_asm
  case T => k_asm
  case m => simp
  case o => simp
  case d => first | decide | exact Nat.le_of_ble_eq_true rfl
  case u => first | decide | exact Nat.le_of_ble_eq_true rfl
  rintro v h8 tk8 F9 K9 hE1
  refine hideG fun PP kP => ?_
  obtain ⟨DJ, uJ, nJ, c, ev, hJ, hcJ, hgJ, hend⟩ := hE1
  refine kP ?_
  clear kP PP
  subst ev
  have ecJ := good_end HL hgJ hend
  subst ecJ
  have N9 := newsUpd0 N6 K9
  (repeat' (first | (k_unfold; (try dsimp only)) | (k_end; wrow_close) | walk1 | (dsimp only; walk1) | (leave1; (try dsimp only)) | fail "no step"))
  unfold Halt
  refine ne_same (isListOf (newsAt N9 1 rfl)) hrow (isListOf hJ) hcJ (by first | units_room | decide | exact Nat.le_of_ble_eq_true rfl) ?_
  (repeat' (first | (k_unfold; (try dsimp only)) | (k_end; wrow_close) | walk1 | (dsimp only; walk1) | (leave1; (try dsimp only)) | fail "no step"))
  unfold Halt
  (rename Fr _ _ _ _ => Fa); (rename News _ _ _ _ => Na)
  refine' Spec.use (parted_spec PN (fun q hq => (Na q (.tail _ (.tail _ (.tail _ (List.mem_append_left _ hq))))).1) (yields HL) (newsAt Na 1 rfl) hrow hgS ?hw) ?B Fa ?X Na ?T rfl rfl rfl rfl ?m ?o ?d ?u ?_
  case hw => exact Nat.le_trans (wSum_le (B := 31) (fun x => wF4_lt.2.2.2.2.1) _) (by omega)
  case B => k_asm
  case X => k_asm
  case T => k_asm
  case m => simp
  case o => simp
  case d => first | decide | exact Nat.le_of_ble_eq_true rfl
  case u => first | decide | exact Nat.le_of_ble_eq_true rfl
  rintro v hb tkb Fb Kb hE2
  refine hideG fun PP kP => ?_
  obtain ⟨DP, uP, nP, ev, hDP1, hDP2, hcP⟩ := hE2
  refine kP ?_
  clear kP PP
  subst ev
  rw [hgY] at hcP
  have Nb := newsUpd0 Na Kb
  clear F6 N6 K9 hJ hcJ hgJ hend Fa Na
  (repeat' (first | (k_unfold; (try dsimp only)) | (k_end; wrow_close) | walk1 | (dsimp only; walk1) | (leave1; (try dsimp only)) | fail "no step"))
  unfold Halt
  refine ne_same (isListOf hDP2) hcP (isListOf (newsAt Nb 0 rfl)) hsy (by first | units_room | decide | exact Nat.le_of_ble_eq_true rfl) ?_
  (repeat' (first | (k_unfold; (try dsimp only)) | (k_end; wrow_close) | walk1 | (dsimp only; walk1) | (leave1; (try dsimp only)) | fail "no step"))
  unfold Halt
  repeat (rename _ => xx; revert xx)
  intro hbox
  exact hbox.get : PySem.Challenge.rw_ta0022_01.Holds)
theorem law_holds : PySem.Challenge.rw_ta0022_01.Holds := by
  refine law7 ⟨?_⟩
  k_fill
  intros
  (rename OffB _ _ _ => hdpK); (rename TokSt _ _ 12 _ _ _ => hst); (rename Frag.In _ _ => XX); (rename LawFacts _ _ _ _ => LF); (rename LexN _ _ => ND); (rename News _ _ _ _ => N5); (rename Fr _ _ _ _ => F5)
  (rename SA => S); (rename StrmO _ => SO); (rename ReadOK _ _ _ _ _ _ _ => RO)
  rename LA => A
  refine hideG fun PP kP => ?_
  obtain ⟨hRem, hln, hl0, hl1, hl2⟩ := tok_end hst
  refine kP ?_
  clear kP PP
  refine' Spec.use (get_token_stream SO RO ND ⟨newsAt N5 10 rfl, ⟨_, newsAt N5 8 rfl⟩, ⟨_, _, newsAt N5 9 rfl⟩, ⟨newsAt N5 12 rfl, newsAt N5 11 rfl, newsAt N5 13 rfl, newsAt N5 15 rfl, newsAt N5 16 rfl, newsAt N5 14 rfl⟩⟩ (newsAt N5 2 rfl) (textL_ok _ _) _ Piece.done [] hst.bl rfl hRem hl0 hl1 hl2) ?B F5 ?X N5 ?T rfl rfl rfl rfl ?m ?o ?d ?u ?_
  case B => k_asm
  case X => k_asm
  case T => k_asm
  case m => simp
  case o => simp
  case d => first | decide | exact Nat.le_of_ble_eq_true rfl
  case u => first | decide | exact Nat.le_of_ble_eq_true rfl
  rintro v h7 tk7 F7 K7 hE1
  refine hideG fun PP kP => ?_
  obtain ⟨⟨tv, ev⟩, ⟨hlx7, ⟨tl2, hdx2⟩, ⟨tp2, n2, hpl2⟩, strm7⟩⟩ := hE1
  refine kP ?_
  clear kP PP
  have e0 : textOf Piece.done.val = Str.ofString "" := by decide +kernel
  rw [e0] at ev
  subst ev
  rw [hln] at hdx2
  have N6 : News _ _ _ ((_, _) :: (_, _) :: _) := fun q hq => N5 q (.tail _ (.tail _ (.tail _ (.tail _ (.tail _ (.tail _ (.tail _ (.tail _ hq))))))))
  have N7 := news_two N6 K7 hdx2 hpl2 hdpK
  clear N5 N6 F5 K7 strm7 hlx7 hdx2 hpl2 hRem
  (repeat' (first | (k_unfold; (try dsimp only)) | (k_end; wrow_close) | walk1 | (dsimp only; walk1) | (leave1; (try dsimp only)) | fail "no step"))
  unfold Halt
  refine KXw.count (count_nl _) ?_
  intro tz kz
  (repeat' (first | (k_unfold; (try dsimp only)) | (k_end; wrow_close) | walk1 | (dsimp only; walk1) | (leave1; (try dsimp only)) | fail "no step"))
end
end
end Mine
theorem PySem.Challenge.cw_ta0022_01_holds : PySem.Challenge.rw_ta0022_01.Holds :=
  Mine.law_holds
