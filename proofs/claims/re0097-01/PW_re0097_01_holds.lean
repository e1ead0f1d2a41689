import PyProof.Rows.All
import Wide.All
import OpenK.AllK
import Wide.FinOn
import PySem.Challenge.RW_re0097_01
set_option Elab.async false
set_option compiler.extract_closed false
section
open PySem PySem.W PyProof.Rows
set_option Elab.async false
set_option maxRecDepth 100000
set_option linter.unusedVariables false
namespace Mine

/-! The head: the states of the module's top at five places, as terms over the program. -/
noncomputable abbrev u (s : String) : Str := Str.ofString s
noncomputable abbrev d (P : Params) (k : String) (t : Nat) (v : Value) : DictEntry := ⟨PyData.keyHash P (u k), .str (u k) t, v⟩
noncomputable def fn (p : Program) (i g : Nat) (df pm cd : Value) : FuncData := match p.main.body[i]? with
  | some (.FunctionDef name args body _ _ _ scope _ _ _) => { name := name, qualname := name, params := args, body := .stmts body, scope := scope, globals := g, closure := [], defaults := df, kwdefaults := .none, doc := .none, pyModule := pm, annotations := none, code := cd, closureTuple := .none, builtins := 0 }
  | _ => default
noncomputable def o0_A (p : Program) (P : Params) : Obj := ⟨(.type "dict"), none, (.dict #[(d P "__name__" 1 (.str (u "builtins") 160)), (d P "__doc__" 2 (.builtin "builtins.__doc__:str#opaque")), (d P "__package__" 3 (.builtin "builtins.__package__:str#opaque")), (d P "__loader__" 4 (.builtin "builtins.__loader__:shared#opaque")), (d P "__spec__" 5 (.builtin "builtins.__spec__#opaque")), (d P "__build_class__" 6 (.builtin "__build_class__")), (d P "__import__" 7 (.builtin "__import__")), (d P "abs" 8 (.builtin "abs")), (d P "all" 9 (.builtin "all")), (d P "any" 10 (.builtin "any")), (d P "ascii" 11 (.builtin "ascii")), (d P "bin" 12 (.builtin "bin")), (d P "breakpoint" 13 (.builtin "breakpoint")), (d P "callable" 14 (.builtin "callable")), (d P "chr" 15 (.builtin "chr")), (d P "compile" 16 (.builtin "compile")), (d P "delattr" 17 (.builtin "delattr")), (d P "dir" 18 (.builtin "dir")), (d P "divmod" 19 (.builtin "divmod")), (d P "eval" 20 (.builtin "eval")), (d P "exec" 21 (.builtin "exec")), (d P "format" 22 (.builtin "format")), (d P "getattr" 23 (.builtin "getattr")), (d P "globals" 24 (.builtin "globals")), (d P "hasattr" 25 (.builtin "hasattr")), (d P "hash" 26 (.builtin "hash")), (d P "hex" 27 (.builtin "hex")), (d P "id" 28 (.builtin "id")), (d P "input" 29 (.builtin "input")), (d P "isinstance" 30 (.builtin "isinstance")), (d P "issubclass" 31 (.builtin "issubclass")), (d P "iter" 32 (.builtin "iter")), (d P "aiter" 33 (.builtin "aiter")), (d P "len" 34 (.builtin "len")), (d P "locals" 35 (.builtin "locals")), (d P "max" 36 (.builtin "max")), (d P "min" 37 (.builtin "min")), (d P "next" 38 (.builtin "next")), (d P "anext" 39 (.builtin "anext")), (d P "oct" 40 (.builtin "oct")), (d P "ord" 41 (.builtin "ord")), (d P "pow" 42 (.builtin "pow")), (d P "print" 43 (.builtin "print")), (d P "repr" 44 (.builtin "repr")), (d P "round" 45 (.builtin "round")), (d P "setattr" 46 (.builtin "setattr")), (d P "sorted" 47 (.builtin "sorted")), (d P "sum" 48 (.builtin "sum")), (d P "vars" 49 (.builtin "vars")), (d P "None" 50 .none), (d P "Ellipsis" 51 .ellipsis), (d P "NotImplemented" 52 .notImplemented), (d P "False" 53 (.bool false)), (d P "True" 54 (.bool true)), (d P "bool" 55 (.type "bool")), (d P "memoryview" 56 (.type "memoryview")), (d P "bytearray" 57 (.type "bytearray")), (d P "bytes" 58 (.type "bytes")), (d P "classmethod" 59 (.type "classmethod")), (d P "complex" 60 (.type "complex")), (d P "dict" 61 (.type "dict")), (d P "enumerate" 62 (.type "enumerate")), (d P "filter" 63 (.type "filter")), (d P "float" 64 (.type "float")), (d P "frozenset" 65 (.type "frozenset")), (d P "property" 66 (.type "property")), (d P "int" 67 (.type "int")), (d P "list" 68 (.type "list")), (d P "map" 69 (.type "map")), (d P "object" 70 (.type "object")), (d P "range" 71 (.type "range")), (d P "reversed" 72 (.type "reversed")), (d P "set" 73 (.type "set")), (d P "slice" 74 (.type "slice")), (d P "staticmethod" 75 (.type "staticmethod")), (d P "str" 76 (.type "str")), (d P "super" 77 (.type "super")), (d P "tuple" 78 (.type "tuple")), (d P "type" 79 (.type "type")), (d P "zip" 80 (.type "zip")), (d P "__debug__" 81 (.bool true)), (d P "BaseException" 82 (.type "BaseException")), (d P "BaseExceptionGroup" 83 (.type "BaseExceptionGroup")), (d P "Exception" 84 (.type "Exception")), (d P "GeneratorExit" 85 (.type "GeneratorExit")), (d P "KeyboardInterrupt" 86 (.type "KeyboardInterrupt")), (d P "SystemExit" 87 (.type "SystemExit")), (d P "ArithmeticError" 88 (.type "ArithmeticError")), (d P "AssertionError" 89 (.type "AssertionError")), (d P "AttributeError" 90 (.type "AttributeError")), (d P "BufferError" 91 (.type "BufferError")), (d P "EOFError" 92 (.type "EOFError")), (d P "ImportError" 93 (.type "ImportError")), (d P "LookupError" 94 (.type "LookupError")), (d P "MemoryError" 95 (.type "MemoryError")), (d P "NameError" 96 (.type "NameError")), (d P "OSError" 97 (.type "OSError")), (d P "ReferenceError" 98 (.type "ReferenceError")), (d P "RuntimeError" 99 (.type "RuntimeError")), (d P "StopAsyncIteration" 100 (.type "StopAsyncIteration")), (d P "StopIteration" 101 (.type "StopIteration")), (d P "SyntaxError" 102 (.type "SyntaxError")), (d P "SystemError" 103 (.type "SystemError")), (d P "TypeError" 104 (.type "TypeError")), (d P "ValueError" 105 (.type "ValueError")), (d P "Warning" 106 (.type "Warning")), (d P "FloatingPointError" 107 (.type "FloatingPointError")), (d P "OverflowError" 108 (.type "OverflowError")), (d P "ZeroDivisionError" 109 (.type "ZeroDivisionError")), (d P "BytesWarning" 110 (.type "BytesWarning")), (d P "DeprecationWarning" 111 (.type "DeprecationWarning")), (d P "EncodingWarning" 112 (.type "EncodingWarning")), (d P "FutureWarning" 113 (.type "FutureWarning")), (d P "ImportWarning" 114 (.type "ImportWarning")), (d P "PendingDeprecationWarning" 115 (.type "PendingDeprecationWarning")), (d P "ResourceWarning" 116 (.type "ResourceWarning")), (d P "RuntimeWarning" 117 (.type "RuntimeWarning")), (d P "SyntaxWarning" 118 (.type "SyntaxWarning")), (d P "UnicodeWarning" 119 (.type "UnicodeWarning")), (d P "UserWarning" 120 (.type "UserWarning")), (d P "BlockingIOError" 121 (.type "BlockingIOError")), (d P "ChildProcessError" 122 (.type "ChildProcessError")), (d P "ConnectionError" 123 (.type "ConnectionError")), (d P "FileExistsError" 124 (.type "FileExistsError")), (d P "FileNotFoundError" 125 (.type "FileNotFoundError")), (d P "InterruptedError" 126 (.type "InterruptedError")), (d P "IsADirectoryError" 127 (.type "IsADirectoryError")), (d P "NotADirectoryError" 128 (.type "NotADirectoryError")), (d P "PermissionError" 129 (.type "PermissionError")), (d P "ProcessLookupError" 130 (.type "ProcessLookupError")), (d P "TimeoutError" 131 (.type "TimeoutError")), (d P "IndentationError" 132 (.type "IndentationError")), (d P "_IncompleteInputError" 133 (.type "_IncompleteInputError")), (d P "IndexError" 134 (.type "IndexError")), (d P "KeyError" 135 (.type "KeyError")), (d P "ModuleNotFoundError" 136 (.type "ModuleNotFoundError")), (d P "NotImplementedError" 137 (.type "NotImplementedError")), (d P "PythonFinalizationError" 138 (.type "PythonFinalizationError")), (d P "RecursionError" 139 (.type "RecursionError")), (d P "UnboundLocalError" 140 (.type "UnboundLocalError")), (d P "UnicodeError" 141 (.type "UnicodeError")), (d P "BrokenPipeError" 142 (.type "BrokenPipeError")), (d P "ConnectionAbortedError" 143 (.type "ConnectionAbortedError")), (d P "ConnectionRefusedError" 144 (.type "ConnectionRefusedError")), (d P "ConnectionResetError" 145 (.type "ConnectionResetError")), (d P "TabError" 146 (.type "TabError")), (d P "UnicodeDecodeError" 147 (.type "UnicodeDecodeError")), (d P "UnicodeEncodeError" 148 (.type "UnicodeEncodeError")), (d P "UnicodeTranslateError" 149 (.type "UnicodeTranslateError")), (d P "ExceptionGroup" 150 (.type "ExceptionGroup")), (d P "EnvironmentError" 151 (.type "OSError")), (d P "IOError" 152 (.type "OSError")), (d P "open" 153 (.builtin "open")), (d P "quit" 154 (.builtin "builtins.quit#opaque")), (d P "exit" 155 (.builtin "builtins.exit#opaque")), (d P "copyright" 156 (.builtin "builtins.copyright#opaque")), (d P "credits" 157 (.builtin "builtins.credits#opaque")), (d P "license" 158 (.builtin "builtins.license#opaque")), (d P "help" 159 (.builtin "builtins.help#opaque"))] 159), #[]⟩
noncomputable def o1_A (p : Program) (P : Params) : Obj := ⟨(.type "dict"), none, (.dict #[(d P "builtins" 162 (.ref 4)), (d P "__main__" 163 (.ref 5))] 2), #[]⟩
noncomputable def o2_A (p : Program) (P : Params) : Obj := ⟨.none, none, (.dict #[] 0), #[]⟩
noncomputable def o3_A (p : Program) (P : Params) : Obj := ⟨(.type "dict"), none, (.dict #[(d P "__name__" 165 (.str (u "__main__") 164)), (d P "__doc__" 166 .none), (d P "__package__" 167 .none), (d P "__loader__" 168 (.builtin "__main__.__loader__#opaque")), (d P "__spec__" 169 .none), (d P "__annotations__" 170 (.ref 6)), (d P "__builtins__" 171 (.ref 4)), (d P "__file__" 173 (.str (u "/claim/cut.py") 172)), (d P "__cached__" 174 .none)] 9), #[]⟩
noncomputable def o4_A (p : Program) (P : Params) : Obj := ⟨(.type "module"), (some 0), .plain, #[]⟩
noncomputable def o5_A (p : Program) (P : Params) : Obj := ⟨(.type "module"), (some 3), .plain, #[]⟩
noncomputable def o6_A (p : Program) (P : Params) : Obj := ⟨(.type "dict"), none, (.dict #[] 0), #[]⟩
noncomputable def o7_A (p : Program) (P : Params) : Obj := ⟨(.type "tuple"), none, (.seq #[] 0), #[]⟩
noncomputable def o8_A (p : Program) (P : Params) : Obj := ⟨.none, none, (.fields #[]), #[]⟩
noncomputable def o9_A (p : Program) (P : Params) : Obj := ⟨(.type "code"), none, (.fields #[(.str (u "<module>") 176), (.str (u "<module>") 177), (.str (u "/claim/cut.py") 178), (.int (1) 0), (.int (0) 0), (.int (0) 0), (.int (0) 0), (.int (0) 0), (.ref 7), (.bool false), (.int (175) 0), (.ref 8), .none, .none, .none, .none, (.int (179) 0), (.int (1) 0), (.str (u "/claim/cut.py") 180)]), #[]⟩
noncomputable def o10_A (p : Program) (P : Params) : Obj := ⟨(.type "frame"), none, .plain, #[(some (.ref 9)), (some (.ref 3)), (some (.ref 3)), none, (some (.str (u "__main__") 164)), none, (some (.ref 0))]⟩
noncomputable def treeA (p : Program) (P : Params) : BT := (.node (o0_A p P) (.node (o1_A p P) (.node (o3_A p P) (.node (o7_A p P) .nil .nil) .nil) (.node (o5_A p P) (.node (o9_A p P) .nil .nil) .nil)) (.node (o2_A p P) (.node (o4_A p P) (.node (o8_A p P) .nil .nil) .nil) (.node (o6_A p P) (.node (o10_A p P) .nil .nil) .nil)))
noncomputable def o11_B (p : Program) (P : Params) : Obj := ⟨(.type "tuple"), none, (.seq #[] 0), #[]⟩
noncomputable def o12_B (p : Program) (P : Params) : Obj := ⟨.none, none, (.fields #[]), #[]⟩
noncomputable def o13_B (p : Program) (P : Params) : Obj := ⟨(.type "code"), none, (.fields #[(.str (u "<module>") 182), (.str (u "<module>") 183), (.str (u "/claim/cut.py") 184), (.int (1) 0), (.int (0) 0), (.int (0) 0), (.int (0) 0), (.int (0) 0), (.ref 11), (.bool false), (.int (181) 0), (.ref 12), .none, .none, .none, .none, (.int (185) 0), (.int (1) 0), (.str (u "/claim/cut.py") 186)]), #[]⟩
noncomputable def o14_B (p : Program) (P : Params) : Obj := ⟨(.type "frame"), none, .plain, #[(some (.ref 13)), (some (.ref 3)), (some (.ref 3)), none, (some (.str (u "__main__") 164)), none, (some (.ref 0))]⟩
noncomputable def treeB (p : Program) (P : Params) : BT := (.node (o0_A p P) (.node (o1_A p P) (.node (o3_A p P) (.node (o7_A p P) .nil .nil) (.node (o11_B p P) .nil .nil)) (.node (o5_A p P) (.node (o9_A p P) .nil .nil) (.node (o13_B p P) .nil .nil))) (.node (o2_A p P) (.node (o4_A p P) (.node (o8_A p P) .nil .nil) (.node (o12_B p P) .nil .nil)) (.node (o6_A p P) (.node (o10_A p P) .nil .nil) (.node (o14_B p P) .nil .nil))))
noncomputable def o3_D (p : Program) (P : Params) : Obj := ⟨(.type "dict"), none, (.dict #[(d P "__name__" 165 (.str (u "cpy313.xml.etree.ElementTree") 187)), (d P "__doc__" 166 .none), (d P "__package__" 167 .none), (d P "__loader__" 168 (.builtin "__main__.__loader__#opaque")), (d P "__spec__" 169 .none), (d P "__annotations__" 170 (.ref 6)), (d P "__builtins__" 171 (.ref 4)), (d P "__file__" 173 (.str (u "/claim/cut.py") 172)), (d P "__cached__" 174 .none), (d P "_raise_serialization_error" 195 (.ref 21)), (d P "_escape_attrib" 202 (.ref 28)), (d P "_escape_attrib_c14n" 209 (.ref 35)), (d P "CRLF" 211 (.str (u "\x0d\n") 210)), (d P "NL" 213 (.str (u "\n") 212))] 14), #[]⟩
noncomputable def o12_D (p : Program) (P : Params) : Obj := ⟨.none, none, (.fields #[(.int (2) 0), (.int (0) 0), (.ref 20), (.int (4) 0), (.int (0) 0), (.ref 27), (.int (23) 0), (.int (0) 0), (.ref 34)]), #[]⟩
noncomputable def o15_D (p : Program) (P : Params) : Obj := ⟨(.type "tuple"), none, (.seq #[] 0), #[]⟩
noncomputable def o16_D (p : Program) (P : Params) : Obj := ⟨.none, none, (.fields #[]), #[]⟩
noncomputable def o17_D (p : Program) (P : Params) : Obj := ⟨(.type "tuple"), none, (.seq #[(.str (u "text") 192)] 0), #[]⟩
noncomputable def o18_D (p : Program) (P : Params) : Obj := ⟨(.type "tuple"), none, (.seq #[] 0), #[]⟩
noncomputable def o19_D (p : Program) (P : Params) : Obj := ⟨.none, none, (.func (fn p 1 0 .none .none .none)), #[]⟩
noncomputable def o20_D (p : Program) (P : Params) : Obj := ⟨(.type "code"), none, (.fields #[(.str (u "_raise_serialization_error") 189), (.str (u "_raise_serialization_error") 190), (.str (u "/claim/cut.py") 191), (.int (2) 0), (.int (1) 0), (.int (0) 0), (.int (0) 0), (.int (3) 0), (.ref 15), (.bool true), (.int (181) 0), (.ref 16), .none, (.ref 17), (.ref 18), (.ref 19), (.int (193) 0), (.int (2) 0), (.str (u "/claim/cut.py") 194)]), #[]⟩
noncomputable def o21_D (p : Program) (P : Params) : Obj := ⟨(.type "function"), none, (.func (fn p 1 3 .none (.str (u "cpy313.xml.etree.ElementTree") 187) (.ref 20))), #[]⟩
noncomputable def o22_D (p : Program) (P : Params) : Obj := ⟨(.type "tuple"), none, (.seq #[] 0), #[]⟩
noncomputable def o23_D (p : Program) (P : Params) : Obj := ⟨.none, none, (.fields #[]), #[]⟩
noncomputable def o24_D (p : Program) (P : Params) : Obj := ⟨(.type "tuple"), none, (.seq #[(.str (u "text") 199)] 0), #[]⟩
noncomputable def o25_D (p : Program) (P : Params) : Obj := ⟨(.type "tuple"), none, (.seq #[] 0), #[]⟩
noncomputable def o26_D (p : Program) (P : Params) : Obj := ⟨.none, none, (.func (fn p 2 0 .none .none .none)), #[]⟩
noncomputable def o27_D (p : Program) (P : Params) : Obj := ⟨(.type "code"), none, (.fields #[(.str (u "_escape_attrib") 196), (.str (u "_escape_attrib") 197), (.str (u "/claim/cut.py") 198), (.int (4) 0), (.int (1) 0), (.int (0) 0), (.int (0) 0), (.int (3) 0), (.ref 22), (.bool true), (.int (181) 0), (.ref 23), .none, (.ref 24), (.ref 25), (.ref 26), (.int (200) 0), (.int (4) 0), (.str (u "/claim/cut.py") 201)]), #[]⟩
noncomputable def o28_D (p : Program) (P : Params) : Obj := ⟨(.type "function"), none, (.func (fn p 2 3 .none (.str (u "cpy313.xml.etree.ElementTree") 187) (.ref 27))), #[]⟩
noncomputable def o29_D (p : Program) (P : Params) : Obj := ⟨(.type "tuple"), none, (.seq #[] 0), #[]⟩
noncomputable def o30_D (p : Program) (P : Params) : Obj := ⟨.none, none, (.fields #[]), #[]⟩
noncomputable def o31_D (p : Program) (P : Params) : Obj := ⟨(.type "tuple"), none, (.seq #[(.str (u "text") 206)] 0), #[]⟩
noncomputable def o32_D (p : Program) (P : Params) : Obj := ⟨(.type "tuple"), none, (.seq #[] 0), #[]⟩
noncomputable def o33_D (p : Program) (P : Params) : Obj := ⟨.none, none, (.func (fn p 3 0 .none .none .none)), #[]⟩
noncomputable def o34_D (p : Program) (P : Params) : Obj := ⟨(.type "code"), none, (.fields #[(.str (u "_escape_attrib_c14n") 203), (.str (u "_escape_attrib_c14n") 204), (.str (u "/claim/cut.py") 205), (.int (23) 0), (.int (1) 0), (.int (0) 0), (.int (0) 0), (.int (3) 0), (.ref 29), (.bool true), (.int (181) 0), (.ref 30), .none, (.ref 31), (.ref 32), (.ref 33), (.int (207) 0), (.int (23) 0), (.str (u "/claim/cut.py") 208)]), #[]⟩
noncomputable def o35_D (p : Program) (P : Params) : Obj := ⟨(.type "function"), none, (.func (fn p 3 3 .none (.str (u "cpy313.xml.etree.ElementTree") 187) (.ref 34))), #[]⟩
noncomputable def treeD (p : Program) (P : Params) : BT := (.node (o0_A p P) (.node (o1_A p P) (.node (o3_D p P) (.node (o7_A p P) (.node (o15_D p P) (.node (o31_D p P) .nil .nil) .nil) (.node (o23_D p P) .nil .nil)) (.node (o11_B p P) (.node (o19_D p P) (.node (o35_D p P) .nil .nil) .nil) (.node (o27_D p P) .nil .nil))) (.node (o5_A p P) (.node (o9_A p P) (.node (o17_D p P) (.node (o33_D p P) .nil .nil) .nil) (.node (o25_D p P) .nil .nil)) (.node (o13_B p P) (.node (o21_D p P) .nil .nil) (.node (o29_D p P) .nil .nil)))) (.node (o2_A p P) (.node (o4_A p P) (.node (o8_A p P) (.node (o16_D p P) (.node (o32_D p P) .nil .nil) .nil) (.node (o24_D p P) .nil .nil)) (.node (o12_D p P) (.node (o20_D p P) .nil .nil) (.node (o28_D p P) .nil .nil))) (.node (o6_A p P) (.node (o10_A p P) (.node (o18_D p P) (.node (o34_D p P) .nil .nil) .nil) (.node (o26_D p P) .nil .nil)) (.node (o14_B p P) (.node (o22_D p P) .nil .nil) (.node (o30_D p P) .nil .nil)))))
noncomputable def o3_E (p : Program) (P : Params) : Obj := ⟨(.type "dict"), none, (.dict #[(d P "__name__" 165 (.str (u "cpy313.xml.etree.ElementTree") 187)), (d P "__doc__" 166 .none), (d P "__package__" 167 .none), (d P "__loader__" 168 (.builtin "__main__.__loader__#opaque")), (d P "__spec__" 169 .none), (d P "__annotations__" 170 (.ref 6)), (d P "__builtins__" 171 (.ref 4)), (d P "__file__" 173 (.str (u "/claim/cut.py") 172)), (d P "__cached__" 174 .none), (d P "_raise_serialization_error" 195 (.ref 21)), (d P "_escape_attrib" 202 (.ref 28)), (d P "_escape_attrib_c14n" 209 (.ref 35)), (d P "CRLF" 211 (.str (u "\x0d\n") 210)), (d P "NL" 213 (.str (u "\n") 212)), (d P "_QUOPRI_MAP" 1241 (.ref 38))] 15), #[]⟩
noncomputable def o36_E (p : Program) (P : Params) : Obj := ⟨(.type "range"), none, (.fields #[(.int (0) 215), (.int (256) 214), (.int (1) 216)]), #[]⟩
noncomputable def o37_E (p : Program) (P : Params) : Obj := ⟨(.type "range_iterator"), none, (.fields #[(.int (256) 0), (.int (0) 0), (.int (1) 0)]), #[]⟩
noncomputable def o38_E (p : Program) (P : Params) : Obj := ⟨(.type "list"), none, (.seq #[(.str (u "=00") 220), (.str (u "=01") 224), (.str (u "=02") 228), (.str (u "=03") 232), (.str (u "=04") 236), (.str (u "=05") 240), (.str (u "=06") 244), (.str (u "=07") 248), (.str (u "=08") 252), (.str (u "=09") 256), (.str (u "=0A") 260), (.str (u "=0B") 264), (.str (u "=0C") 268), (.str (u "=0D") 272), (.str (u "=0E") 276), (.str (u "=0F") 280), (.str (u "=10") 284), (.str (u "=11") 288), (.str (u "=12") 292), (.str (u "=13") 296), (.str (u "=14") 300), (.str (u "=15") 304), (.str (u "=16") 308), (.str (u "=17") 312), (.str (u "=18") 316), (.str (u "=19") 320), (.str (u "=1A") 324), (.str (u "=1B") 328), (.str (u "=1C") 332), (.str (u "=1D") 336), (.str (u "=1E") 340), (.str (u "=1F") 344), (.str (u "=20") 348), (.str (u "=21") 352), (.str (u "=22") 356), (.str (u "=23") 360), (.str (u "=24") 364), (.str (u "=25") 368), (.str (u "=26") 372), (.str (u "=27") 376), (.str (u "=28") 380), (.str (u "=29") 384), (.str (u "=2A") 388), (.str (u "=2B") 392), (.str (u "=2C") 396), (.str (u "=2D") 400), (.str (u "=2E") 404), (.str (u "=2F") 408), (.str (u "=30") 412), (.str (u "=31") 416), (.str (u "=32") 420), (.str (u "=33") 424), (.str (u "=34") 428), (.str (u "=35") 432), (.str (u "=36") 436), (.str (u "=37") 440), (.str (u "=38") 444), (.str (u "=39") 448), (.str (u "=3A") 452), (.str (u "=3B") 456), (.str (u "=3C") 460), (.str (u "=3D") 464), (.str (u "=3E") 468), (.str (u "=3F") 472), (.str (u "=40") 476), (.str (u "=41") 480), (.str (u "=42") 484), (.str (u "=43") 488), (.str (u "=44") 492), (.str (u "=45") 496), (.str (u "=46") 500), (.str (u "=47") 504), (.str (u "=48") 508), (.str (u "=49") 512), (.str (u "=4A") 516), (.str (u "=4B") 520), (.str (u "=4C") 524), (.str (u "=4D") 528), (.str (u "=4E") 532), (.str (u "=4F") 536), (.str (u "=50") 540), (.str (u "=51") 544), (.str (u "=52") 548), (.str (u "=53") 552), (.str (u "=54") 556), (.str (u "=55") 560), (.str (u "=56") 564), (.str (u "=57") 568), (.str (u "=58") 572), (.str (u "=59") 576), (.str (u "=5A") 580), (.str (u "=5B") 584), (.str (u "=5C") 588), (.str (u "=5D") 592), (.str (u "=5E") 596), (.str (u "=5F") 600), (.str (u "=60") 604), (.str (u "=61") 608), (.str (u "=62") 612), (.str (u "=63") 616), (.str (u "=64") 620), (.str (u "=65") 624), (.str (u "=66") 628), (.str (u "=67") 632), (.str (u "=68") 636), (.str (u "=69") 640), (.str (u "=6A") 644), (.str (u "=6B") 648), (.str (u "=6C") 652), (.str (u "=6D") 656), (.str (u "=6E") 660), (.str (u "=6F") 664), (.str (u "=70") 668), (.str (u "=71") 672), (.str (u "=72") 676), (.str (u "=73") 680), (.str (u "=74") 684), (.str (u "=75") 688), (.str (u "=76") 692), (.str (u "=77") 696), (.str (u "=78") 700), (.str (u "=79") 704), (.str (u "=7A") 708), (.str (u "=7B") 712), (.str (u "=7C") 716), (.str (u "=7D") 720), (.str (u "=7E") 724), (.str (u "=7F") 728), (.str (u "=80") 732), (.str (u "=81") 736), (.str (u "=82") 740), (.str (u "=83") 744), (.str (u "=84") 748), (.str (u "=85") 752), (.str (u "=86") 756), (.str (u "=87") 760), (.str (u "=88") 764), (.str (u "=89") 768), (.str (u "=8A") 772), (.str (u "=8B") 776), (.str (u "=8C") 780), (.str (u "=8D") 784), (.str (u "=8E") 788), (.str (u "=8F") 792), (.str (u "=90") 796), (.str (u "=91") 800), (.str (u "=92") 804), (.str (u "=93") 808), (.str (u "=94") 812), (.str (u "=95") 816), (.str (u "=96") 820), (.str (u "=97") 824), (.str (u "=98") 828), (.str (u "=99") 832), (.str (u "=9A") 836), (.str (u "=9B") 840), (.str (u "=9C") 844), (.str (u "=9D") 848), (.str (u "=9E") 852), (.str (u "=9F") 856), (.str (u "=A0") 860), (.str (u "=A1") 864), (.str (u "=A2") 868), (.str (u "=A3") 872), (.str (u "=A4") 876), (.str (u "=A5") 880), (.str (u "=A6") 884), (.str (u "=A7") 888), (.str (u "=A8") 892), (.str (u "=A9") 896), (.str (u "=AA") 900), (.str (u "=AB") 904), (.str (u "=AC") 908), (.str (u "=AD") 912), (.str (u "=AE") 916), (.str (u "=AF") 920), (.str (u "=B0") 924), (.str (u "=B1") 928), (.str (u "=B2") 932), (.str (u "=B3") 936), (.str (u "=B4") 940), (.str (u "=B5") 944), (.str (u "=B6") 948), (.str (u "=B7") 952), (.str (u "=B8") 956), (.str (u "=B9") 960), (.str (u "=BA") 964), (.str (u "=BB") 968), (.str (u "=BC") 972), (.str (u "=BD") 976), (.str (u "=BE") 980), (.str (u "=BF") 984), (.str (u "=C0") 988), (.str (u "=C1") 992), (.str (u "=C2") 996), (.str (u "=C3") 1000), (.str (u "=C4") 1004), (.str (u "=C5") 1008), (.str (u "=C6") 1012), (.str (u "=C7") 1016), (.str (u "=C8") 1020), (.str (u "=C9") 1024), (.str (u "=CA") 1028), (.str (u "=CB") 1032), (.str (u "=CC") 1036), (.str (u "=CD") 1040), (.str (u "=CE") 1044), (.str (u "=CF") 1048), (.str (u "=D0") 1052), (.str (u "=D1") 1056), (.str (u "=D2") 1060), (.str (u "=D3") 1064), (.str (u "=D4") 1068), (.str (u "=D5") 1072), (.str (u "=D6") 1076), (.str (u "=D7") 1080), (.str (u "=D8") 1084), (.str (u "=D9") 1088), (.str (u "=DA") 1092), (.str (u "=DB") 1096), (.str (u "=DC") 1100), (.str (u "=DD") 1104), (.str (u "=DE") 1108), (.str (u "=DF") 1112), (.str (u "=E0") 1116), (.str (u "=E1") 1120), (.str (u "=E2") 1124), (.str (u "=E3") 1128), (.str (u "=E4") 1132), (.str (u "=E5") 1136), (.str (u "=E6") 1140), (.str (u "=E7") 1144), (.str (u "=E8") 1148), (.str (u "=E9") 1152), (.str (u "=EA") 1156), (.str (u "=EB") 1160), (.str (u "=EC") 1164), (.str (u "=ED") 1168), (.str (u "=EE") 1172), (.str (u "=EF") 1176), (.str (u "=F0") 1180), (.str (u "=F1") 1184), (.str (u "=F2") 1188), (.str (u "=F3") 1192), (.str (u "=F4") 1196), (.str (u "=F5") 1200), (.str (u "=F6") 1204), (.str (u "=F7") 1208), (.str (u "=F8") 1212), (.str (u "=F9") 1216), (.str (u "=FA") 1220), (.str (u "=FB") 1224), (.str (u "=FC") 1228), (.str (u "=FD") 1232), (.str (u "=FE") 1236), (.str (u "=FF") 1240)] 256), #[]⟩
noncomputable def o39_E (p : Program) (P : Params) : Obj := ⟨(.type "dict"), none, (.dict #[] 2), #[]⟩
noncomputable def o40_E (p : Program) (P : Params) : Obj := ⟨(.type "tuple"), none, (.seq #[] 0), #[]⟩
noncomputable def o41_E (p : Program) (P : Params) : Obj := ⟨(.type "StopIteration"), none, (.fields #[(.ref 40), .none, .none, .none, (.bool false), .none]), #[]⟩
noncomputable def treeE (p : Program) (P : Params) : BT := (.node (o0_A p P) (.node (o1_A p P) (.node (o3_E p P) (.node (o7_A p P) (.node (o15_D p P) (.node (o31_D p P) .nil .nil) .nil) (.node (o23_D p P) (.node (o39_E p P) .nil .nil) .nil)) (.node (o11_B p P) (.node (o19_D p P) (.node (o35_D p P) .nil .nil) .nil) (.node (o27_D p P) .nil .nil))) (.node (o5_A p P) (.node (o9_A p P) (.node (o17_D p P) (.node (o33_D p P) .nil .nil) .nil) (.node (o25_D p P) (.node (o41_E p P) .nil .nil) .nil)) (.node (o13_B p P) (.node (o21_D p P) (.node (o37_E p P) .nil .nil) .nil) (.node (o29_D p P) .nil .nil)))) (.node (o2_A p P) (.node (o4_A p P) (.node (o8_A p P) (.node (o16_D p P) (.node (o32_D p P) .nil .nil) .nil) (.node (o24_D p P) (.node (o40_E p P) .nil .nil) .nil)) (.node (o12_D p P) (.node (o20_D p P) (.node (o36_E p P) .nil .nil) .nil) (.node (o28_D p P) .nil .nil))) (.node (o6_A p P) (.node (o10_A p P) (.node (o18_D p P) (.node (o34_D p P) .nil .nil) .nil) (.node (o26_D p P) .nil .nil)) (.node (o14_B p P) (.node (o22_D p P) (.node (o38_E p P) .nil .nil) .nil) (.node (o30_D p P) .nil .nil)))))
noncomputable def o3_M (p : Program) (P : Params) : Obj := ⟨(.type "dict"), none, (.dict #[(d P "__name__" 165 (.str (u "cpy313.email.quoprimime") 1257)), (d P "__doc__" 166 .none), (d P "__package__" 167 .none), (d P "__loader__" 168 (.builtin "__main__.__loader__#opaque")), (d P "__spec__" 169 .none), (d P "__annotations__" 170 (.ref 6)), (d P "__builtins__" 171 (.ref 4)), (d P "__file__" 173 (.str (u "/claim/cut.py") 172)), (d P "__cached__" 174 .none), (d P "_raise_serialization_error" 195 (.ref 21)), (d P "_escape_attrib" 202 (.ref 28)), (d P "_escape_attrib_c14n" 209 (.ref 35)), (d P "CRLF" 211 (.str (u "\x0d\n") 210)), (d P "NL" 213 (.str (u "\n") 212)), (d P "_QUOPRI_MAP" 1241 (.ref 38)), (d P "_QUOPRI_HEADER_MAP" 1242 (.ref 43)), (d P "_QUOPRI_BODY_MAP" 1243 (.ref 45)), (d P "ascii_lowercase" 1245 (.str (u "abcdefghijklmnopqrstuvwxyz") 1244)), (d P "ascii_uppercase" 1247 (.str (u "ABCDEFGHIJKLMNOPQRSTUVWXYZ") 1246)), (d P "ascii_letters" 1249 (.str (u "abcdefghijklmnopqrstuvwxyzABCDEFGHIJKLMNOPQRSTUVWXYZ") 1248)), (d P "digits" 1251 (.str (u "0123456789") 1250)), (d P "hexdigits" 1256 (.str (u "0123456789abcdefABCDEF") 1255)), (d P "c" 1267 (.int (57) 1464))] 23), #[]⟩
noncomputable def o42_M (p : Program) (P : Params) : Obj := ⟨(.type "slice"), none, (.fields #[.none, .none, .none]), #[]⟩
noncomputable def o43_M (p : Program) (P : Params) : Obj := ⟨(.type "list"), none, (.seq #[(.str (u "=00") 220), (.str (u "=01") 224), (.str (u "=02") 228), (.str (u "=03") 232), (.str (u "=04") 236), (.str (u "=05") 240), (.str (u "=06") 244), (.str (u "=07") 248), (.str (u "=08") 252), (.str (u "=09") 256), (.str (u "=0A") 260), (.str (u "=0B") 264), (.str (u "=0C") 268), (.str (u "=0D") 272), (.str (u "=0E") 276), (.str (u "=0F") 280), (.str (u "=10") 284), (.str (u "=11") 288), (.str (u "=12") 292), (.str (u "=13") 296), (.str (u "=14") 300), (.str (u "=15") 304), (.str (u "=16") 308), (.str (u "=17") 312), (.str (u "=18") 316), (.str (u "=19") 320), (.str (u "=1A") 324), (.str (u "=1B") 328), (.str (u "=1C") 332), (.str (u "=1D") 336), (.str (u "=1E") 340), (.str (u "=1F") 344), (.str (u "_") 1467), (.str (u "!") 1271), (.str (u "=22") 356), (.str (u "=23") 360), (.str (u "=24") 364), (.str (u "=25") 368), (.str (u "=26") 372), (.str (u "=27") 376), (.str (u "=28") 380), (.str (u "=29") 384), (.str (u "*") 1274), (.str (u "+") 1277), (.str (u "=2C") 396), (.str (u "-") 1268), (.str (u "=2E") 404), (.str (u "/") 1280), (.str (u "0") 1439), (.str (u "1") 1442), (.str (u "2") 1445), (.str (u "3") 1448), (.str (u "4") 1451), (.str (u "5") 1454), (.str (u "6") 1457), (.str (u "7") 1460), (.str (u "8") 1463), (.str (u "9") 1466), (.str (u "=3A") 452), (.str (u "=3B") 456), (.str (u "=3C") 460), (.str (u "=3D") 464), (.str (u "=3E") 468), (.str (u "=3F") 472), (.str (u "=40") 476), (.str (u "A") 1361), (.str (u "B") 1364), (.str (u "C") 1367), (.str (u "D") 1370), (.str (u "E") 1373), (.str (u "F") 1376), (.str (u "G") 1379), (.str (u "H") 1382), (.str (u "I") 1385), (.str (u "J") 1388), (.str (u "K") 1391), (.str (u "L") 1394), (.str (u "M") 1397), (.str (u "N") 1400), (.str (u "O") 1403), (.str (u "P") 1406), (.str (u "Q") 1409), (.str (u "R") 1412), (.str (u "S") 1415), (.str (u "T") 1418), (.str (u "U") 1421), (.str (u "V") 1424), (.str (u "W") 1427), (.str (u "X") 1430), (.str (u "Y") 1433), (.str (u "Z") 1436), (.str (u "=5B") 584), (.str (u "=5C") 588), (.str (u "=5D") 592), (.str (u "=5E") 596), (.str (u "=5F") 600), (.str (u "=60") 604), (.str (u "a") 1283), (.str (u "b") 1286), (.str (u "c") 1289), (.str (u "d") 1292), (.str (u "e") 1295), (.str (u "f") 1298), (.str (u "g") 1301), (.str (u "h") 1304), (.str (u "i") 1307), (.str (u "j") 1310), (.str (u "k") 1313), (.str (u "l") 1316), (.str (u "m") 1319), (.str (u "n") 1322), (.str (u "o") 1325), (.str (u "p") 1328), (.str (u "q") 1331), (.str (u "r") 1334), (.str (u "s") 1337), (.str (u "t") 1340), (.str (u "u") 1343), (.str (u "v") 1346), (.str (u "w") 1349), (.str (u "x") 1352), (.str (u "y") 1355), (.str (u "z") 1358), (.str (u "=7B") 712), (.str (u "=7C") 716), (.str (u "=7D") 720), (.str (u "=7E") 724), (.str (u "=7F") 728), (.str (u "=80") 732), (.str (u "=81") 736), (.str (u "=82") 740), (.str (u "=83") 744), (.str (u "=84") 748), (.str (u "=85") 752), (.str (u "=86") 756), (.str (u "=87") 760), (.str (u "=88") 764), (.str (u "=89") 768), (.str (u "=8A") 772), (.str (u "=8B") 776), (.str (u "=8C") 780), (.str (u "=8D") 784), (.str (u "=8E") 788), (.str (u "=8F") 792), (.str (u "=90") 796), (.str (u "=91") 800), (.str (u "=92") 804), (.str (u "=93") 808), (.str (u "=94") 812), (.str (u "=95") 816), (.str (u "=96") 820), (.str (u "=97") 824), (.str (u "=98") 828), (.str (u "=99") 832), (.str (u "=9A") 836), (.str (u "=9B") 840), (.str (u "=9C") 844), (.str (u "=9D") 848), (.str (u "=9E") 852), (.str (u "=9F") 856), (.str (u "=A0") 860), (.str (u "=A1") 864), (.str (u "=A2") 868), (.str (u "=A3") 872), (.str (u "=A4") 876), (.str (u "=A5") 880), (.str (u "=A6") 884), (.str (u "=A7") 888), (.str (u "=A8") 892), (.str (u "=A9") 896), (.str (u "=AA") 900), (.str (u "=AB") 904), (.str (u "=AC") 908), (.str (u "=AD") 912), (.str (u "=AE") 916), (.str (u "=AF") 920), (.str (u "=B0") 924), (.str (u "=B1") 928), (.str (u "=B2") 932), (.str (u "=B3") 936), (.str (u "=B4") 940), (.str (u "=B5") 944), (.str (u "=B6") 948), (.str (u "=B7") 952), (.str (u "=B8") 956), (.str (u "=B9") 960), (.str (u "=BA") 964), (.str (u "=BB") 968), (.str (u "=BC") 972), (.str (u "=BD") 976), (.str (u "=BE") 980), (.str (u "=BF") 984), (.str (u "=C0") 988), (.str (u "=C1") 992), (.str (u "=C2") 996), (.str (u "=C3") 1000), (.str (u "=C4") 1004), (.str (u "=C5") 1008), (.str (u "=C6") 1012), (.str (u "=C7") 1016), (.str (u "=C8") 1020), (.str (u "=C9") 1024), (.str (u "=CA") 1028), (.str (u "=CB") 1032), (.str (u "=CC") 1036), (.str (u "=CD") 1040), (.str (u "=CE") 1044), (.str (u "=CF") 1048), (.str (u "=D0") 1052), (.str (u "=D1") 1056), (.str (u "=D2") 1060), (.str (u "=D3") 1064), (.str (u "=D4") 1068), (.str (u "=D5") 1072), (.str (u "=D6") 1076), (.str (u "=D7") 1080), (.str (u "=D8") 1084), (.str (u "=D9") 1088), (.str (u "=DA") 1092), (.str (u "=DB") 1096), (.str (u "=DC") 1100), (.str (u "=DD") 1104), (.str (u "=DE") 1108), (.str (u "=DF") 1112), (.str (u "=E0") 1116), (.str (u "=E1") 1120), (.str (u "=E2") 1124), (.str (u "=E3") 1128), (.str (u "=E4") 1132), (.str (u "=E5") 1136), (.str (u "=E6") 1140), (.str (u "=E7") 1144), (.str (u "=E8") 1148), (.str (u "=E9") 1152), (.str (u "=EA") 1156), (.str (u "=EB") 1160), (.str (u "=EC") 1164), (.str (u "=ED") 1168), (.str (u "=EE") 1172), (.str (u "=EF") 1176), (.str (u "=F0") 1180), (.str (u "=F1") 1184), (.str (u "=F2") 1188), (.str (u "=F3") 1192), (.str (u "=F4") 1196), (.str (u "=F5") 1200), (.str (u "=F6") 1204), (.str (u "=F7") 1208), (.str (u "=F8") 1212), (.str (u "=F9") 1216), (.str (u "=FA") 1220), (.str (u "=FB") 1224), (.str (u "=FC") 1228), (.str (u "=FD") 1232), (.str (u "=FE") 1236), (.str (u "=FF") 1240)] 0), #[]⟩
noncomputable def o44_M (p : Program) (P : Params) : Obj := ⟨(.type "slice"), none, (.fields #[.none, .none, .none]), #[]⟩
noncomputable def o45_M (p : Program) (P : Params) : Obj := ⟨(.type "list"), none, (.seq #[(.str (u "=00") 220), (.str (u "=01") 224), (.str (u "=02") 228), (.str (u "=03") 232), (.str (u "=04") 236), (.str (u "=05") 240), (.str (u "=06") 244), (.str (u "=07") 248), (.str (u "=08") 252), (.str (u "=09") 256), (.str (u "=0A") 260), (.str (u "=0B") 264), (.str (u "=0C") 268), (.str (u "=0D") 272), (.str (u "=0E") 276), (.str (u "=0F") 280), (.str (u "=10") 284), (.str (u "=11") 288), (.str (u "=12") 292), (.str (u "=13") 296), (.str (u "=14") 300), (.str (u "=15") 304), (.str (u "=16") 308), (.str (u "=17") 312), (.str (u "=18") 316), (.str (u "=19") 320), (.str (u "=1A") 324), (.str (u "=1B") 328), (.str (u "=1C") 332), (.str (u "=1D") 336), (.str (u "=1E") 340), (.str (u "=1F") 344), (.str (u "=20") 348), (.str (u "=21") 352), (.str (u "=22") 356), (.str (u "=23") 360), (.str (u "=24") 364), (.str (u "=25") 368), (.str (u "=26") 372), (.str (u "=27") 376), (.str (u "=28") 380), (.str (u "=29") 384), (.str (u "=2A") 388), (.str (u "=2B") 392), (.str (u "=2C") 396), (.str (u "=2D") 400), (.str (u "=2E") 404), (.str (u "=2F") 408), (.str (u "=30") 412), (.str (u "=31") 416), (.str (u "=32") 420), (.str (u "=33") 424), (.str (u "=34") 428), (.str (u "=35") 432), (.str (u "=36") 436), (.str (u "=37") 440), (.str (u "=38") 444), (.str (u "=39") 448), (.str (u "=3A") 452), (.str (u "=3B") 456), (.str (u "=3C") 460), (.str (u "=3D") 464), (.str (u "=3E") 468), (.str (u "=3F") 472), (.str (u "=40") 476), (.str (u "=41") 480), (.str (u "=42") 484), (.str (u "=43") 488), (.str (u "=44") 492), (.str (u "=45") 496), (.str (u "=46") 500), (.str (u "=47") 504), (.str (u "=48") 508), (.str (u "=49") 512), (.str (u "=4A") 516), (.str (u "=4B") 520), (.str (u "=4C") 524), (.str (u "=4D") 528), (.str (u "=4E") 532), (.str (u "=4F") 536), (.str (u "=50") 540), (.str (u "=51") 544), (.str (u "=52") 548), (.str (u "=53") 552), (.str (u "=54") 556), (.str (u "=55") 560), (.str (u "=56") 564), (.str (u "=57") 568), (.str (u "=58") 572), (.str (u "=59") 576), (.str (u "=5A") 580), (.str (u "=5B") 584), (.str (u "=5C") 588), (.str (u "=5D") 592), (.str (u "=5E") 596), (.str (u "=5F") 600), (.str (u "=60") 604), (.str (u "=61") 608), (.str (u "=62") 612), (.str (u "=63") 616), (.str (u "=64") 620), (.str (u "=65") 624), (.str (u "=66") 628), (.str (u "=67") 632), (.str (u "=68") 636), (.str (u "=69") 640), (.str (u "=6A") 644), (.str (u "=6B") 648), (.str (u "=6C") 652), (.str (u "=6D") 656), (.str (u "=6E") 660), (.str (u "=6F") 664), (.str (u "=70") 668), (.str (u "=71") 672), (.str (u "=72") 676), (.str (u "=73") 680), (.str (u "=74") 684), (.str (u "=75") 688), (.str (u "=76") 692), (.str (u "=77") 696), (.str (u "=78") 700), (.str (u "=79") 704), (.str (u "=7A") 708), (.str (u "=7B") 712), (.str (u "=7C") 716), (.str (u "=7D") 720), (.str (u "=7E") 724), (.str (u "=7F") 728), (.str (u "=80") 732), (.str (u "=81") 736), (.str (u "=82") 740), (.str (u "=83") 744), (.str (u "=84") 748), (.str (u "=85") 752), (.str (u "=86") 756), (.str (u "=87") 760), (.str (u "=88") 764), (.str (u "=89") 768), (.str (u "=8A") 772), (.str (u "=8B") 776), (.str (u "=8C") 780), (.str (u "=8D") 784), (.str (u "=8E") 788), (.str (u "=8F") 792), (.str (u "=90") 796), (.str (u "=91") 800), (.str (u "=92") 804), (.str (u "=93") 808), (.str (u "=94") 812), (.str (u "=95") 816), (.str (u "=96") 820), (.str (u "=97") 824), (.str (u "=98") 828), (.str (u "=99") 832), (.str (u "=9A") 836), (.str (u "=9B") 840), (.str (u "=9C") 844), (.str (u "=9D") 848), (.str (u "=9E") 852), (.str (u "=9F") 856), (.str (u "=A0") 860), (.str (u "=A1") 864), (.str (u "=A2") 868), (.str (u "=A3") 872), (.str (u "=A4") 876), (.str (u "=A5") 880), (.str (u "=A6") 884), (.str (u "=A7") 888), (.str (u "=A8") 892), (.str (u "=A9") 896), (.str (u "=AA") 900), (.str (u "=AB") 904), (.str (u "=AC") 908), (.str (u "=AD") 912), (.str (u "=AE") 916), (.str (u "=AF") 920), (.str (u "=B0") 924), (.str (u "=B1") 928), (.str (u "=B2") 932), (.str (u "=B3") 936), (.str (u "=B4") 940), (.str (u "=B5") 944), (.str (u "=B6") 948), (.str (u "=B7") 952), (.str (u "=B8") 956), (.str (u "=B9") 960), (.str (u "=BA") 964), (.str (u "=BB") 968), (.str (u "=BC") 972), (.str (u "=BD") 976), (.str (u "=BE") 980), (.str (u "=BF") 984), (.str (u "=C0") 988), (.str (u "=C1") 992), (.str (u "=C2") 996), (.str (u "=C3") 1000), (.str (u "=C4") 1004), (.str (u "=C5") 1008), (.str (u "=C6") 1012), (.str (u "=C7") 1016), (.str (u "=C8") 1020), (.str (u "=C9") 1024), (.str (u "=CA") 1028), (.str (u "=CB") 1032), (.str (u "=CC") 1036), (.str (u "=CD") 1040), (.str (u "=CE") 1044), (.str (u "=CF") 1048), (.str (u "=D0") 1052), (.str (u "=D1") 1056), (.str (u "=D2") 1060), (.str (u "=D3") 1064), (.str (u "=D4") 1068), (.str (u "=D5") 1072), (.str (u "=D6") 1076), (.str (u "=D7") 1080), (.str (u "=D8") 1084), (.str (u "=D9") 1088), (.str (u "=DA") 1092), (.str (u "=DB") 1096), (.str (u "=DC") 1100), (.str (u "=DD") 1104), (.str (u "=DE") 1108), (.str (u "=DF") 1112), (.str (u "=E0") 1116), (.str (u "=E1") 1120), (.str (u "=E2") 1124), (.str (u "=E3") 1128), (.str (u "=E4") 1132), (.str (u "=E5") 1136), (.str (u "=E6") 1140), (.str (u "=E7") 1144), (.str (u "=E8") 1148), (.str (u "=E9") 1152), (.str (u "=EA") 1156), (.str (u "=EB") 1160), (.str (u "=EC") 1164), (.str (u "=ED") 1168), (.str (u "=EE") 1172), (.str (u "=EF") 1176), (.str (u "=F0") 1180), (.str (u "=F1") 1184), (.str (u "=F2") 1188), (.str (u "=F3") 1192), (.str (u "=F4") 1196), (.str (u "=F5") 1200), (.str (u "=F6") 1204), (.str (u "=F7") 1208), (.str (u "=F8") 1212), (.str (u "=F9") 1216), (.str (u "=FA") 1220), (.str (u "=FB") 1224), (.str (u "=FC") 1228), (.str (u "=FD") 1232), (.str (u "=FE") 1236), (.str (u "=FF") 1240)] 0), #[]⟩
noncomputable def o46_M (p : Program) (P : Params) : Obj := ⟨(.type "bytes_iterator"), none, (.fields #[.none, (.int (67) 0)]), #[]⟩
noncomputable def o47_M (p : Program) (P : Params) : Obj := ⟨(.type "tuple"), none, (.seq #[] 0), #[]⟩
noncomputable def o48_M (p : Program) (P : Params) : Obj := ⟨(.type "StopIteration"), none, (.fields #[(.ref 47), .none, .none, .none, (.bool false), .none]), #[]⟩
noncomputable def treeM (p : Program) (P : Params) : BT := (.node (o0_A p P) (.node (o1_A p P) (.node (o3_M p P) (.node (o7_A p P) (.node (o15_D p P) (.node (o31_D p P) .nil .nil) (.node (o47_M p P) .nil .nil)) (.node (o23_D p P) (.node (o39_E p P) .nil .nil) .nil)) (.node (o11_B p P) (.node (o19_D p P) (.node (o35_D p P) .nil .nil) .nil) (.node (o27_D p P) (.node (o43_M p P) .nil .nil) .nil))) (.node (o5_A p P) (.node (o9_A p P) (.node (o17_D p P) (.node (o33_D p P) .nil .nil) .nil) (.node (o25_D p P) (.node (o41_E p P) .nil .nil) .nil)) (.node (o13_B p P) (.node (o21_D p P) (.node (o37_E p P) .nil .nil) .nil) (.node (o29_D p P) (.node (o45_M p P) .nil .nil) .nil)))) (.node (o2_A p P) (.node (o4_A p P) (.node (o8_A p P) (.node (o16_D p P) (.node (o32_D p P) .nil .nil) (.node (o48_M p P) .nil .nil)) (.node (o24_D p P) (.node (o40_E p P) .nil .nil) .nil)) (.node (o12_D p P) (.node (o20_D p P) (.node (o36_E p P) .nil .nil) .nil) (.node (o28_D p P) (.node (o44_M p P) .nil .nil) .nil))) (.node (o6_A p P) (.node (o10_A p P) (.node (o18_D p P) (.node (o34_D p P) .nil .nil) .nil) (.node (o26_D p P) (.node (o42_M p P) .nil .nil) .nil)) (.node (o14_B p P) (.node (o22_D p P) (.node (o38_E p P) .nil .nil) .nil) (.node (o30_D p P) (.node (o46_M p P) .nil .nil) .nil)))))
noncomputable def o3_N (p : Program) (P : Params) : Obj := ⟨(.type "dict"), none, (.dict #[(d P "__name__" 165 (.str (u "cpy313.email.quoprimime") 1257)), (d P "__doc__" 166 .none), (d P "__package__" 167 .none), (d P "__loader__" 168 (.builtin "__main__.__loader__#opaque")), (d P "__spec__" 169 .none), (d P "__annotations__" 170 (.ref 6)), (d P "__builtins__" 171 (.ref 4)), (d P "__file__" 173 (.str (u "/claim/cut.py") 172)), (d P "__cached__" 174 .none), (d P "_raise_serialization_error" 195 (.ref 21)), (d P "_escape_attrib" 202 (.ref 28)), (d P "_escape_attrib_c14n" 209 (.ref 35)), (d P "CRLF" 211 (.str (u "\x0d\n") 210)), (d P "NL" 213 (.str (u "\n") 212)), (d P "_QUOPRI_MAP" 1241 (.ref 38)), (d P "_QUOPRI_HEADER_MAP" 1242 (.ref 43)), (d P "_QUOPRI_BODY_MAP" 1243 (.ref 45)), (d P "ascii_lowercase" 1245 (.str (u "abcdefghijklmnopqrstuvwxyz") 1244)), (d P "ascii_uppercase" 1247 (.str (u "ABCDEFGHIJKLMNOPQRSTUVWXYZ") 1246)), (d P "ascii_letters" 1249 (.str (u "abcdefghijklmnopqrstuvwxyzABCDEFGHIJKLMNOPQRSTUVWXYZ") 1248)), (d P "digits" 1251 (.str (u "0123456789") 1250)), (d P "hexdigits" 1256 (.str (u "0123456789abcdefABCDEF") 1255)), (d P "c" 1267 (.int (9) 1753)), (d P "unquote" 1762 (.ref 58)), (d P "quote" 1769 (.ref 65)), (d P "_QUOPRI_BODY_ENCODE_MAP" 1770 (.ref 67))] 26), #[]⟩
noncomputable def o12_N (p : Program) (P : Params) : Obj := ⟨.none, none, (.fields #[(.int (2) 0), (.int (0) 0), (.ref 20), (.int (4) 0), (.int (0) 0), (.ref 27), (.int (23) 0), (.int (0) 0), (.ref 34), (.int (56) 0), (.int (0) 0), (.ref 57), (.int (58) 0), (.int (0) 0), (.ref 64)]), #[]⟩
noncomputable def o45_N (p : Program) (P : Params) : Obj := ⟨(.type "list"), none, (.seq #[(.str (u "=00") 220), (.str (u "=01") 224), (.str (u "=02") 228), (.str (u "=03") 232), (.str (u "=04") 236), (.str (u "=05") 240), (.str (u "=06") 244), (.str (u "=07") 248), (.str (u "=08") 252), (.str (u "\t") 1755), (.str (u "=0A") 260), (.str (u "=0B") 264), (.str (u "=0C") 268), (.str (u "=0D") 272), (.str (u "=0E") 276), (.str (u "=0F") 280), (.str (u "=10") 284), (.str (u "=11") 288), (.str (u "=12") 292), (.str (u "=13") 296), (.str (u "=14") 300), (.str (u "=15") 304), (.str (u "=16") 308), (.str (u "=17") 312), (.str (u "=18") 316), (.str (u "=19") 320), (.str (u "=1A") 324), (.str (u "=1B") 328), (.str (u "=1C") 332), (.str (u "=1D") 336), (.str (u "=1E") 340), (.str (u "=1F") 344), (.str (u " ") 1473), (.str (u "!") 1476), (.str (u "\"") 1479), (.str (u "#") 1482), (.str (u "$") 1485), (.str (u "%") 1488), (.str (u "&") 1491), (.str (u "'") 1494), (.str (u "(") 1497), (.str (u ")") 1500), (.str (u "*") 1503), (.str (u "+") 1506), (.str (u ",") 1509), (.str (u "-") 1512), (.str (u ".") 1515), (.str (u "/") 1518), (.str (u "0") 1521), (.str (u "1") 1524), (.str (u "2") 1527), (.str (u "3") 1530), (.str (u "4") 1533), (.str (u "5") 1536), (.str (u "6") 1539), (.str (u "7") 1542), (.str (u "8") 1545), (.str (u "9") 1548), (.str (u ":") 1551), (.str (u ";") 1554), (.str (u "<") 1557), (.str (u "=3D") 464), (.str (u ">") 1560), (.str (u "?") 1563), (.str (u "@") 1566), (.str (u "A") 1569), (.str (u "B") 1572), (.str (u "C") 1575), (.str (u "D") 1578), (.str (u "E") 1581), (.str (u "F") 1584), (.str (u "G") 1587), (.str (u "H") 1590), (.str (u "I") 1593), (.str (u "J") 1596), (.str (u "K") 1599), (.str (u "L") 1602), (.str (u "M") 1605), (.str (u "N") 1608), (.str (u "O") 1611), (.str (u "P") 1614), (.str (u "Q") 1617), (.str (u "R") 1620), (.str (u "S") 1623), (.str (u "T") 1626), (.str (u "U") 1629), (.str (u "V") 1632), (.str (u "W") 1635), (.str (u "X") 1638), (.str (u "Y") 1641), (.str (u "Z") 1644), (.str (u "[") 1647), (.str (u "\\") 1650), (.str (u "]") 1653), (.str (u "^") 1656), (.str (u "_") 1659), (.str (u "`") 1662), (.str (u "a") 1665), (.str (u "b") 1668), (.str (u "c") 1671), (.str (u "d") 1674), (.str (u "e") 1677), (.str (u "f") 1680), (.str (u "g") 1683), (.str (u "h") 1686), (.str (u "i") 1689), (.str (u "j") 1692), (.str (u "k") 1695), (.str (u "l") 1698), (.str (u "m") 1701), (.str (u "n") 1704), (.str (u "o") 1707), (.str (u "p") 1710), (.str (u "q") 1713), (.str (u "r") 1716), (.str (u "s") 1719), (.str (u "t") 1722), (.str (u "u") 1725), (.str (u "v") 1728), (.str (u "w") 1731), (.str (u "x") 1734), (.str (u "y") 1737), (.str (u "z") 1740), (.str (u "{") 1743), (.str (u "|") 1746), (.str (u "}") 1749), (.str (u "~") 1752), (.str (u "=7F") 728), (.str (u "=80") 732), (.str (u "=81") 736), (.str (u "=82") 740), (.str (u "=83") 744), (.str (u "=84") 748), (.str (u "=85") 752), (.str (u "=86") 756), (.str (u "=87") 760), (.str (u "=88") 764), (.str (u "=89") 768), (.str (u "=8A") 772), (.str (u "=8B") 776), (.str (u "=8C") 780), (.str (u "=8D") 784), (.str (u "=8E") 788), (.str (u "=8F") 792), (.str (u "=90") 796), (.str (u "=91") 800), (.str (u "=92") 804), (.str (u "=93") 808), (.str (u "=94") 812), (.str (u "=95") 816), (.str (u "=96") 820), (.str (u "=97") 824), (.str (u "=98") 828), (.str (u "=99") 832), (.str (u "=9A") 836), (.str (u "=9B") 840), (.str (u "=9C") 844), (.str (u "=9D") 848), (.str (u "=9E") 852), (.str (u "=9F") 856), (.str (u "=A0") 860), (.str (u "=A1") 864), (.str (u "=A2") 868), (.str (u "=A3") 872), (.str (u "=A4") 876), (.str (u "=A5") 880), (.str (u "=A6") 884), (.str (u "=A7") 888), (.str (u "=A8") 892), (.str (u "=A9") 896), (.str (u "=AA") 900), (.str (u "=AB") 904), (.str (u "=AC") 908), (.str (u "=AD") 912), (.str (u "=AE") 916), (.str (u "=AF") 920), (.str (u "=B0") 924), (.str (u "=B1") 928), (.str (u "=B2") 932), (.str (u "=B3") 936), (.str (u "=B4") 940), (.str (u "=B5") 944), (.str (u "=B6") 948), (.str (u "=B7") 952), (.str (u "=B8") 956), (.str (u "=B9") 960), (.str (u "=BA") 964), (.str (u "=BB") 968), (.str (u "=BC") 972), (.str (u "=BD") 976), (.str (u "=BE") 980), (.str (u "=BF") 984), (.str (u "=C0") 988), (.str (u "=C1") 992), (.str (u "=C2") 996), (.str (u "=C3") 1000), (.str (u "=C4") 1004), (.str (u "=C5") 1008), (.str (u "=C6") 1012), (.str (u "=C7") 1016), (.str (u "=C8") 1020), (.str (u "=C9") 1024), (.str (u "=CA") 1028), (.str (u "=CB") 1032), (.str (u "=CC") 1036), (.str (u "=CD") 1040), (.str (u "=CE") 1044), (.str (u "=CF") 1048), (.str (u "=D0") 1052), (.str (u "=D1") 1056), (.str (u "=D2") 1060), (.str (u "=D3") 1064), (.str (u "=D4") 1068), (.str (u "=D5") 1072), (.str (u "=D6") 1076), (.str (u "=D7") 1080), (.str (u "=D8") 1084), (.str (u "=D9") 1088), (.str (u "=DA") 1092), (.str (u "=DB") 1096), (.str (u "=DC") 1100), (.str (u "=DD") 1104), (.str (u "=DE") 1108), (.str (u "=DF") 1112), (.str (u "=E0") 1116), (.str (u "=E1") 1120), (.str (u "=E2") 1124), (.str (u "=E3") 1128), (.str (u "=E4") 1132), (.str (u "=E5") 1136), (.str (u "=E6") 1140), (.str (u "=E7") 1144), (.str (u "=E8") 1148), (.str (u "=E9") 1152), (.str (u "=EA") 1156), (.str (u "=EB") 1160), (.str (u "=EC") 1164), (.str (u "=ED") 1168), (.str (u "=EE") 1172), (.str (u "=EF") 1176), (.str (u "=F0") 1180), (.str (u "=F1") 1184), (.str (u "=F2") 1188), (.str (u "=F3") 1192), (.str (u "=F4") 1196), (.str (u "=F5") 1200), (.str (u "=F6") 1204), (.str (u "=F7") 1208), (.str (u "=F8") 1212), (.str (u "=F9") 1216), (.str (u "=FA") 1220), (.str (u "=FB") 1224), (.str (u "=FC") 1228), (.str (u "=FD") 1232), (.str (u "=FE") 1236), (.str (u "=FF") 1240)] 0), #[]⟩
noncomputable def o49_N (p : Program) (P : Params) : Obj := ⟨(.type "bytes_iterator"), none, (.fields #[.none, (.int (95) 0)]), #[]⟩
noncomputable def o50_N (p : Program) (P : Params) : Obj := ⟨(.type "tuple"), none, (.seq #[] 0), #[]⟩
noncomputable def o51_N (p : Program) (P : Params) : Obj := ⟨(.type "StopIteration"), none, (.fields #[(.ref 50), .none, .none, .none, (.bool false), .none]), #[]⟩
noncomputable def o52_N (p : Program) (P : Params) : Obj := ⟨(.type "tuple"), none, (.seq #[] 0), #[]⟩
noncomputable def o53_N (p : Program) (P : Params) : Obj := ⟨.none, none, (.fields #[]), #[]⟩
noncomputable def o54_N (p : Program) (P : Params) : Obj := ⟨(.type "tuple"), none, (.seq #[(.str (u "s") 1759)] 0), #[]⟩
noncomputable def o55_N (p : Program) (P : Params) : Obj := ⟨(.type "tuple"), none, (.seq #[] 0), #[]⟩
noncomputable def o56_N (p : Program) (P : Params) : Obj := ⟨.none, none, (.func (fn p 18 0 .none .none .none)), #[]⟩
noncomputable def o57_N (p : Program) (P : Params) : Obj := ⟨(.type "code"), none, (.fields #[(.str (u "unquote") 1756), (.str (u "unquote") 1757), (.str (u "/claim/cut.py") 1758), (.int (56) 0), (.int (1) 0), (.int (0) 0), (.int (0) 0), (.int (3) 0), (.ref 52), (.bool true), (.int (181) 0), (.ref 53), .none, (.ref 54), (.ref 55), (.ref 56), (.int (1760) 0), (.int (56) 0), (.str (u "/claim/cut.py") 1761)]), #[]⟩
noncomputable def o58_N (p : Program) (P : Params) : Obj := ⟨(.type "function"), none, (.func (fn p 18 3 .none (.str (u "cpy313.email.quoprimime") 1257) (.ref 57))), #[]⟩
noncomputable def o59_N (p : Program) (P : Params) : Obj := ⟨(.type "tuple"), none, (.seq #[] 0), #[]⟩
noncomputable def o60_N (p : Program) (P : Params) : Obj := ⟨.none, none, (.fields #[]), #[]⟩
noncomputable def o61_N (p : Program) (P : Params) : Obj := ⟨(.type "tuple"), none, (.seq #[(.str (u "c") 1766)] 0), #[]⟩
noncomputable def o62_N (p : Program) (P : Params) : Obj := ⟨(.type "tuple"), none, (.seq #[] 0), #[]⟩
noncomputable def o63_N (p : Program) (P : Params) : Obj := ⟨.none, none, (.func (fn p 19 0 .none .none .none)), #[]⟩
noncomputable def o64_N (p : Program) (P : Params) : Obj := ⟨(.type "code"), none, (.fields #[(.str (u "quote") 1763), (.str (u "quote") 1764), (.str (u "/claim/cut.py") 1765), (.int (58) 0), (.int (1) 0), (.int (0) 0), (.int (0) 0), (.int (3) 0), (.ref 59), (.bool true), (.int (181) 0), (.ref 60), .none, (.ref 61), (.ref 62), (.ref 63), (.int (1767) 0), (.int (58) 0), (.str (u "/claim/cut.py") 1768)]), #[]⟩
noncomputable def o65_N (p : Program) (P : Params) : Obj := ⟨(.type "function"), none, (.func (fn p 19 3 .none (.str (u "cpy313.email.quoprimime") 1257) (.ref 64))), #[]⟩
noncomputable def o66_N (p : Program) (P : Params) : Obj := ⟨(.type "slice"), none, (.fields #[.none, .none, .none]), #[]⟩
noncomputable def o67_N (p : Program) (P : Params) : Obj := ⟨(.type "list"), none, (.seq #[(.str (u "=00") 220), (.str (u "=01") 224), (.str (u "=02") 228), (.str (u "=03") 232), (.str (u "=04") 236), (.str (u "=05") 240), (.str (u "=06") 244), (.str (u "=07") 248), (.str (u "=08") 252), (.str (u "\t") 1755), (.str (u "=0A") 260), (.str (u "=0B") 264), (.str (u "=0C") 268), (.str (u "=0D") 272), (.str (u "=0E") 276), (.str (u "=0F") 280), (.str (u "=10") 284), (.str (u "=11") 288), (.str (u "=12") 292), (.str (u "=13") 296), (.str (u "=14") 300), (.str (u "=15") 304), (.str (u "=16") 308), (.str (u "=17") 312), (.str (u "=18") 316), (.str (u "=19") 320), (.str (u "=1A") 324), (.str (u "=1B") 328), (.str (u "=1C") 332), (.str (u "=1D") 336), (.str (u "=1E") 340), (.str (u "=1F") 344), (.str (u " ") 1473), (.str (u "!") 1476), (.str (u "\"") 1479), (.str (u "#") 1482), (.str (u "$") 1485), (.str (u "%") 1488), (.str (u "&") 1491), (.str (u "'") 1494), (.str (u "(") 1497), (.str (u ")") 1500), (.str (u "*") 1503), (.str (u "+") 1506), (.str (u ",") 1509), (.str (u "-") 1512), (.str (u ".") 1515), (.str (u "/") 1518), (.str (u "0") 1521), (.str (u "1") 1524), (.str (u "2") 1527), (.str (u "3") 1530), (.str (u "4") 1533), (.str (u "5") 1536), (.str (u "6") 1539), (.str (u "7") 1542), (.str (u "8") 1545), (.str (u "9") 1548), (.str (u ":") 1551), (.str (u ";") 1554), (.str (u "<") 1557), (.str (u "=3D") 464), (.str (u ">") 1560), (.str (u "?") 1563), (.str (u "@") 1566), (.str (u "A") 1569), (.str (u "B") 1572), (.str (u "C") 1575), (.str (u "D") 1578), (.str (u "E") 1581), (.str (u "F") 1584), (.str (u "G") 1587), (.str (u "H") 1590), (.str (u "I") 1593), (.str (u "J") 1596), (.str (u "K") 1599), (.str (u "L") 1602), (.str (u "M") 1605), (.str (u "N") 1608), (.str (u "O") 1611), (.str (u "P") 1614), (.str (u "Q") 1617), (.str (u "R") 1620), (.str (u "S") 1623), (.str (u "T") 1626), (.str (u "U") 1629), (.str (u "V") 1632), (.str (u "W") 1635), (.str (u "X") 1638), (.str (u "Y") 1641), (.str (u "Z") 1644), (.str (u "[") 1647), (.str (u "\\") 1650), (.str (u "]") 1653), (.str (u "^") 1656), (.str (u "_") 1659), (.str (u "`") 1662), (.str (u "a") 1665), (.str (u "b") 1668), (.str (u "c") 1671), (.str (u "d") 1674), (.str (u "e") 1677), (.str (u "f") 1680), (.str (u "g") 1683), (.str (u "h") 1686), (.str (u "i") 1689), (.str (u "j") 1692), (.str (u "k") 1695), (.str (u "l") 1698), (.str (u "m") 1701), (.str (u "n") 1704), (.str (u "o") 1707), (.str (u "p") 1710), (.str (u "q") 1713), (.str (u "r") 1716), (.str (u "s") 1719), (.str (u "t") 1722), (.str (u "u") 1725), (.str (u "v") 1728), (.str (u "w") 1731), (.str (u "x") 1734), (.str (u "y") 1737), (.str (u "z") 1740), (.str (u "{") 1743), (.str (u "|") 1746), (.str (u "}") 1749), (.str (u "~") 1752), (.str (u "=7F") 728), (.str (u "=80") 732), (.str (u "=81") 736), (.str (u "=82") 740), (.str (u "=83") 744), (.str (u "=84") 748), (.str (u "=85") 752), (.str (u "=86") 756), (.str (u "=87") 760), (.str (u "=88") 764), (.str (u "=89") 768), (.str (u "=8A") 772), (.str (u "=8B") 776), (.str (u "=8C") 780), (.str (u "=8D") 784), (.str (u "=8E") 788), (.str (u "=8F") 792), (.str (u "=90") 796), (.str (u "=91") 800), (.str (u "=92") 804), (.str (u "=93") 808), (.str (u "=94") 812), (.str (u "=95") 816), (.str (u "=96") 820), (.str (u "=97") 824), (.str (u "=98") 828), (.str (u "=99") 832), (.str (u "=9A") 836), (.str (u "=9B") 840), (.str (u "=9C") 844), (.str (u "=9D") 848), (.str (u "=9E") 852), (.str (u "=9F") 856), (.str (u "=A0") 860), (.str (u "=A1") 864), (.str (u "=A2") 868), (.str (u "=A3") 872), (.str (u "=A4") 876), (.str (u "=A5") 880), (.str (u "=A6") 884), (.str (u "=A7") 888), (.str (u "=A8") 892), (.str (u "=A9") 896), (.str (u "=AA") 900), (.str (u "=AB") 904), (.str (u "=AC") 908), (.str (u "=AD") 912), (.str (u "=AE") 916), (.str (u "=AF") 920), (.str (u "=B0") 924), (.str (u "=B1") 928), (.str (u "=B2") 932), (.str (u "=B3") 936), (.str (u "=B4") 940), (.str (u "=B5") 944), (.str (u "=B6") 948), (.str (u "=B7") 952), (.str (u "=B8") 956), (.str (u "=B9") 960), (.str (u "=BA") 964), (.str (u "=BB") 968), (.str (u "=BC") 972), (.str (u "=BD") 976), (.str (u "=BE") 980), (.str (u "=BF") 984), (.str (u "=C0") 988), (.str (u "=C1") 992), (.str (u "=C2") 996), (.str (u "=C3") 1000), (.str (u "=C4") 1004), (.str (u "=C5") 1008), (.str (u "=C6") 1012), (.str (u "=C7") 1016), (.str (u "=C8") 1020), (.str (u "=C9") 1024), (.str (u "=CA") 1028), (.str (u "=CB") 1032), (.str (u "=CC") 1036), (.str (u "=CD") 1040), (.str (u "=CE") 1044), (.str (u "=CF") 1048), (.str (u "=D0") 1052), (.str (u "=D1") 1056), (.str (u "=D2") 1060), (.str (u "=D3") 1064), (.str (u "=D4") 1068), (.str (u "=D5") 1072), (.str (u "=D6") 1076), (.str (u "=D7") 1080), (.str (u "=D8") 1084), (.str (u "=D9") 1088), (.str (u "=DA") 1092), (.str (u "=DB") 1096), (.str (u "=DC") 1100), (.str (u "=DD") 1104), (.str (u "=DE") 1108), (.str (u "=DF") 1112), (.str (u "=E0") 1116), (.str (u "=E1") 1120), (.str (u "=E2") 1124), (.str (u "=E3") 1128), (.str (u "=E4") 1132), (.str (u "=E5") 1136), (.str (u "=E6") 1140), (.str (u "=E7") 1144), (.str (u "=E8") 1148), (.str (u "=E9") 1152), (.str (u "=EA") 1156), (.str (u "=EB") 1160), (.str (u "=EC") 1164), (.str (u "=ED") 1168), (.str (u "=EE") 1172), (.str (u "=EF") 1176), (.str (u "=F0") 1180), (.str (u "=F1") 1184), (.str (u "=F2") 1188), (.str (u "=F3") 1192), (.str (u "=F4") 1196), (.str (u "=F5") 1200), (.str (u "=F6") 1204), (.str (u "=F7") 1208), (.str (u "=F8") 1212), (.str (u "=F9") 1216), (.str (u "=FA") 1220), (.str (u "=FB") 1224), (.str (u "=FC") 1228), (.str (u "=FD") 1232), (.str (u "=FE") 1236), (.str (u "=FF") 1240)] 0), #[]⟩
noncomputable def treeN (p : Program) (P : Params) : BT := (.node (o0_A p P) (.node (o1_A p P) (.node (o3_N p P) (.node (o7_A p P) (.node (o15_D p P) (.node (o31_D p P) (.node (o63_N p P) .nil .nil) .nil) (.node (o47_M p P) .nil .nil)) (.node (o23_D p P) (.node (o39_E p P) .nil .nil) (.node (o55_N p P) .nil .nil))) (.node (o11_B p P) (.node (o19_D p P) (.node (o35_D p P) (.node (o67_N p P) .nil .nil) .nil) (.node (o51_N p P) .nil .nil)) (.node (o27_D p P) (.node (o43_M p P) .nil .nil) (.node (o59_N p P) .nil .nil)))) (.node (o5_A p P) (.node (o9_A p P) (.node (o17_D p P) (.node (o33_D p P) (.node (o65_N p P) .nil .nil) .nil) (.node (o49_N p P) .nil .nil)) (.node (o25_D p P) (.node (o41_E p P) .nil .nil) (.node (o57_N p P) .nil .nil))) (.node (o13_B p P) (.node (o21_D p P) (.node (o37_E p P) .nil .nil) (.node (o53_N p P) .nil .nil)) (.node (o29_D p P) (.node (o45_N p P) .nil .nil) (.node (o61_N p P) .nil .nil))))) (.node (o2_A p P) (.node (o4_A p P) (.node (o8_A p P) (.node (o16_D p P) (.node (o32_D p P) (.node (o64_N p P) .nil .nil) .nil) (.node (o48_M p P) .nil .nil)) (.node (o24_D p P) (.node (o40_E p P) .nil .nil) (.node (o56_N p P) .nil .nil))) (.node (o12_N p P) (.node (o20_D p P) (.node (o36_E p P) .nil .nil) (.node (o52_N p P) .nil .nil)) (.node (o28_D p P) (.node (o44_M p P) .nil .nil) (.node (o60_N p P) .nil .nil)))) (.node (o6_A p P) (.node (o10_A p P) (.node (o18_D p P) (.node (o34_D p P) (.node (o66_N p P) .nil .nil) .nil) (.node (o50_N p P) .nil .nil)) (.node (o26_D p P) (.node (o42_M p P) .nil .nil) (.node (o58_N p P) .nil .nil))) (.node (o14_B p P) (.node (o22_D p P) (.node (o38_E p P) .nil .nil) (.node (o54_N p P) .nil .nil)) (.node (o30_D p P) (.node (o46_M p P) .nil .nil) (.node (o62_N p P) .nil .nil))))))
noncomputable def o3_F (p : Program) (P : Params) : Obj := ⟨(.type "dict"), none, (.dict #[(d P "__name__" 165 (.str (u "law_re0097_01") 1811)), (d P "__doc__" 166 .none), (d P "__package__" 167 .none), (d P "__loader__" 168 (.builtin "__main__.__loader__#opaque")), (d P "__spec__" 169 .none), (d P "__annotations__" 170 (.ref 6)), (d P "__builtins__" 171 (.ref 4)), (d P "__file__" 173 (.str (u "/claim/cut.py") 172)), (d P "__cached__" 174 .none), (d P "_raise_serialization_error" 195 (.ref 21)), (d P "_escape_attrib" 202 (.ref 28)), (d P "_escape_attrib_c14n" 209 (.ref 35)), (d P "CRLF" 211 (.str (u "\x0d\n") 210)), (d P "NL" 213 (.str (u "\n") 212)), (d P "_QUOPRI_MAP" 1241 (.ref 38)), (d P "_QUOPRI_HEADER_MAP" 1242 (.ref 43)), (d P "_QUOPRI_BODY_MAP" 1243 (.ref 45)), (d P "ascii_lowercase" 1245 (.str (u "abcdefghijklmnopqrstuvwxyz") 1244)), (d P "ascii_uppercase" 1247 (.str (u "ABCDEFGHIJKLMNOPQRSTUVWXYZ") 1246)), (d P "ascii_letters" 1249 (.str (u "abcdefghijklmnopqrstuvwxyzABCDEFGHIJKLMNOPQRSTUVWXYZ") 1248)), (d P "digits" 1251 (.str (u "0123456789") 1250)), (d P "hexdigits" 1256 (.str (u "0123456789abcdefABCDEF") 1255)), (d P "unquote" 1762 (.ref 58)), (d P "quote" 1769 (.ref 65)), (d P "_QUOPRI_BODY_ENCODE_MAP" 1770 (.ref 67)), (d P "body_encode" 1797 (.ref 78)), (d P "decode" 1810 (.ref 86)), (d P "_law_names" 1819 (.ref 93)), (d P "_law_references_read" 1828 (.ref 100)), (d P "_law_rows" 1834 (.ref 105)), (d P "_law_due" 1840 (.ref 110)), (d P "law" 1846 (.ref 115))] 34), #[]⟩
noncomputable def o12_F (p : Program) (P : Params) : Obj := ⟨.none, none, (.fields #[(.int (2) 0), (.int (0) 0), (.ref 20), (.int (4) 0), (.int (0) 0), (.ref 27), (.int (23) 0), (.int (0) 0), (.ref 34), (.int (56) 0), (.int (0) 0), (.ref 57), (.int (58) 0), (.int (0) 0), (.ref 64), (.int (64) 0), (.int (0) 0), (.ref 77), (.int (102) 0), (.int (0) 0), (.ref 85), (.int (133) 0), (.int (0) 0), (.ref 92), (.int (137) 0), (.int (0) 0), (.ref 99), (.int (142) 0), (.int (0) 0), (.ref 104), (.int (158) 0), (.int (0) 0), (.ref 109), (.int (182) 0), (.int (0) 0), (.ref 114)]), #[]⟩
noncomputable def o67_F (p : Program) (P : Params) : Obj := ⟨(.type "list"), none, (.seq #[(.str (u "=00") 220), (.str (u "=01") 224), (.str (u "=02") 228), (.str (u "=03") 232), (.str (u "=04") 236), (.str (u "=05") 240), (.str (u "=06") 244), (.str (u "=07") 248), (.str (u "=08") 252), (.str (u "\t") 1755), (.str (u "\n") 1777), (.str (u "=0B") 264), (.str (u "=0C") 268), (.str (u "\x0d") 1774), (.str (u "=0E") 276), (.str (u "=0F") 280), (.str (u "=10") 284), (.str (u "=11") 288), (.str (u "=12") 292), (.str (u "=13") 296), (.str (u "=14") 300), (.str (u "=15") 304), (.str (u "=16") 308), (.str (u "=17") 312), (.str (u "=18") 316), (.str (u "=19") 320), (.str (u "=1A") 324), (.str (u "=1B") 328), (.str (u "=1C") 332), (.str (u "=1D") 336), (.str (u "=1E") 340), (.str (u "=1F") 344), (.str (u " ") 1473), (.str (u "!") 1476), (.str (u "\"") 1479), (.str (u "#") 1482), (.str (u "$") 1485), (.str (u "%") 1488), (.str (u "&") 1491), (.str (u "'") 1494), (.str (u "(") 1497), (.str (u ")") 1500), (.str (u "*") 1503), (.str (u "+") 1506), (.str (u ",") 1509), (.str (u "-") 1512), (.str (u ".") 1515), (.str (u "/") 1518), (.str (u "0") 1521), (.str (u "1") 1524), (.str (u "2") 1527), (.str (u "3") 1530), (.str (u "4") 1533), (.str (u "5") 1536), (.str (u "6") 1539), (.str (u "7") 1542), (.str (u "8") 1545), (.str (u "9") 1548), (.str (u ":") 1551), (.str (u ";") 1554), (.str (u "<") 1557), (.str (u "=3D") 464), (.str (u ">") 1560), (.str (u "?") 1563), (.str (u "@") 1566), (.str (u "A") 1569), (.str (u "B") 1572), (.str (u "C") 1575), (.str (u "D") 1578), (.str (u "E") 1581), (.str (u "F") 1584), (.str (u "G") 1587), (.str (u "H") 1590), (.str (u "I") 1593), (.str (u "J") 1596), (.str (u "K") 1599), (.str (u "L") 1602), (.str (u "M") 1605), (.str (u "N") 1608), (.str (u "O") 1611), (.str (u "P") 1614), (.str (u "Q") 1617), (.str (u "R") 1620), (.str (u "S") 1623), (.str (u "T") 1626), (.str (u "U") 1629), (.str (u "V") 1632), (.str (u "W") 1635), (.str (u "X") 1638), (.str (u "Y") 1641), (.str (u "Z") 1644), (.str (u "[") 1647), (.str (u "\\") 1650), (.str (u "]") 1653), (.str (u "^") 1656), (.str (u "_") 1659), (.str (u "`") 1662), (.str (u "a") 1665), (.str (u "b") 1668), (.str (u "c") 1671), (.str (u "d") 1674), (.str (u "e") 1677), (.str (u "f") 1680), (.str (u "g") 1683), (.str (u "h") 1686), (.str (u "i") 1689), (.str (u "j") 1692), (.str (u "k") 1695), (.str (u "l") 1698), (.str (u "m") 1701), (.str (u "n") 1704), (.str (u "o") 1707), (.str (u "p") 1710), (.str (u "q") 1713), (.str (u "r") 1716), (.str (u "s") 1719), (.str (u "t") 1722), (.str (u "u") 1725), (.str (u "v") 1728), (.str (u "w") 1731), (.str (u "x") 1734), (.str (u "y") 1737), (.str (u "z") 1740), (.str (u "{") 1743), (.str (u "|") 1746), (.str (u "}") 1749), (.str (u "~") 1752), (.str (u "=7F") 728), (.str (u "=80") 732), (.str (u "=81") 736), (.str (u "=82") 740), (.str (u "=83") 744), (.str (u "=84") 748), (.str (u "=85") 752), (.str (u "=86") 756), (.str (u "=87") 760), (.str (u "=88") 764), (.str (u "=89") 768), (.str (u "=8A") 772), (.str (u "=8B") 776), (.str (u "=8C") 780), (.str (u "=8D") 784), (.str (u "=8E") 788), (.str (u "=8F") 792), (.str (u "=90") 796), (.str (u "=91") 800), (.str (u "=92") 804), (.str (u "=93") 808), (.str (u "=94") 812), (.str (u "=95") 816), (.str (u "=96") 820), (.str (u "=97") 824), (.str (u "=98") 828), (.str (u "=99") 832), (.str (u "=9A") 836), (.str (u "=9B") 840), (.str (u "=9C") 844), (.str (u "=9D") 848), (.str (u "=9E") 852), (.str (u "=9F") 856), (.str (u "=A0") 860), (.str (u "=A1") 864), (.str (u "=A2") 868), (.str (u "=A3") 872), (.str (u "=A4") 876), (.str (u "=A5") 880), (.str (u "=A6") 884), (.str (u "=A7") 888), (.str (u "=A8") 892), (.str (u "=A9") 896), (.str (u "=AA") 900), (.str (u "=AB") 904), (.str (u "=AC") 908), (.str (u "=AD") 912), (.str (u "=AE") 916), (.str (u "=AF") 920), (.str (u "=B0") 924), (.str (u "=B1") 928), (.str (u "=B2") 932), (.str (u "=B3") 936), (.str (u "=B4") 940), (.str (u "=B5") 944), (.str (u "=B6") 948), (.str (u "=B7") 952), (.str (u "=B8") 956), (.str (u "=B9") 960), (.str (u "=BA") 964), (.str (u "=BB") 968), (.str (u "=BC") 972), (.str (u "=BD") 976), (.str (u "=BE") 980), (.str (u "=BF") 984), (.str (u "=C0") 988), (.str (u "=C1") 992), (.str (u "=C2") 996), (.str (u "=C3") 1000), (.str (u "=C4") 1004), (.str (u "=C5") 1008), (.str (u "=C6") 1012), (.str (u "=C7") 1016), (.str (u "=C8") 1020), (.str (u "=C9") 1024), (.str (u "=CA") 1028), (.str (u "=CB") 1032), (.str (u "=CC") 1036), (.str (u "=CD") 1040), (.str (u "=CE") 1044), (.str (u "=CF") 1048), (.str (u "=D0") 1052), (.str (u "=D1") 1056), (.str (u "=D2") 1060), (.str (u "=D3") 1064), (.str (u "=D4") 1068), (.str (u "=D5") 1072), (.str (u "=D6") 1076), (.str (u "=D7") 1080), (.str (u "=D8") 1084), (.str (u "=D9") 1088), (.str (u "=DA") 1092), (.str (u "=DB") 1096), (.str (u "=DC") 1100), (.str (u "=DD") 1104), (.str (u "=DE") 1108), (.str (u "=DF") 1112), (.str (u "=E0") 1116), (.str (u "=E1") 1120), (.str (u "=E2") 1124), (.str (u "=E3") 1128), (.str (u "=E4") 1132), (.str (u "=E5") 1136), (.str (u "=E6") 1140), (.str (u "=E7") 1144), (.str (u "=E8") 1148), (.str (u "=E9") 1152), (.str (u "=EA") 1156), (.str (u "=EB") 1160), (.str (u "=EC") 1164), (.str (u "=ED") 1168), (.str (u "=EE") 1172), (.str (u "=EF") 1176), (.str (u "=F0") 1180), (.str (u "=F1") 1184), (.str (u "=F2") 1188), (.str (u "=F3") 1192), (.str (u "=F4") 1196), (.str (u "=F5") 1200), (.str (u "=F6") 1204), (.str (u "=F7") 1208), (.str (u "=F8") 1212), (.str (u "=F9") 1216), (.str (u "=FA") 1220), (.str (u "=FB") 1224), (.str (u "=FC") 1228), (.str (u "=FD") 1232), (.str (u "=FE") 1236), (.str (u "=FF") 1240)] 0), #[]⟩
noncomputable def o68_F (p : Program) (P : Params) : Obj := ⟨(.type "bytes_iterator"), none, (.fields #[.none, (.int (2) 0)]), #[]⟩
noncomputable def o69_F (p : Program) (P : Params) : Obj := ⟨(.type "tuple"), none, (.seq #[] 0), #[]⟩
noncomputable def o70_F (p : Program) (P : Params) : Obj := ⟨(.type "StopIteration"), none, (.fields #[(.ref 69), .none, .none, .none, (.bool false), .none]), #[]⟩
noncomputable def o71_F (p : Program) (P : Params) : Obj := ⟨(.type "tuple"), none, (.seq #[(.int (76) 1778), (.str (u "\n") 212)] 0), #[]⟩
noncomputable def o72_F (p : Program) (P : Params) : Obj := ⟨(.type "tuple"), none, (.seq #[] 0), #[]⟩
noncomputable def o73_F (p : Program) (P : Params) : Obj := ⟨.none, none, (.fields #[]), #[]⟩
noncomputable def o74_F (p : Program) (P : Params) : Obj := ⟨(.type "tuple"), none, (.seq #[(.str (u "body") 1782), (.str (u "maxlinelen") 1783), (.str (u "eol") 1784), (.str (u "soft_break") 1785), (.str (u "maxlinelen1") 1786), (.str (u "encoded_body") 1787), (.str (u "append") 1788), (.str (u "line") 1789), (.str (u "start") 1790), (.str (u "laststart") 1791), (.str (u "stop") 1792), (.str (u "room") 1793), (.str (u "q") 1794)] 0), #[]⟩
noncomputable def o75_F (p : Program) (P : Params) : Obj := ⟨(.type "tuple"), none, (.seq #[] 0), #[]⟩
noncomputable def o76_F (p : Program) (P : Params) : Obj := ⟨.none, none, (.func (fn p 23 0 .none .none .none)), #[]⟩
noncomputable def o77_F (p : Program) (P : Params) : Obj := ⟨(.type "code"), none, (.fields #[(.str (u "body_encode") 1779), (.str (u "body_encode") 1780), (.str (u "/claim/cut.py") 1781), (.int (64) 0), (.int (3) 0), (.int (0) 0), (.int (0) 0), (.int (3) 0), (.ref 72), (.bool true), (.int (181) 0), (.ref 73), .none, (.ref 74), (.ref 75), (.ref 76), (.int (1795) 0), (.int (64) 0), (.str (u "/claim/cut.py") 1796)]), #[]⟩
noncomputable def o78_F (p : Program) (P : Params) : Obj := ⟨(.type "function"), none, (.func (fn p 23 3 (.ref 71) (.str (u "cpy313.email.quoprimime") 1257) (.ref 77))), #[]⟩
noncomputable def o79_F (p : Program) (P : Params) : Obj := ⟨(.type "tuple"), none, (.seq #[(.str (u "\n") 212)] 0), #[]⟩
noncomputable def o80_F (p : Program) (P : Params) : Obj := ⟨(.type "tuple"), none, (.seq #[] 0), #[]⟩
noncomputable def o81_F (p : Program) (P : Params) : Obj := ⟨.none, none, (.fields #[]), #[]⟩
noncomputable def o82_F (p : Program) (P : Params) : Obj := ⟨(.type "tuple"), none, (.seq #[(.str (u "encoded") 1801), (.str (u "eol") 1802), (.str (u "decoded") 1803), (.str (u "line") 1804), (.str (u "i") 1805), (.str (u "n") 1806), (.str (u "c") 1807)] 0), #[]⟩
noncomputable def o83_F (p : Program) (P : Params) : Obj := ⟨(.type "tuple"), none, (.seq #[] 0), #[]⟩
noncomputable def o84_F (p : Program) (P : Params) : Obj := ⟨.none, none, (.func (fn p 24 0 .none .none .none)), #[]⟩
noncomputable def o85_F (p : Program) (P : Params) : Obj := ⟨(.type "code"), none, (.fields #[(.str (u "decode") 1798), (.str (u "decode") 1799), (.str (u "/claim/cut.py") 1800), (.int (102) 0), (.int (2) 0), (.int (0) 0), (.int (0) 0), (.int (3) 0), (.ref 80), (.bool true), (.int (181) 0), (.ref 81), .none, (.ref 82), (.ref 83), (.ref 84), (.int (1808) 0), (.int (102) 0), (.str (u "/claim/cut.py") 1809)]), #[]⟩
noncomputable def o86_F (p : Program) (P : Params) : Obj := ⟨(.type "function"), none, (.func (fn p 24 3 (.ref 79) (.str (u "cpy313.email.quoprimime") 1257) (.ref 85))), #[]⟩
noncomputable def o87_F (p : Program) (P : Params) : Obj := ⟨(.type "tuple"), none, (.seq #[] 0), #[]⟩
noncomputable def o88_F (p : Program) (P : Params) : Obj := ⟨.none, none, (.fields #[]), #[]⟩
noncomputable def o89_F (p : Program) (P : Params) : Obj := ⟨(.type "tuple"), none, (.seq #[(.str (u "canonical") 1816)] 0), #[]⟩
noncomputable def o90_F (p : Program) (P : Params) : Obj := ⟨(.type "tuple"), none, (.seq #[] 0), #[]⟩
noncomputable def o91_F (p : Program) (P : Params) : Obj := ⟨.none, none, (.func (fn p 26 0 .none .none .none)), #[]⟩
noncomputable def o92_F (p : Program) (P : Params) : Obj := ⟨(.type "code"), none, (.fields #[(.str (u "_law_names") 1813), (.str (u "_law_names") 1814), (.str (u "/claim/cut.py") 1815), (.int (133) 0), (.int (1) 0), (.int (0) 0), (.int (0) 0), (.int (3) 0), (.ref 87), (.bool true), (.int (181) 0), (.ref 88), .none, (.ref 89), (.ref 90), (.ref 91), (.int (1817) 0), (.int (133) 0), (.str (u "/claim/cut.py") 1818)]), #[]⟩
noncomputable def o93_F (p : Program) (P : Params) : Obj := ⟨(.type "function"), none, (.func (fn p 26 3 .none (.str (u "law_re0097_01") 1811) (.ref 92))), #[]⟩
noncomputable def o94_F (p : Program) (P : Params) : Obj := ⟨(.type "tuple"), none, (.seq #[] 0), #[]⟩
noncomputable def o95_F (p : Program) (P : Params) : Obj := ⟨.none, none, (.fields #[]), #[]⟩
noncomputable def o96_F (p : Program) (P : Params) : Obj := ⟨(.type "tuple"), none, (.seq #[(.str (u "text") 1823), (.str (u "names") 1824), (.str (u "sign") 1825)] 0), #[]⟩
noncomputable def o97_F (p : Program) (P : Params) : Obj := ⟨(.type "tuple"), none, (.seq #[] 0), #[]⟩
noncomputable def o98_F (p : Program) (P : Params) : Obj := ⟨.none, none, (.func (fn p 27 0 .none .none .none)), #[]⟩
noncomputable def o99_F (p : Program) (P : Params) : Obj := ⟨(.type "code"), none, (.fields #[(.str (u "_law_references_read") 1820), (.str (u "_law_references_read") 1821), (.str (u "/claim/cut.py") 1822), (.int (137) 0), (.int (2) 0), (.int (0) 0), (.int (0) 0), (.int (3) 0), (.ref 94), (.bool true), (.int (181) 0), (.ref 95), .none, (.ref 96), (.ref 97), (.ref 98), (.int (1826) 0), (.int (137) 0), (.str (u "/claim/cut.py") 1827)]), #[]⟩
noncomputable def o100_F (p : Program) (P : Params) : Obj := ⟨(.type "function"), none, (.func (fn p 27 3 .none (.str (u "law_re0097_01") 1811) (.ref 99))), #[]⟩
noncomputable def o101_F (p : Program) (P : Params) : Obj := ⟨(.type "tuple"), none, (.seq #[] 0), #[]⟩
noncomputable def o102_F (p : Program) (P : Params) : Obj := ⟨.none, none, (.fields #[]), #[]⟩
noncomputable def o103_F (p : Program) (P : Params) : Obj := ⟨.none, none, (.func (fn p 28 0 .none .none .none)), #[]⟩
noncomputable def o104_F (p : Program) (P : Params) : Obj := ⟨(.type "code"), none, (.fields #[(.str (u "_law_rows") 1829), (.str (u "_law_rows") 1830), (.str (u "/claim/cut.py") 1831), (.int (142) 0), (.int (2) 0), (.int (0) 0), (.int (0) 0), (.int (3) 0), (.ref 101), (.bool true), (.int (181) 0), (.ref 102), .none, .none, .none, (.ref 103), (.int (1832) 0), (.int (142) 0), (.str (u "/claim/cut.py") 1833)]), #[]⟩
noncomputable def o105_F (p : Program) (P : Params) : Obj := ⟨(.type "function"), none, (.func (fn p 28 3 .none (.str (u "law_re0097_01") 1811) (.ref 104))), #[]⟩
noncomputable def o106_F (p : Program) (P : Params) : Obj := ⟨(.type "tuple"), none, (.seq #[] 0), #[]⟩
noncomputable def o107_F (p : Program) (P : Params) : Obj := ⟨.none, none, (.fields #[]), #[]⟩
noncomputable def o108_F (p : Program) (P : Params) : Obj := ⟨.none, none, (.func (fn p 29 0 .none .none .none)), #[]⟩
noncomputable def o109_F (p : Program) (P : Params) : Obj := ⟨(.type "code"), none, (.fields #[(.str (u "_law_due") 1835), (.str (u "_law_due") 1836), (.str (u "/claim/cut.py") 1837), (.int (158) 0), (.int (3) 0), (.int (0) 0), (.int (0) 0), (.int (3) 0), (.ref 106), (.bool true), (.int (181) 0), (.ref 107), .none, .none, .none, (.ref 108), (.int (1838) 0), (.int (158) 0), (.str (u "/claim/cut.py") 1839)]), #[]⟩
noncomputable def o110_F (p : Program) (P : Params) : Obj := ⟨(.type "function"), none, (.func (fn p 29 3 .none (.str (u "law_re0097_01") 1811) (.ref 109))), #[]⟩
noncomputable def o111_F (p : Program) (P : Params) : Obj := ⟨(.type "tuple"), none, (.seq #[] 0), #[]⟩
noncomputable def o112_F (p : Program) (P : Params) : Obj := ⟨.none, none, (.fields #[]), #[]⟩
noncomputable def o113_F (p : Program) (P : Params) : Obj := ⟨.none, none, (.func (fn p 30 0 .none .none .none)), #[]⟩
noncomputable def o114_F (p : Program) (P : Params) : Obj := ⟨(.type "code"), none, (.fields #[(.str (u "law") 1841), (.str (u "law") 1842), (.str (u "/claim/cut.py") 1843), (.int (182) 0), (.int (1) 0), (.int (0) 0), (.int (0) 0), (.int (3) 0), (.ref 111), (.bool true), (.int (181) 0), (.ref 112), .none, .none, .none, (.ref 113), (.int (1844) 0), (.int (182) 0), (.str (u "/claim/cut.py") 1845)]), #[]⟩
noncomputable def o115_F (p : Program) (P : Params) : Obj := ⟨(.type "function"), none, (.func (fn p 30 3 .none (.str (u "law_re0097_01") 1811) (.ref 114))), #[]⟩
noncomputable def treeF (p : Program) (P : Params) : BT := (.node (o0_A p P) (.node (o1_A p P) (.node (o3_F p P) (.node (o7_A p P) (.node (o15_D p P) (.node (o31_D p P) (.node (o63_N p P) .nil .nil) (.node (o95_F p P) .nil .nil)) (.node (o47_M p P) (.node (o79_F p P) .nil .nil) (.node (o111_F p P) .nil .nil))) (.node (o23_D p P) (.node (o39_E p P) (.node (o71_F p P) .nil .nil) (.node (o103_F p P) .nil .nil)) (.node (o55_N p P) (.node (o87_F p P) .nil .nil) .nil))) (.node (o11_B p P) (.node (o19_D p P) (.node (o35_D p P) (.node (o67_F p P) .nil .nil) (.node (o99_F p P) .nil .nil)) (.node (o51_N p P) (.node (o83_F p P) .nil .nil) (.node (o115_F p P) .nil .nil))) (.node (o27_D p P) (.node (o43_M p P) (.node (o75_F p P) .nil .nil) (.node (o107_F p P) .nil .nil)) (.node (o59_N p P) (.node (o91_F p P) .nil .nil) .nil)))) (.node (o5_A p P) (.node (o9_A p P) (.node (o17_D p P) (.node (o33_D p P) (.node (o65_N p P) .nil .nil) (.node (o97_F p P) .nil .nil)) (.node (o49_N p P) (.node (o81_F p P) .nil .nil) (.node (o113_F p P) .nil .nil))) (.node (o25_D p P) (.node (o41_E p P) (.node (o73_F p P) .nil .nil) (.node (o105_F p P) .nil .nil)) (.node (o57_N p P) (.node (o89_F p P) .nil .nil) .nil))) (.node (o13_B p P) (.node (o21_D p P) (.node (o37_E p P) (.node (o69_F p P) .nil .nil) (.node (o101_F p P) .nil .nil)) (.node (o53_N p P) (.node (o85_F p P) .nil .nil) .nil)) (.node (o29_D p P) (.node (o45_N p P) (.node (o77_F p P) .nil .nil) (.node (o109_F p P) .nil .nil)) (.node (o61_N p P) (.node (o93_F p P) .nil .nil) .nil))))) (.node (o2_A p P) (.node (o4_A p P) (.node (o8_A p P) (.node (o16_D p P) (.node (o32_D p P) (.node (o64_N p P) .nil .nil) (.node (o96_F p P) .nil .nil)) (.node (o48_M p P) (.node (o80_F p P) .nil .nil) (.node (o112_F p P) .nil .nil))) (.node (o24_D p P) (.node (o40_E p P) (.node (o72_F p P) .nil .nil) (.node (o104_F p P) .nil .nil)) (.node (o56_N p P) (.node (o88_F p P) .nil .nil) .nil))) (.node (o12_F p P) (.node (o20_D p P) (.node (o36_E p P) (.node (o68_F p P) .nil .nil) (.node (o100_F p P) .nil .nil)) (.node (o52_N p P) (.node (o84_F p P) .nil .nil) .nil)) (.node (o28_D p P) (.node (o44_M p P) (.node (o76_F p P) .nil .nil) (.node (o108_F p P) .nil .nil)) (.node (o60_N p P) (.node (o92_F p P) .nil .nil) .nil)))) (.node (o6_A p P) (.node (o10_A p P) (.node (o18_D p P) (.node (o34_D p P) (.node (o66_N p P) .nil .nil) (.node (o98_F p P) .nil .nil)) (.node (o50_N p P) (.node (o82_F p P) .nil .nil) (.node (o114_F p P) .nil .nil))) (.node (o26_D p P) (.node (o42_M p P) (.node (o74_F p P) .nil .nil) (.node (o106_F p P) .nil .nil)) (.node (o58_N p P) (.node (o90_F p P) .nil .nil) .nil))) (.node (o14_B p P) (.node (o22_D p P) (.node (o38_E p P) (.node (o70_F p P) .nil .nil) (.node (o102_F p P) .nil .nil)) (.node (o54_N p P) (.node (o86_F p P) .nil .nil) .nil)) (.node (o30_D p P) (.node (o46_M p P) (.node (o78_F p P) .nil .nil) (.node (o110_F p P) .nil .nil)) (.node (o62_N p P) (.node (o94_F p P) .nil .nil) .nil))))))
noncomputable abbrev pg : Program := PySem.Challenge.pw_re0097_01
noncomputable def envH (p : Program) : Env := { scope := p.main.scope, locals := mainNs, globals := mainNs, cells := [], code := .ref 13, frame := some 14 }
noncomputable def cH (p : Program) : Code := .body (behindTheImports p) (envH p)
noncomputable def stA (p : Program) (w : World) (os : OsState) : SharedT := ⟨treeA p w.params, 11, {}, #[], {}, 181, os⟩
noncomputable def stB (p : Program) (w : World) (os : OsState) : SharedT := ⟨treeB p w.params, 15, {}, #[], {}, 187, os⟩
noncomputable def stD (p : Program) (w : World) (os : OsState) : SharedT := ⟨treeD p w.params, 36, {}, #[], {}, 214, os⟩
noncomputable def stE (p : Program) (w : World) (os : OsState) : SharedT := ⟨treeE p w.params, 42, {}, #[], {}, 1242, os⟩
noncomputable def stM (p : Program) (w : World) (os : OsState) : SharedT := ⟨treeM p w.params, 49, {}, #[], {}, 1470, os⟩
noncomputable def stN (p : Program) (w : World) (os : OsState) : SharedT := ⟨treeN p w.params, 68, {}, #[], {}, 1771, os⟩
noncomputable def stF (p : Program) (w : World) (os : OsState) : SharedT := ⟨treeF p w.params, 116, {}, #[], {}, 1847, os⟩
noncomputable def sts1 (p : Program) : List Stmt := p.main.body.take 6
noncomputable def sts2 (p : Program) : List Stmt := (p.main.body.drop 6).take 1
noncomputable def stsM (p : Program) : List Stmt := (p.main.body.drop 7).take 10
noncomputable def stsN (p : Program) : List Stmt := (p.main.body.drop 17).take 4
noncomputable def stsF (p : Program) : List Stmt := p.main.body.drop 21
noncomputable abbrev segF := @PySem.W.Fast.tw10110043849684766642
noncomputable abbrev goF := @PySem.W.Fast.tw10295753902157049106
noncomputable abbrev tbF := PySem.W.Fast.tw14364793385576792824
noncomputable def pos0 : Pos := ⟨0, 0, 0, 0⟩
noncomputable def pos1 : Pos := ⟨41, 0, 41, 2⟩
noncomputable def pos2 : Pos := ⟨42, 0, 42, 11⟩
noncomputable def posM : Pos := ⟨53, 0, 53, 28⟩
noncomputable def posN : Pos := ⟨60, 0, 60, 23⟩
noncomputable def pos3 : Pos := ⟨182, 0, 198, 84⟩
noncomputable abbrev thr (l : List Stmt) (p : Pos) : Thread := piecesOf l (envH pg) (cH pg) p [topFrame pos0]
noncomputable abbrev Run (n : Nat) (a b : SharedT) (l : List Stmt) (p1 p2 : Pos) (w : World) : Prop :=
  segRun treeTable pg w 11 (some (.ref 6)) 1 n a.abs (thr l p1) = some (.next, b.abs, cH pg, p2)
noncomputable abbrev rowI : String := "comprehension-iter-twice"
noncomputable abbrev rowG : String := "special-get-raises"
noncomputable abbrev wI (w : World) (b : Bool) : World := w.withFollow rowI b
noncomputable abbrev wG (w : World) (b : Bool) : World := w.withFollow rowG b
/-- where a block stands once it has asked the world's rows: its first steps, in the world that follows neither -/
noncomputable abbrev mid (k : Nat) (w : World) (a : SharedT) (t : Thread) : Option (SharedT × Thread) := goF tbF pg (wI (wG w false) false) 11 (some (.ref 6)) 1 k a t
noncomputable def runMid (n : Nat) (w : World) (m : Option (SharedT × Thread)) : Option (Flow × SharedT × Code × Pos) := match m with
  | some (s, t) => segF tbF pg w 11 (some (.ref 6)) 1 n s t
  | none => none
noncomputable abbrev Go (k k₀ : Nat) (st : Program → World → OsState → SharedT) (l : List Stmt) (p : Pos) (w : World) : Prop := ∀ os, goF tbF pg w 11 (some (.ref 6)) 1 k (st pg w os) (thr l p) = mid k₀ w (st pg w os) (thr l p)
theorem seg_more {tb : String → Option Builtin} {p : Program} {w : World} {n₀ : Nat} {ann : Option Value} {b : Nat} {r : Flow × Shared × Code × Pos} : ∀ {n m : Nat} {s : Shared} {t : Thread}, n ≤ m → segRun tb p w n₀ ann b n s t = some r → segRun tb p w n₀ ann b m s t = some r
  | 0, _, _, _, _, h => by cases h
  | n + 1, 0, _, _, hm, _ => absurd hm (Nat.not_succ_le_zero n)
  | n + 1, m + 1, s, t, hm, h => by
    unfold segRun at h ⊢
    cases he : endAt b t with
    | some f => rw [he] at h; exact h
    | none =>
      rw [he] at h
      cases hk : stepOk n₀ ann t with
      | false => rw [hk] at h; cases h
      | true =>
        rw [hk] at h
        cases hs : step (denote tb) p w s t with
        | go s' t' => rw [hs] at h; exact seg_more (Nat.le_of_succ_le_succ hm) h
        | halt _ _ => rw [hs] at h; cases h
theorem run_mid {k n m : Nat} {w : World} {a b : SharedT} {t : Thread} {p2 : Pos} {x : Option (SharedT × Thread)} (h1 : goF tbF pg w 11 (some (.ref 6)) 1 k a t = x) (h2 : runMid n w x = some (.next, b, cH pg, p2)) (hm : k + n ≤ m) :
    segRun treeTable pg w 11 (some (.ref 6)) 1 m a.abs t = some (.next, b.abs, cH pg, p2) := by
  cases x with
  | none => cases h2
  | some x =>
    obtain ⟨s', t'⟩ := x
    exact seg_more hm (seg_go (segGo_of (by rw [PySem.W.Fast.te10295753902157049106, PySem.W.Fast.te14364793385576792824]; exact h1)) (segRun_of (by rw [PySem.W.Fast.te10110043849684766642, PySem.W.Fast.te14364793385576792824]; exact h2)))
theorem run_of {n : Nat} {a b : SharedT} {l : List Stmt} {p1 p2 : Pos} {w : World} (h : segF tbF pg w 11 (some (.ref 6)) 1 n a (thr l p1) = some (.next, b, cH pg, p2)) : Run n a b l p1 p2 w :=
  segRun_of (by rw [PySem.W.Fast.te10110043849684766642, PySem.W.Fast.te14364793385576792824]; exact h)
theorem run1 (w : World) (os : OsState) : Run 115 (stB pg w os) (stD pg w os) (sts1 pg) pos0 pos1 w := run_of (by kernel_rfl)
noncomputable abbrev P2 (w : World) : Prop := ∀ os : OsState, Run 9600 (stD pg w os) (stE pg w os) (sts2 pg) pos1 pos2 w
noncomputable abbrev PM (w : World) : Prop := ∀ os : OsState, Run 3300 (stE pg w os) (stM pg w os) (stsM pg) pos2 posM w
noncomputable abbrev PN (w : World) : Prop := ∀ os : OsState, Run 4450 (stM pg w os) (stN pg w os) (stsN pg) posM posN w
noncomputable abbrev PF (w : World) : Prop := ∀ os : OsState, Run 400 (stN pg w os) (stF pg w os) (stsF pg) posN pos3 w
theorem go2ff (w : World) : Go 60 60 stD (sts2 pg) pos1 (wI (wG w false) false) := fun os => by kernel_rfl
theorem go2tf (w : World) : Go 50 60 stD (sts2 pg) pos1 (wI (wG w false) true) := fun os => by kernel_rfl
theorem go2ft (w : World) : Go 60 60 stD (sts2 pg) pos1 (wI (wG w true) false) := fun os => by kernel_rfl
theorem go2tt (w : World) : Go 50 60 stD (sts2 pg) pos1 (wI (wG w true) true) := fun os => by kernel_rfl
theorem goMf (w : World) : Go 190 190 stE (stsM pg) pos2 (wG w false) := fun os => by kernel_rfl
theorem goMt (w : World) : Go 190 190 stE (stsM pg) pos2 (wG w true) := fun os => by kernel_rfl
theorem goNf (w : World) : Go 30 30 stM (stsN pg) posM (wG w false) := fun os => by kernel_rfl
theorem goNt (w : World) : Go 30 30 stM (stsN pg) posM (wG w true) := fun os => by kernel_rfl
theorem goFf (w : World) : Go 30 30 stN (stsF pg) posN (wG w false) := fun os => by kernel_rfl
theorem goFt (w : World) : Go 30 30 stN (stsF pg) posN (wG w true) := fun os => by kernel_rfl
theorem mid2 (w : World) (os : OsState) : runMid 9530 w (mid 60 w (stD pg w os) (thr (sts2 pg) pos1)) = some (.next, stE pg w os, cH pg, pos2) := by kernel_rfl
theorem midM (w : World) (os : OsState) : runMid 3100 w (mid 190 w (stE pg w os) (thr (stsM pg) pos2)) = some (.next, stM pg w os, cH pg, posM) := by kernel_rfl
theorem midN (w : World) (os : OsState) : runMid 4400 w (mid 30 w (stM pg w os) (thr (stsN pg) posM)) = some (.next, stN pg w os, cH pg, posN) := by kernel_rfl
theorem midF (w : World) (os : OsState) : runMid 360 w (mid 30 w (stN pg w os) (thr (stsF pg) posN)) = some (.next, stF pg w os, cH pg, pos3) := by kernel_rfl
theorem run2ff (w : World) : P2 (wI (wG w false) false) := fun os => run_mid (go2ff w os) (mid2 _ os) (by decide)
theorem run2tf (w : World) : P2 (wI (wG w false) true) := fun os => run_mid (go2tf w os) (mid2 _ os) (by decide)
theorem run2ft (w : World) : P2 (wI (wG w true) false) := fun os => run_mid (go2ft w os) (mid2 _ os) (by decide)
theorem run2tt (w : World) : P2 (wI (wG w true) true) := fun os => run_mid (go2tt w os) (mid2 _ os) (by decide)
theorem run2 (w : World) : P2 w :=
  byRow2 rowI (fun w => byRow2 rowG (P := fun w => P2 (wI w false)) run2ff run2ft w) (fun w => byRow2 rowG (P := fun w => P2 (wI w true)) run2tf run2tt w) w
theorem runM (w : World) : PM w := byRow2 rowG (fun w os => run_mid (goMf w os) (midM _ os) (by decide)) (fun w os => run_mid (goMt w os) (midM _ os) (by decide)) w
theorem runN (w : World) : PN w := byRow2 rowG (fun w os => run_mid (goNf w os) (midN _ os) (by decide)) (fun w os => run_mid (goNt w os) (midN _ os) (by decide)) w
theorem runF (w : World) : PF w := byRow2 rowG (fun w os => run_mid (goFf w os) (midF _ os) (by decide)) (fun w os => run_mid (goFt w os) (midF _ os) (by decide)) w
noncomputable def HA (P : Params) : Heap := absHeap (treeA pg P) 11 {}
noncomputable def HF (P : Params) : Heap := absHeap (treeF pg P) 116 {}
theorem openH (w : World) : (fencedOpening treeTable pg w 40000).map (fun s => (s.heap, s.gens, s.drawn, s.toks)) = some (HA w.params, #[], {}, 181) := by
  unfold fencedOpening
  rw [PySem.W.Fast.te10274390034422433532, PySem.W.Fast.te14364793385576792824, PySem.W.Fast.te1435165496053646825, PySem.W.Fast.te14289696077712309145]
  kernel_rfl
theorem sizeH (w : World) : ((HA w.params).isNs mainGlobals && (#[] : Array GenState).size == 0, (HA w.params).objs.size, (HA w.params).nsMap mainGlobals "__annotations__") = (true, 11, some (.ref 6)) := by kernel_rfl
theorem preH (w : World) (os : OsState) : topGo treeTable pg w 11 (some (.ref 6)) 12 ⟨HA w.params, #[], {}, 181, os⟩ (topStub pg) = some ((stB pg w os).abs, ⟨denote treeTable (cH pg), cH pg, pos0, [topFrame pos0]⟩) := by
  rw [PySem.W.Fast.te15667345088766844465, PySem.W.Fast.te14364793385576792824, PySem.W.Fast.te11892475500146522536]
  kernel_rfl
theorem blockH (w : World) (os : OsState) : segRun treeTable pg w 11 (some (.ref 6)) 1 1 (stB pg w os).abs (blockOf (behindTheImports pg) (envH pg) (cH pg) pos0 [topFrame pos0]) = some (.next, (stB pg w os).abs, cH pg, pos0) := by
  rw [PySem.W.Fast.te14374325043358763698, PySem.W.Fast.te14364793385576792824]
  kernel_rfl
theorem finH (w : World) (os : OsState) : topRun treeTable pg w 11 (some (.ref 6)) 5 (stF pg w os).abs (restOf [] (envH pg) (cH pg) pos3 [topFrame pos0]) = some ⟨HF w.params, #[], {}, 1847, os⟩ := by
  rw [PySem.W.Fast.te14082659384304107361, PySem.W.Fast.te14364793385576792824]
  kernel_rfl
theorem bodyH : behindTheImports pg = sts1 pg ++ (sts2 pg ++ (stsM pg ++ (stsN pg ++ (stsF pg ++ [])))) := by kernel_rfl
theorem restH (w : World) (os : OsState) : topRun treeTable pg w 11 (some (.ref 6)) (115 + (9600 + (3300 + (4450 + (400 + 5))))) (stB pg w os).abs (restOf (behindTheImports pg) (envH pg) (cH pg) pos0 [topFrame pos0]) = some ⟨HF w.params, #[], {}, 1847, os⟩ := by
  rw [bodyH]
  exact piece_app (run1 w os) (piece_app (run2 w os) (piece_app (runM w os) (piece_app (runN w os) (piece_app (runF w os) (finH w os)))))
theorem runH (w : World) (os : OsState) : topRun treeTable pg w 11 (some (.ref 6)) (12 + (1 + (115 + (9600 + (3300 + (4450 + (400 + 5))))))) ⟨HA w.params, #[], {}, 181, os⟩ (topStub pg) = some ⟨HF w.params, #[], {}, 1847, os⟩ :=
  go_top (preH w os) (piece_block (blockH w os) (restH w os))
noncomputable def qH : Program := view pg [1, 2, 3, 4, 5, 6, 7, 8, 9, 10, 11, 12, 13, 18, 19, 20, 26, 27, 28, 29, 30]
noncomputable def looseH : List Str := [Str.ofString "_QUOPRI_MAP", Str.ofString "_QUOPRI_HEADER_MAP", Str.ofString "_QUOPRI_BODY_MAP", Str.ofString "ascii_letters", Str.ofString "hexdigits", Str.ofString "_QUOPRI_BODY_ENCODE_MAP", Str.ofString "body_encode", Str.ofString "decode"]
noncomputable def lvH : List (Str × WData) := [(Str.ofString "ascii_letters", .str (Str.ofString "abcdefghijklmnopqrstuvwxyzABCDEFGHIJKLMNOPQRSTUVWXYZ")), (Str.ofString "hexdigits", .str (Str.ofString "0123456789abcdefABCDEF"))]
theorem looks1 (w : World) (os : OsState) : (staticsOk (importedModules pg.main.body) (HA w.params) (HF w.params) && namesBound pg (HF w.params) && gensDone ⟨HF w.params, #[], {}, 1847, os⟩ && laidKept (HA w.params) (HF w.params)) = true := by kernel_rfl
noncomputable abbrev XtH (R : WRecords) : Shared → Bool := fun s => xlAt qH lvH s && recOk R s
theorem looks2 (w : World) (os : OsState) : openSeen qH looseH (importedModules pg.main.body) (XtH []) true ⟨HF w.params, #[], {}, 1847, os⟩ = openGood qH looseH := by
  rw [PySem.W.Fast.te4187177175401517315]
  kernel_rfl
theorem leftH {α : Type} (Yf : Shared → α) (Ya : World → α) (hy : ∀ w os, Yf ⟨HF w.params, #[], {}, 1847, os⟩ = Ya w) : LeftO pg qH looseH (XtH []) Yf Ya 40000 :=
  LeftO.of_pieces (H₀ := HA) (H₁ := HF) openH sizeH runH (by decide) (fun w => funext fun os => by rw [looks1, looks2, hy])
set_option hygiene false in
local macro_rules | `(tactic| o_head $H) => `(tactic| refine holds_open (q := qH) (loose := looseH) (Xt := XtH []) (XP := XL qH lvH) (Yf := Hook.obs $H) (Ya := Hook.val $H) (YP := Hook.says $H) (N := 40000) (leftH _ _ (fun w os => by kernel_rfl)) (Hook.of $H) (Hook.keeps $H) (fun s e => xl_of s (Bool.and_eq_true_iff.mp e).1) XL.keeps (by rfl) (by rfl) (by rfl) (fun s e => recFacts_of (Bool.and_eq_true_iff.mp e).2) (by rfl) (by first | assumption | decide +kernel) (by decide +kernel) ⟨rfl, rfl, rfl, rfl, rfl, by decide +kernel⟩ ?hw ?hc)
theorem law_ok : OpenLaw.wellSaid PySem.Challenge.rw_re0097_01 = true := by kernel_rfl
local macro_rules | `(tactic| o_law) => `(tactic| refine holds_law law_ok fun said => ?_)
open_top hd for PySem.Challenge.rw_re0097_01
end Mine
end
section
open PySem PySem.W PySem.Calls PyProof.Rows
set_option Elab.async false
set_option maxRecDepth 100000
set_option linter.unusedVariables false
namespace Mine
noncomputable abbrev Ext (h h' : Heap) : Prop := ∀ b o, h.get? b = some o → h'.get? b = some o
noncomputable abbrev TopH (mean : ExcName → Option Value) (mg mb : Str → Option Value) (h : Heap) : Prop := Top qH (looseW qH looseH) mean mg mb h
noncomputable abbrev No : Value → Shared → Prop := fun _ _ => False
/-- no flow leaves the loop but its turns' ends -/
noncomputable abbrev NoF : Flow → Shared → Prop := fun _ _ => False
theorem invPost_of {h₀ : Heap} {L : Addr} {J : (Str → Option Value) → List (Addr × Obj) → Prop} {own : List (Addr × Obj)} {adr : List Addr} {s₁ : Shared} {Q : Flow → Shared → Prop} {f : Flow} {s₂ : Shared}
    (h : InvPostN h₀ L J own adr s₁ NoF f s₂) : InvPostN h₀ L J own adr s₁ Q f s₂ := by
  cases f with
  | next => exact h
  | cont => exact h
  | brk => exact h.elim
  | ret v => exact h.elim
/-- a name for what a turn must end in -/
structure PostIs (P R : Flow → Shared → Prop) : Prop where
  h : ∀ f s, R f s → P f s
theorem PostIs.use {P R : Flow → Shared → Prop} {f : Flow} {s : Shared} (h : PostIs P R) (r : R f s) : P f s := h.h f s r
theorem postIs {M : Model} {A : Around} {t : Sem Flow} {R : Flow → Shared → Prop} {E : Value → Shared → Prop} {s : Shared} (h : ∀ P : Flow → Shared → Prop, PostIs P R → wpAny M A t P E s) : wpAny M A t R E s := h R ⟨fun _ _ z => z⟩
theorem postIsW {M : Model} {A : Around} {t : Sem Bool} {u : Sem Flow} {R : Flow → Shared → Prop} {Z : Shared → Prop} {E : Value → Shared → Prop} {s : Shared}
    (h : ∀ P : Flow → Shared → Prop, PostIs P R → wpAny M A t (fun b s₂ => if b = true then wpAny M A u P E s₂ else Z s₂) E s) : wpAny M A t (fun b s₂ => if b = true then wpAny M A u R E s₂ else Z s₂) E s := h R ⟨fun _ _ z => z⟩
theorem step2_of {h₀ : Heap} {L : Addr} {s : Shared} {J : Nat → (Str → Option Value) → List (Addr × Obj) → Prop} {Q : Flow → Shared → Prop} {n : Nat} {f : Flow} {s₃ : Shared}
    (h : WhileStep2 h₀ L s J NoF n f s₃) : WhileStep2 h₀ L s J Q n f s₃ := by
  cases f with
  | next => exact h
  | cont => exact h
  | brk => exact h.elim
  | ret v => exact h.elim

theorem enter {w : World} {A : Around} {s : Shared} {Q : Value → Shared → Prop} {E : Value → Shared → Prop} {mean : ExcName → Option Value} {mg mb : Str → Option Value} {K : Frag}
    {name qual : Str} {params : Arguments} {body : List Stmt} {scope : Scope} {dV kV doc pm cdv ct oc : Value} {an od : Option Addr} {osl : Array (Option Value)} {f : Addr} {vs : List Value} {binds : List (Str × Value)}
    (X : K.In s.heap) (T : TopH mean mg mb s.heap) (hroom : A.depth < recursionLimit)
    (ho : K.lookup f = some ⟨oc, od, .func (fnOf name qual params body scope dV kV doc pm an cdv ct), osl⟩) (hcd : codeIn K cdv qual = true)
    (hbind : BindsTo s (fnOf name qual params body scope dV kV doc pm an cdv ct) ⟨vs, []⟩ binds) (hloc : ∀ y ∈ binds, scope.names.lookup y.1 = some .local)
    (h : ∀ h₁ tk, Fr s.heap s.heap.objs.size h₁ (fun y => binds.reverse.lookup y) → News s.heap s.heap.objs.size h₁ [] →
      wpAny (model pg w) (A.deeper (envOf qual scope s.heap.objs.size f cdv)) (execs body (envOf qual scope s.heap.objs.size f cdv))
        (fun fl s' => Q (match fl with | .ret v => v | _ => .none) s') No { s with heap := h₁, toks := tk })
    (hco : scope.isCoroutine = false) (hgen : scope.isGenerator = false) (hk : scope.kind = .function)
    (hcell : ∀ x ∈ scope.names, x.2 ≠ .cell) : wpAny (model pg w) A (call (.ref f) vs) Q E s := by
  refine wpAny_call (codeAny_call_def (fd := fnOf name qual params body scope dV kV doc pm an cdv ct) (body := body) (binds := binds) hroom (X _ _ ho) rfl T.nolimit (codeRec_of X hcd) rfl hbind hcell hloc (fun h₁ hns hk₁ => ?_) hco hgen hk)
  exact wpAny_mono (h h₁ _ ⟨hns, hk₁, Nat.le_refl _⟩ News.nil) (fun _ _ x => x) fun _ _ x => x.elim

/-! Maps of a frame's names. -/
theorem frAs {h₀ h : Heap} {L : Addr} {m m' : Str → Option Value} (F : Fr h₀ L h m) (e : ∀ y, m y = m' y) : Fr h₀ L h m' := (funext e : m = m') ▸ F
noncomputable def bmo (m₀ : Str → Option Value) : List (String × Option Value) → Str → Option Value
  | [] => m₀
  | p :: r => fun y => if y = Str.ofString p.1 then p.2 else bmo m₀ r y

section
variable {prog : Program} {w : World} {A : Around} {E : Value → Shared → Prop} {s : Shared} {env : Env} {h₀ : Heap} {x : Str} {body : List Stmt} {Q : Flow → Shared → Prop}

/-- A loop over a list that the call has made; the ledger that is kept does not hold that list. -/
theorem iterL {l : Addr} {vs : List Value} {nn : Nat} {m₀ : Str → Option Value} {news : List (Addr × Obj)} (J : Nat → (Str → Option Value) → List (Addr × Obj) → Prop)
    (hh : A.handled = none) (hl : s.heap.get? l = some (listOf vs.toArray nn)) (hL : l ≠ env.locals) (F : Fr h₀ env.locals s.heap m₀) (N : News h₀ env.locals s.heap news) (hnl : ∀ q ∈ news, q.1 ≠ l) (hj : J 0 m₀ news)
    (turn : ∀ i v m₁ news₁ h tk own, vs[i]? = some v → news₁.map (·.1) = news.map (·.1) → OwnOff own (news.map (·.1)) → J i m₁ news₁ → Fr h₀ env.locals h (fun y => if y = x then some v else m₁ y) → News h₀ env.locals h (news₁ ++ own) →
      wpAny (model prog w) A (execs body env) (InvPostN h₀ env.locals (J (i + 1)) own (news.map (·.1)) { s with heap := h, toks := tk } NoF) E { s with heap := h, toks := tk })
    (done : ∀ m₁ news₁ h tk, J vs.length m₁ news₁ → Fr h₀ env.locals h m₁ → News h₀ env.locals h news₁ → Q .next { s with heap := h, toks := tk }) :
    wpAny (model prog w) A (pyIter (.ref l)) (fun it s₂ => LoopAtV prog w A h₀ env x body Q E it s₂) E s := by
  have hls : s.heap.IsList l vs.toArray := ⟨_, hl, rfl, nn, rfl⟩
  have hlt : l < s.heap.objs.size := Heap.lt_size hl
  refine wpAny_pyIter_list hls ?_
  have W := Walks.list (prog := prog) (w := w) hh s.heap.objs.size l (Nat.ne_of_lt hlt) vs.toArray
  have hsz : vs.toArray.size = vs.length := by simp
  rw [hsz] at W
  refine loop_invN (s := { s with heap := _ }) J W ?_ ?_ ?_ ?_ ⟨⟨_, Heap.get?_push_size _ rfl, rfl, rfl⟩, hls.at fun o e => Heap.get?_push_of_some _ e⟩ (F.push _) (fun p hp => ⟨Heap.get?_push_of_some _ (N p hp).1, (N p hp).2⟩) hj ?_ done
  · intro hm
    rcases List.mem_cons.mp hm with e | hm
    · exact absurd F.ns.lt (e ▸ Nat.lt_irrefl _)
    · exact hL (List.mem_singleton.mp hm).symm
  · intro b hb
    rw [List.mem_singleton.mp hb]
    exact next_is_new F
  · intro p hp hI
    exact absurd (Heap.lt_size (N p hp).1) ((List.mem_singleton.mp hI) ▸ Nat.lt_irrefl _)
  · intro p hp hI
    rcases List.mem_cons.mp hI with e | hm
    · exact absurd (Heap.lt_size (N p hp).1) (e ▸ Nat.lt_irrefl _)
    · exact hnl p hp (List.mem_singleton.mp hm)
  · intro i v m₁ news₁ h tk own hi hP ha ho hJ F₁ N₁
    exact wpAny_mono (turn i v m₁ news₁ h tk own (by simpa using hP) ha ho hJ F₁ N₁) (fun _ _ z => invPost_of z) fun _ _ z => z

/-- A loop over range(a, b). -/
theorem iterR {r : Addr} {a₀ b₀ : Int} {t₀ u₀ v₀ : Tok} {n : Nat} {m₀ : Str → Option Value} {news : List (Addr × Obj)} (J : Nat → (Str → Option Value) → List (Addr × Obj) → Prop)
    (hh : A.handled = none) (hr : IsRange s.heap r a₀ b₀ 1 t₀ u₀ v₀) (hsmall : Builtin.Range.small a₀ b₀ 1 = true) (hn : Builtin.Range.rangeSize a₀ b₀ 1 = (n : Int)) (F : Fr h₀ env.locals s.heap m₀) (N : News h₀ env.locals s.heap news) (hj : J 0 m₀ news)
    (turn : ∀ (i : Nat) t m₁ news₁ h tk own, i < n → news₁.map (·.1) = news.map (·.1) → OwnOff own (news.map (·.1)) → J i m₁ news₁ → Fr h₀ env.locals h (fun y => if y = x then some (.int (a₀ + i) t) else m₁ y) → News h₀ env.locals h (news₁ ++ own) →
      wpAny (model prog w) A (execs body env) (InvPostN h₀ env.locals (J (i + 1)) own (news.map (·.1)) { s with heap := h, toks := tk } NoF) E { s with heap := h, toks := tk })
    (done : ∀ m₁ news₁ h tk, J n m₁ news₁ → Fr h₀ env.locals h m₁ → News h₀ env.locals h news₁ → Q .next { s with heap := h, toks := tk }) :
    wpAny (model prog w) A (pyIter (.ref r)) (fun it s₂ => LoopAtV prog w A h₀ env x body Q E it s₂) E s := by
  refine wpAny_pyIter_range hr hsmall ?_
  have W : Walks prog w A s.heap.objs.size [s.heap.objs.size] [s.heap.objs.size] n (fun i v => i < n ∧ ∃ t, v = .int (a₀ + i * 1) t)
      (fun i h => IsRangeIter h s.heap.objs.size (a₀ + (i : Nat) * 1) ((n : Int) - (i : Nat)) 1) := (Walks.range hh _ a₀ 1 n).bound
  refine loop_invN (s := { s with heap := _ }) J W ?_ ?_ ?_ ?_ (by show IsRangeIter _ _ _ _ _; rw [hn]; simpa using Heap.get?_push_size _ rfl) (F.push _) (fun p hp => ⟨Heap.get?_push_of_some _ (N p hp).1, (N p hp).2⟩) hj ?_ done
  · intro hm
    exact absurd F.ns.lt ((List.mem_singleton.mp hm) ▸ Nat.lt_irrefl _)
  · intro b hb
    rw [List.mem_singleton.mp hb]
    exact next_is_new F
  · intro p hp hI
    exact absurd (Heap.lt_size (N p hp).1) ((List.mem_singleton.mp hI) ▸ Nat.lt_irrefl _)
  · intro p hp hI
    exact absurd (Heap.lt_size (N p hp).1) ((List.mem_singleton.mp hI) ▸ Nat.lt_irrefl _)
  · rintro i v m₁ news₁ h tk own hi ⟨_, t, rfl⟩ ha ho hJ F₁ N₁
    have e1 : a₀ + (i : Int) * 1 = a₀ + (i : Int) := by omega
    rw [e1] at F₁
    exact wpAny_mono (turn i t m₁ news₁ h tk own hi ha ho hJ F₁ N₁) (fun _ _ z => invPost_of z) fun _ _ z => z
/-- a while loop that only its test ends -/
theorem While_S {test : Expr} {pos : Pos} {m : Str → Option Value} {news : List (Addr × Obj)} (J : Nat → (Str → Option Value) → List (Addr × Obj) → Prop) {n₀ : Nat}
    (F : Fr h₀ env.locals s.heap m) (N : News h₀ env.locals s.heap news) (hJ : J n₀ m news)
    (turn : ∀ n m₁ news₁ h₁ tk₁, Fr h₀ env.locals h₁ m₁ → News h₀ env.locals h₁ news₁ → J n m₁ news₁ →
      wpAny (model prog w) A (isTrue test env (eval test env)) (fun b s₂ =>
        if b = true then wpAny (model prog w) A (execs body env) (WhileStep2 h₀ env.locals s J NoF n) E s₂ else Q .next s₂) E { s with heap := h₁, toks := tk₁ })
    (hE : PassesOwn (model prog w) A env E := by passes_own) :
    wpAny (model prog w) A (exec (.While test body [] pos) env) Q E s :=
  While_inv2 J F N hJ (fun n m₁ news₁ h₁ tk₁ F₁ N₁ J₁ => wpAny_mono (turn n m₁ news₁ h₁ tk₁ F₁ N₁ J₁) (fun b s₂ z => by
    cases b with
    | false => exact z
    | true => exact wpAny_mono z (fun _ _ y => step2_of y) fun _ _ y => y) fun _ _ z => z) hE
end
end Mine
end
section
namespace Mine

/-! ## The plain law: definitions over lists of codes -/

noncomputable def ampL : List Nat := [38, 97, 109, 112, 59]
noncomputable def ltL : List Nat := [38, 108, 116, 59]
noncomputable def gtL : List Nat := [38, 103, 116, 59]
noncomputable def quotL : List Nat := [38, 113, 117, 111, 116, 59]
noncomputable def crD : List Nat := [38, 35, 49, 51, 59]
noncomputable def lfD : List Nat := [38, 35, 49, 48, 59]
noncomputable def tabD : List Nat := [38, 35, 48, 57, 59]
noncomputable def crX : List Nat := [38, 35, 120, 68, 59]
noncomputable def lfX : List Nat := [38, 35, 120, 65, 59]
noncomputable def tabX : List Nat := [38, 35, 120, 57, 59]

/-- The reference of a sign, or the sign. -/
noncomputable def esc (b : Bool) (c : Nat) : List Nat :=
  if c = 38 then ampL else if c = 60 then ltL else if c = 34 then quotL
  else if c = 9 then (if b then tabX else tabD) else if c = 10 then (if b then lfX else lfD) else if c = 13 then (if b then crX else crD)
  else if c = 62 then (if b then [62] else gtL) else [c]
noncomputable def escL (b : Bool) (l : List Nat) : List Nat := l.flatMap (esc b)

/-- The octets of a sign in the mail. -/
noncomputable def tr (c : Nat) : List Nat := if c = 61 then [61, 51, 68] else if c = 233 then [61, 69, 57] else [c]
noncomputable def trL (l : List Nat) : List Nat := l.flatMap tr

/-- Replacing a pattern, from left to right. -/
noncomputable def rep (p r : List Nat) (l : List Nat) : List Nat :=
  match l with
  | [] => []
  | c :: l => if p.isPrefixOf (c :: l) then r ++ rep p r (l.drop (p.length - 1)) else c :: rep p r l
termination_by l.length
decreasing_by all_goals simp_wf; (try omega)

theorem rep_nil (p r : List Nat) : rep p r [] = [] := by rw [rep]
theorem rep_cons (p r : List Nat) (c : Nat) (l : List Nat) : rep p r (c :: l) = if p.isPrefixOf (c :: l) then r ++ rep p r (l.drop (p.length - 1)) else c :: rep p r l := by rw [rep]

/-- The references read, in the order of the table; "&amp;" last. -/
noncomputable def unref (b : Bool) (l : List Nat) : List Nat :=
  if b then rep ampL [38] (rep crX [13] (rep lfX [10] (rep tabX [9] (rep quotL [34] (rep ltL [60] l)))))
  else rep ampL [38] (rep tabD [9] (rep lfD [10] (rep crD [13] (rep quotL [34] (rep gtL [62] (rep ltL [60] l))))))

/-! body_encode -/
/-- The rows of one line; each but the last ends in the sign of a soft break. -/
noncomputable def rowsOf (m : Nat) (fuel : Nat) (t : List Nat) : List (List Nat) :=
  match fuel with
  | 0 => [t]
  | fuel + 1 => if t.length ≤ m then [t]
    else if t[m - 3]? = some 61 then t.take (m - 2) :: rowsOf m fuel (t.drop (m - 3))
    else if t[m - 2]? = some 61 then t.take (m - 1) :: rowsOf m fuel (t.drop (m - 2))
    else (t.take (m - 1) ++ [61]) :: rowsOf m fuel (t.drop (m - 1))
/-- The last row, its last blank kept from harm. -/
noncomputable def lastRow (m : Nat) (r : List Nat) : List Nat :=
  if r.getLast? = some 32 then
    if r.length + 2 ≤ m then r.dropLast ++ [61, 50, 48]
    else if r.length + 1 = m then r ++ [61, 10]
    else r.dropLast ++ [61, 10, 61, 50, 48]
  else r
noncomputable def joinNl : List (List Nat) → List Nat
  | [] => []
  | [r] => r
  | r :: s :: l => r ++ 10 :: joinNl (s :: l)
noncomputable def finish (m : Nat) : List (List Nat) → List (List Nat)
  | [] => []
  | [r] => [lastRow m r]
  | r :: s :: l => r :: finish m (s :: l)
noncomputable def enc (m : Nat) (t : List Nat) : List Nat := if t = [] then [] else joinNl (finish m (rowsOf m t.length t))

/-! decode -/
/-- The lines of a text; `k` says which codes end a line. -/
noncomputable def linesL (k : Nat → Bool) : List Nat → List (List Nat)
  | [] => []
  | c :: l => if k c then (match l with
      | d :: l' => if c = 13 ∧ d = 10 then [] :: linesL k l' else [] :: linesL k (d :: l')
      | [] => [[]])
    else match linesL k l with
      | [] => [[c]]
      | r :: rs => (c :: r) :: rs
noncomputable def rstripL (p : Nat → Bool) (l : List Nat) : List Nat := (l.reverse.dropWhile p).reverse
noncomputable def isHex (c : Nat) : Bool := (48 ≤ c && c ≤ 57) || (97 ≤ c && c ≤ 102) || (65 ≤ c && c ≤ 70)
noncomputable def hexVal (c : Nat) : Nat := if c ≤ 57 then c - 48 else if c ≤ 70 then c - 55 else c - 87
/-- One line that is not empty: the loop of decode, with what it adds at the line's end. -/
noncomputable def dc : List Nat → List Nat
  | [] => [10]
  | [c] => if c = 61 then [] else [c, 10]
  | [c, d] => c :: dc [d]
  | c :: d :: e :: l => if c = 61 then (if isHex d && isHex e then (16 * hexVal d + hexVal e) :: dc l else c :: dc (d :: e :: l)) else c :: dc (d :: e :: l)
noncomputable def decLine (sp : Nat → Bool) (l : List Nat) : List Nat := if rstripL sp l = [] then [10] else dc (rstripL sp l)
noncomputable def decBody (k sp : Nat → Bool) (x : List Nat) : List Nat := (linesL k x).flatMap (decLine sp)
noncomputable def decG (k sp : Nat → Bool) (x : List Nat) : List Nat :=
  if x = [] then [] else if (x.getLast? ≠ some 10 ∧ x.getLast? ≠ some 13) ∧ (decBody k sp x).getLast? = some 10 then (decBody k sp x).dropLast else decBody k sp x

/-! the law's own reckoning -/
noncomputable def sz (c : Nat) : Int := if 32 ≤ c ∧ c ≤ 126 ∧ c ≠ 61 then 1 else 3
noncomputable def sumI : List Int → Int
  | [] => 0
  | a :: l => a + sumI l
noncomputable def rowsGo (m : Int) : List Int → Int → Int → Int → Bool → List Int
  | [], _, _, _, _ => []
  | s :: l, row, room, left, rest =>
    if rest = false ∧ room < s then (row + 1) :: rowsGo m l (row + 1) (m - 1 - s) (left - s) (decide (left ≤ m))
    else row :: rowsGo m l row (room - s) (left - s) rest
noncomputable def lawRows (m : Int) (W : List Nat) : List Int := rowsGo m (W.map sz) 0 (m - 1) (sumI (W.map sz)) (decide (sumI (W.map sz) ≤ m))

/-- one more piece at the end of the row number r -/
noncomputable def addAt (lines : List (List Nat)) (r : Nat) (p : List Nat) : List (List Nat) := lines.set r (lines.getD r [] ++ p)
noncomputable def addEach : List (List Nat) → List (Nat × Int) → List (List Nat)
  | lines, [] => lines
  | lines, (c, r) :: l => addEach (addAt lines r.toNat [c]) l
noncomputable def layOne (lines : List (List Nat)) (c : Nat) (piece : List Nat) (places : List Int) : List (List Nat) :=
  if places.head? = places.getLast? then addAt lines (places.headD 0).toNat [c] else addEach lines (piece.zip places)
noncomputable def layGo (b : Bool) : List (List Nat) → List Nat → List Int → List (List Nat)
  | lines, [], _ => lines
  | lines, c :: text, rows => layGo b (layOne lines c (esc b c) (rows.take (esc b c).length)) text (rows.drop (esc b c).length)
noncomputable def maxI : Int → List Int → Int
  | a, [] => a
  | a, c :: l => maxI (if a < c then c else a) l
/-- split at line feeds -/
noncomputable def splitNl : List Nat → List (List Nat)
  | [] => [[]]
  | c :: l => if c = 10 then [] :: splitNl l else match splitNl l with
    | [] => [[c]]
    | r :: rs => (c :: r) :: rs
noncomputable def bt (c : Nat) : Bool := c == 32 || c == 9
noncomputable def partsOf (line : List Nat) : List (List Nat) := splitNl (rep [13] [10] (rep [13, 10] [10] line))
noncomputable def dueLine (keep : Bool) (line : List Nat) : List Nat :=
  (partsOf line).dropLast.flatMap (fun p => rstripL bt p ++ [10]) ++ (if keep then (partsOf line).getLastD [] else rstripL bt ((partsOf line).getLastD []))
noncomputable def dueGo (blank : Bool) : List (List Nat) → List Nat
  | [] => []
  | [l] => dueLine blank l
  | l :: l' :: ls => dueLine true l ++ dueGo blank (l' :: ls)
noncomputable def linesAt (b : Bool) (m : Int) (text : List Nat) : List (List Nat) :=
  layGo b (List.replicate ((maxI 0 (lawRows m (escL b text))).toNat + 1) []) text (lawRows m (escL b text))
noncomputable def due (b : Bool) (m : Int) (text : List Nat) : List Nat := dueGo (decide (text.getLast? = some 32)) (linesAt b m text)

/-- the signs of the law's texts -/
noncomputable def sign (c : Nat) : Bool := [97, 32, 9, 10, 13, 38, 60, 62, 34, 61, 108, 116, 59, 233].contains c
end Mine
end
section
namespace Mine

/-! ## Streams: signs, soft breaks, and the quoted blank -/
inductive Sy where
  | ch (c : Nat)
  | br
  | bl
  deriving DecidableEq

noncomputable def Sy.ren : Sy → List Nat
  | .ch c => tr c
  | .br => [61, 10]
  | .bl => [61, 50, 48]
noncomputable def ren (l : List Sy) : List Nat := l.flatMap Sy.ren
theorem ren_nil : ren [] = [] := rfl
theorem ren_cons (a : Sy) (l : List Sy) : ren (a :: l) = a.ren ++ ren l := by simp [ren]
theorem ren_append (a b : List Sy) : ren (a ++ b) = ren a ++ ren b := by simp [ren]
theorem trL_nil : trL [] = [] := rfl
theorem trL_cons (c : Nat) (l : List Nat) : trL (c :: l) = tr c ++ trL l := by simp [trL]
theorem trL_append (a b : List Nat) : trL (a ++ b) = trL a ++ trL b := by simp [trL]
theorem ren_ch (l : List Nat) : ren (l.map Sy.ch) = trL l := by
  induction l with
  | nil => rfl
  | cons c l ih => rw [List.map_cons, ren_cons, trL_cons, ih]; rfl

/-- patterns: start with &, all signs stand for themselves, no further & -/
noncomputable def Pat (p : List Nat) : Prop := ∃ q, p = 38 :: q ∧ ∀ c ∈ q, c ≠ 61 ∧ c ≠ 233 ∧ c ≠ 38
theorem tr_self {c : Nat} (h1 : c ≠ 61) (h2 : c ≠ 233) : tr c = [c] := by simp [tr, h1, h2]

noncomputable def repS (p : List Nat) (s : Nat) (l : List Sy) : List Sy :=
  match l with
  | [] => []
  | c :: l => if (p.map Sy.ch).isPrefixOf (c :: l) then .ch s :: repS p s (l.drop (p.length - 1)) else c :: repS p s l
termination_by l.length
decreasing_by all_goals simp_wf; (try omega)
theorem repS_nil (p : List Nat) (s : Nat) : repS p s [] = [] := by rw [repS]
theorem repS_cons (p : List Nat) (s : Nat) (c : Sy) (l : List Sy) : repS p s (c :: l) = if (p.map Sy.ch).isPrefixOf (c :: l) then .ch s :: repS p s (l.drop (p.length - 1)) else c :: repS p s l := by rw [repS]

theorem ch_beq (a c : Nat) : (Sy.ch a == Sy.ch c) = (a == c) := by
  by_cases h : a = c
  · subst h; simp
  · have h1 : (a == c) = false := by simpa using h
    rw [h1, beq_eq_false_iff_ne]
    intro e
    exact h (Sy.ch.inj e)
theorem ch_br (a : Nat) : (Sy.ch a == Sy.br) = false := by rw [beq_eq_false_iff_ne]; intro e; cases e
theorem ch_bl (a : Nat) : (Sy.ch a == Sy.bl) = false := by rw [beq_eq_false_iff_ne]; intro e; cases e
theorem nb {a c : Nat} (h : a ≠ c) : (a == c) = false := by simpa using h
theorem prefix_ren : ∀ (p : List Nat) (l : List Sy), (∀ c ∈ p, c ≠ 61 ∧ c ≠ 233) → p.isPrefixOf (ren l) = (p.map Sy.ch).isPrefixOf l
  | [], _, _ => by simp
  | a :: p, [], _ => by simp [ren]
  | a :: p, .br :: l, h => by
    have h1 := (h a (by simp)).1
    rw [ren_cons]
    show (a :: p).isPrefixOf (61 :: 10 :: ren l) = (Sy.ch a :: p.map Sy.ch).isPrefixOf (Sy.br :: l)
    rw [List.isPrefixOf, List.isPrefixOf, nb h1, ch_br]; rfl
  | a :: p, .bl :: l, h => by
    have h1 := (h a (by simp)).1
    rw [ren_cons]
    show (a :: p).isPrefixOf (61 :: 50 :: 48 :: ren l) = (Sy.ch a :: p.map Sy.ch).isPrefixOf (Sy.bl :: l)
    rw [List.isPrefixOf, List.isPrefixOf, nb h1, ch_bl]; rfl
  | a :: p, .ch c :: l, h => by
    have h1 := h a (by simp)
    have ih := prefix_ren p l (fun c hc => h c (List.mem_cons_of_mem _ hc))
    rw [ren_cons]
    show (a :: p).isPrefixOf (tr c ++ ren l) = (Sy.ch a :: p.map Sy.ch).isPrefixOf (Sy.ch c :: l)
    by_cases h61 : c = 61
    · subst h61
      show (a :: p).isPrefixOf (61 :: 51 :: 68 :: ren l) = _
      rw [List.isPrefixOf, List.isPrefixOf, ch_beq, nb h1.1]; rfl
    · by_cases h233 : c = 233
      · subst h233
        show (a :: p).isPrefixOf (61 :: 69 :: 57 :: ren l) = _
        rw [List.isPrefixOf, List.isPrefixOf, ch_beq, nb h1.1, nb h1.2]; rfl
      · rw [tr_self h61 h233]
        show (a :: p).isPrefixOf (c :: ren l) = _
        rw [List.isPrefixOf, List.isPrefixOf, ch_beq, ih]

theorem Pat.selfs {p : List Nat} (h : Pat p) : ∀ c ∈ p, c ≠ 61 ∧ c ≠ 233 := by
  obtain ⟨q, rfl, hq⟩ := h
  intro c hc
  rcases List.mem_cons.mp hc with rfl | hc
  · exact ⟨by decide, by decide⟩
  · exact ⟨(hq c hc).1, (hq c hc).2.1⟩
theorem trL_self : ∀ {p : List Nat}, (∀ c ∈ p, c ≠ 61 ∧ c ≠ 233) → trL p = p
  | [], _ => rfl
  | a :: p, h => by
    rw [trL_cons, tr_self (h a (by simp)).1 (h a (by simp)).2, trL_self (fun c hc => h c (List.mem_cons_of_mem _ hc))]
    rfl
theorem rep_skip {p r : List Nat} (hp : Pat p) {c : Nat} (hc : c ≠ 38) (l : List Nat) : rep p r (c :: l) = c :: rep p r l := by
  obtain ⟨q, rfl, _⟩ := hp
  rw [rep_cons, if_neg]
  simp [List.isPrefixOf, Ne.symm hc]
theorem rep_skips {p r : List Nat} (hp : Pat p) : ∀ (a : List Nat) (l : List Nat), (∀ c ∈ a, c ≠ 38) → rep p r (a ++ l) = a ++ rep p r l
  | [], _, _ => rfl
  | c :: a, l, h => by
    rw [List.cons_append, rep_skip hp (h c (by simp)), rep_skips hp a l (fun c hc => h c (List.mem_cons_of_mem _ hc))]
    rfl

theorem tr_no38 {c : Nat} (h : c ≠ 38) : ∀ d ∈ tr c, d ≠ 38 := by
  unfold tr
  split
  · decide
  · split
    · decide
    · simpa using h

theorem rep_ren {p : List Nat} (hp : Pat p) {s : Nat} (hs : tr s = [s]) : ∀ (n : Nat) (l : List Sy), l.length ≤ n → rep p [s] (ren l) = ren (repS p s l)
  | _, [], _ => by rw [repS_nil]; show rep p [s] [] = []; rw [rep_nil]
  | 0, _ :: _, h => by simp at h
  | n + 1, a :: l, h => by
    have hl : l.length ≤ n := by simpa using h
    have hpre := prefix_ren p (a :: l) hp.selfs
    rw [repS_cons]
    by_cases hm : (p.map Sy.ch).isPrefixOf (a :: l) = true
    · rw [if_pos hm]
      obtain ⟨q, rfl, hq⟩ := id hp
      obtain ⟨t, ht⟩ := List.isPrefixOf_iff_prefix.mp hm
      have ha : a = .ch 38 ∧ q.map Sy.ch ++ t = l := by simpa [eq_comm] using ht
      obtain ⟨rfl, rfl⟩ := ha
      have e1 : ren (Sy.ch 38 :: (q.map Sy.ch ++ t)) = 38 :: (q ++ ren t) := by
        rw [ren_cons, ren_append, ren_ch, trL_self (fun c hc => ⟨(hq c hc).1, (hq c hc).2.1⟩)]
        rfl
      have hpp : (38 :: q).isPrefixOf (38 :: (q ++ ren t)) = true := by
        rw [List.isPrefixOf_iff_prefix]
        exact ⟨ren t, by simp⟩
      rw [e1, rep_cons, if_pos hpp]
      have e2 : (q ++ ren t).drop ((38 :: q).length - 1) = ren t := by simp
      have e3 : (q.map Sy.ch ++ t).drop ((38 :: q).length - 1) = t := by
        have : ((38 :: q).length - 1) = (q.map Sy.ch).length := by simp
        rw [this]; simp
      rw [e2, e3, rep_ren hp hs n t (by simp at hl; omega), ren_cons]
      show [s] ++ _ = tr s ++ _
      rw [hs]
    · rw [if_neg hm]
      have ih := rep_ren hp hs n l hl
      rw [ren_cons, ren_cons]
      cases a with
      | br =>
        show rep p [s] ([61, 10] ++ ren l) = [61, 10] ++ _
        rw [rep_skips hp _ _ (by decide), ih]
      | bl =>
        show rep p [s] ([61, 50, 48] ++ ren l) = [61, 50, 48] ++ _
        rw [rep_skips hp _ _ (by decide), ih]
      | ch c =>
        show rep p [s] (tr c ++ ren l) = tr c ++ _
        by_cases hc : c = 38
        · subst hc
          have e : tr 38 = [38] := by decide
          have hn : ¬ p.isPrefixOf (38 :: ren l) = true := by
            rw [ren_cons] at hpre
            have : Sy.ren (.ch 38) ++ ren l = 38 :: ren l := by show tr 38 ++ _ = _; rw [e]; rfl
            rw [this] at hpre
            rw [hpre]; exact hm
          rw [e]
          show rep p [s] (38 :: ren l) = 38 :: ren _
          rw [rep_cons, if_neg hn, ih]
        · rw [rep_skips hp _ _ (tr_no38 hc), ih]

noncomputable def unS (b : Bool) (l : List Sy) : List Sy :=
  if b then repS ampL 38 (repS crX 13 (repS lfX 10 (repS tabX 9 (repS quotL 34 (repS ltL 60 l)))))
  else repS ampL 38 (repS tabD 9 (repS lfD 10 (repS crD 13 (repS quotL 34 (repS gtL 62 (repS ltL 60 l))))))

theorem pat_of {p : List Nat} (h : (match p with | c :: q => c == 38 && q.all (fun c => c != 61 && c != 233 && c != 38) | [] => false) = true) : Pat p := by
  cases p with
  | nil => simp at h
  | cons c q =>
    simp only [Bool.and_eq_true, beq_iff_eq, List.all_eq_true, bne_iff_ne] at h
    exact ⟨q, by rw [h.1], fun c hc => ⟨(h.2 c hc).1.1, (h.2 c hc).1.2, (h.2 c hc).2⟩⟩
theorem pat_amp : Pat ampL := pat_of (by decide)
theorem pat_lt : Pat ltL := pat_of (by decide)
theorem pat_gt : Pat gtL := pat_of (by decide)
theorem pat_quot : Pat quotL := pat_of (by decide)
theorem pat_crD : Pat crD := pat_of (by decide)
theorem pat_lfD : Pat lfD := pat_of (by decide)
theorem pat_tabD : Pat tabD := pat_of (by decide)
theorem pat_crX : Pat crX := pat_of (by decide)
theorem pat_lfX : Pat lfX := pat_of (by decide)
theorem pat_tabX : Pat tabX := pat_of (by decide)

theorem unref_ren (b : Bool) (l : List Sy) : unref b (ren l) = ren (unS b l) := by
  have r : ∀ {p : List Nat} (_ : Pat p) {s : Nat} (_ : tr s = [s]) (l : List Sy), rep p [s] (ren l) = ren (repS p s l) := fun {_} hp {_} hs l => rep_ren hp hs l.length l (Nat.le_refl _)
  cases b
  · simp only [unref, unS, Bool.false_eq_true, if_false]
    rw [r pat_lt (by decide), r pat_gt (by decide), r pat_quot (by decide), r pat_crD (by decide), r pat_lfD (by decide), r pat_tabD (by decide), r pat_amp (by decide)]
  · simp only [unref, unS, if_true]
    rw [r pat_lt (by decide), r pat_quot (by decide), r pat_tabX (by decide), r pat_lfX (by decide), r pat_crX (by decide), r pat_amp (by decide)]
end Mine
end
section
set_option linter.unusedVariables false
namespace Mine

/-! ## A text's signs along the rows -/
noncomputable def strm (prev : Int) : List (Nat × Int) → List Sy
  | [] => []
  | (c, r) :: l => if r = prev then .ch c :: strm prev l else .br :: .ch c :: strm r l
noncomputable def Lab : Int → List Int → Prop
  | _, [] => True
  | p, r :: l => (r = p ∨ r = p + 1) ∧ Lab r l
noncomputable def lastL : Int → List Int → Int
  | p, [] => p
  | _, r :: l => lastL r l
theorem lastL_append : ∀ (p : Int) (a b : List Int), lastL p (a ++ b) = lastL (lastL p a) b
  | _, [], _ => rfl
  | _, r :: a, b => lastL_append r a b
theorem lab_append : ∀ {p : Int} {a b : List Int}, Lab p (a ++ b) → Lab p a ∧ Lab (lastL p a) b
  | _, [], _, h => ⟨trivial, h⟩
  | _, r :: a, b, h => ⟨⟨h.1, (lab_append h.2).1⟩, (lab_append (p := r) h.2).2⟩
theorem lab_ge : ∀ {p : Int} {a : List Int}, Lab p a → p ≤ lastL p a
  | _, [], _ => Int.le_refl _
  | p, r :: a, h => by have := lab_ge h.2; show p ≤ lastL r a; rcases h.1 with h1 | h1 <;> omega
theorem strm_append : ∀ (p : Int) (a b : List (Nat × Int)), strm p (a ++ b) = strm p a ++ strm (lastL p (a.map (·.2))) b
  | _, [], _ => rfl
  | p, (c, r) :: a, b => by
    by_cases h : r = p
    · subst h
      simp only [List.cons_append, strm, if_true, List.map_cons, lastL]
      rw [strm_append r a b]
    · simp only [List.cons_append, strm, if_neg h, List.map_cons, lastL]
      rw [strm_append r a b]

theorem repS_skip {p : List Nat} {s : Nat} (hp : Pat p) {a : Sy} (ha : a ≠ .ch 38) (l : List Sy) : repS p s (a :: l) = a :: repS p s l := by
  obtain ⟨q, rfl, _⟩ := hp
  rw [repS_cons, if_neg]
  have : (Sy.ch 38 == a) = false := by rw [beq_eq_false_iff_ne]; exact Ne.symm ha
  rw [List.map_cons, List.isPrefixOf, this]
  simp
theorem repS_skips {p : List Nat} {s : Nat} (hp : Pat p) : ∀ (a : List Sy) (l : List Sy), (∀ c ∈ a, c ≠ .ch 38) → repS p s (a ++ l) = a ++ repS p s l
  | [], _, _ => rfl
  | c :: a, l, h => by
    rw [List.cons_append, repS_skip hp (h c (by simp)), repS_skips hp a l (fun c hc => h c (List.mem_cons_of_mem _ hc))]
    rfl
theorem no38_ch {q : List Nat} (h : ∀ c ∈ q, c ≠ 38) : ∀ a ∈ q.map Sy.ch, a ≠ .ch 38 := by
  intro a ha e
  obtain ⟨c, hc, rfl⟩ := List.mem_map.mp ha
  exact h c hc (Sy.ch.inj e)
/-- the pattern itself -/
theorem repS_same {p : List Nat} {s : Nat} (hp : Pat p) (l : List Sy) : repS p s (p.map Sy.ch ++ l) = .ch s :: repS p s l := by
  obtain ⟨q, rfl, hq⟩ := hp
  rw [List.map_cons, List.cons_append, repS_cons, if_pos]
  · have e3 : (q.map Sy.ch ++ l).drop ((38 :: q).length - 1) = l := by
      have : ((38 :: q).length - 1) = (q.map Sy.ch).length := by simp
      rw [this]; simp
    rw [e3]
  · rw [List.isPrefixOf_iff_prefix]
    exact ⟨l, by simp⟩
/-- another reference, whole -/
theorem repS_other {p r : List Nat} {s : Nat} (hp : Pat p) (hr : Pat r) (l : List Sy) (hn : (p.map Sy.ch).isPrefixOf (r.map Sy.ch ++ l) = false) : repS p s (r.map Sy.ch ++ l) = r.map Sy.ch ++ repS p s l := by
  obtain ⟨q, rfl, hq⟩ := hr
  rw [List.map_cons, List.cons_append] at hn ⊢
  rw [repS_cons, if_neg (by rw [hn]; exact Bool.false_ne_true), repS_skips hp _ _ (no38_ch fun c hc => (hq c hc).2.2)]
  rfl

noncomputable def AllEq (r : Int) (l : List Int) : Prop := ∀ x ∈ l, x = r
theorem torn_no : ∀ {q p : List Nat} {r : Int} {ρ : List Int} (X : List Sy), p.length = ρ.length → ¬ AllEq r ρ → ¬ q <+: p.dropLast → (q.map Sy.ch).isPrefixOf (strm r (p.zip ρ) ++ X) = false
  | q, [], r, [], X, _, h, _ => absurd (fun x hx => by simp at hx) h
  | q, a :: p, r, [], X, hl, _, _ => by simp at hl
  | q, [], r, _ :: _, X, hl, _, _ => by simp at hl
  | [], a :: p, r, r' :: ρ, X, hl, h, hn => absurd (List.nil_prefix) hn
  | x :: q, a :: p, r, r' :: ρ, X, hl, h, hn => by
    by_cases hr : r' = r
    · subst hr
      have h' : ¬ AllEq r' ρ := fun hh => h fun y hy => by
        rcases List.mem_cons.mp hy with rfl | hy
        · rfl
        · exact hh y hy
      have hl' : p.length = ρ.length := by simpa using hl
      have hp : p ≠ [] := by
        rintro rfl
        have : ρ = [] := by simpa using hl'.symm
        subst this
        exact h' fun y hy => by simp at hy
      simp only [List.zip_cons_cons, strm, if_true, List.map_cons, List.cons_append, List.isPrefixOf, ch_beq]
      by_cases hx : x = a
      · subst hx
        rw [torn_no X hl' h' (fun hh => hn ?_)]
        · simp
        · obtain ⟨b, p', rfl⟩ := List.exists_cons_of_ne_nil hp
          rw [List.dropLast_cons_cons]
          exact List.cons_prefix_cons.mpr ⟨rfl, hh⟩
      · rw [nb hx]; rfl
    · simp only [List.zip_cons_cons, strm, if_neg hr, List.map_cons, List.cons_append, List.isPrefixOf, ch_br]
      rfl
theorem strm_no38 : ∀ {p : List Nat} {r : Int} {ρ : List Int}, (∀ c ∈ p, c ≠ 38) → ∀ a ∈ strm r (p.zip ρ), a ≠ .ch 38
  | [], _, _, _, a, ha => by simp [strm] at ha
  | _ :: _, _, [], _, a, ha => by simp [strm] at ha
  | c :: p, r, r' :: ρ, h, a, ha => by
    have hc : c ≠ 38 := h c (by simp)
    have hp : ∀ c ∈ p, c ≠ 38 := fun c hc => h c (List.mem_cons_of_mem _ hc)
    by_cases hr : r' = r
    · subst hr
      simp only [List.zip_cons_cons, strm, if_true, List.mem_cons] at ha
      rcases ha with rfl | ha
      · intro e; exact hc (Sy.ch.inj e)
      · exact strm_no38 hp a ha
    · simp only [List.zip_cons_cons, strm, if_neg hr, List.mem_cons] at ha
      rcases ha with rfl | rfl | ha
      · intro e; cases e
      · intro e; exact hc (Sy.ch.inj e)
      · exact strm_no38 hp a ha
/-- a torn reference -/
theorem repS_torn {p r : List Nat} {s : Nat} (hp : Pat p) (hr : Pat r) {prev t : Int} {ρ : List Int} (l : List Sy) (hl : r.length = ρ.length + 1) (ht : ¬ AllEq t ρ) (hn : ¬ p.tail <+: r.tail.dropLast) :
    repS p s (strm prev (r.zip (t :: ρ)) ++ l) = strm prev (r.zip (t :: ρ)) ++ repS p s l := by
  obtain ⟨q, rfl, hq⟩ := hr
  obtain ⟨q', rfl, hq'⟩ := id hp
  have hl' : q.length = ρ.length := by simpa using hl
  have key : repS (38 :: q') s (.ch 38 :: (strm t (q.zip ρ) ++ l)) = .ch 38 :: (strm t (q.zip ρ) ++ repS (38 :: q') s l) := by
    rw [repS_cons, if_neg, repS_skips hp _ _ (strm_no38 fun c hc => (hq c hc).2.2)]
    have hn' : ¬ q' <+: q.dropLast := hn
    rw [List.map_cons, List.isPrefixOf, torn_no l hl' ht hn']
    simp
  by_cases h : t = prev
  · subst h
    simp only [List.zip_cons_cons, strm, if_true, List.cons_append]
    exact key
  · simp only [List.zip_cons_cons, strm, if_neg h, List.cons_append]
    rw [repS_skip hp (by intro e; cases e), key]

/-! the signs that have a reference -/
noncomputable def isRef (b : Bool) (c : Nat) : Bool := c == 38 || c == 60 || c == 34 || c == 9 || c == 10 || c == 13 || (c == 62 && !b)
theorem esc_plain {b : Bool} {c : Nat} (h : isRef b c = false) : esc b c = [c] := by
  simp only [isRef, Bool.or_eq_false_iff, beq_eq_false_iff_ne] at h
  obtain ⟨⟨⟨⟨⟨⟨h1, h2⟩, h3⟩, h4⟩, h5⟩, h6⟩, h7⟩ := h
  unfold esc
  rw [if_neg h1, if_neg h2, if_neg h3, if_neg h4, if_neg h5, if_neg h6]
  by_cases h8 : c = 62
  · subst h8
    cases b
    · simp at h7
    · rfl
  · rw [if_neg h8]
theorem ref_cases {b : Bool} {c : Nat} (h : isRef b c = true) : c = 38 ∨ c = 60 ∨ c = 34 ∨ c = 9 ∨ c = 10 ∨ c = 13 ∨ (c = 62 ∧ b = false) := by
  simp only [isRef, Bool.or_eq_true, Bool.and_eq_true, beq_iff_eq, Bool.not_eq_true'] at h
  rcases h with (((((h | h) | h) | h) | h) | h) | h
  · exact .inl h
  · exact .inr (.inl h)
  · exact .inr (.inr (.inl h))
  · exact .inr (.inr (.inr (.inl h)))
  · exact .inr (.inr (.inr (.inr (.inl h))))
  · exact .inr (.inr (.inr (.inr (.inr (.inl h)))))
  · exact .inr (.inr (.inr (.inr (.inr (.inr h)))))
theorem esc_pat {b : Bool} {c : Nat} (h : isRef b c = true) : Pat (esc b c) := by
  rcases ref_cases h with rfl | rfl | rfl | rfl | rfl | rfl | ⟨rfl, rfl⟩ <;> (try cases b) <;> exact pat_of (by decide)

theorem unS_skips (b : Bool) (a l : List Sy) (h : ∀ c ∈ a, c ≠ .ch 38) : unS b (a ++ l) = a ++ unS b l := by
  cases b
  · simp only [unS, Bool.false_eq_true, if_false]
    rw [repS_skips pat_lt _ _ h, repS_skips pat_gt _ _ h, repS_skips pat_quot _ _ h, repS_skips pat_crD _ _ h, repS_skips pat_lfD _ _ h, repS_skips pat_tabD _ _ h, repS_skips pat_amp _ _ h]
  · simp only [unS, if_true]
    rw [repS_skips pat_lt _ _ h, repS_skips pat_quot _ _ h, repS_skips pat_tabX _ _ h, repS_skips pat_lfX _ _ h, repS_skips pat_crX _ _ h, repS_skips pat_amp _ _ h]
theorem unS_torn (b : Bool) (c : Nat) (hc : isRef b c = true) {prev t : Int} {ρ : List Int} (l : List Sy) (hl : (esc b c).length = ρ.length + 1) (ht : ¬ AllEq t ρ) :
    unS b (strm prev ((esc b c).zip (t :: ρ)) ++ l) = strm prev ((esc b c).zip (t :: ρ)) ++ unS b l := by
  have hp := esc_pat hc
  have go : ∀ {p : List Nat} {s : Nat} (_ : Pat p) (l : List Sy), ¬ p.tail <+: (esc b c).tail.dropLast → repS p s (strm prev ((esc b c).zip (t :: ρ)) ++ l) = strm prev ((esc b c).zip (t :: ρ)) ++ repS p s l := fun {_} {_} h1 l hn => repS_torn h1 hp l hl ht hn
  cases b
  · simp only [unS, Bool.false_eq_true, if_false]
    rcases ref_cases hc with rfl | rfl | rfl | rfl | rfl | rfl | ⟨rfl, _⟩ <;>
      rw [go pat_lt _ (by decide), go pat_gt _ (by decide), go pat_quot _ (by decide), go pat_crD _ (by decide), go pat_lfD _ (by decide), go pat_tabD _ (by decide), go pat_amp _ (by decide)]
  · simp only [unS, if_true]
    rcases ref_cases hc with rfl | rfl | rfl | rfl | rfl | rfl | ⟨_, h⟩
    case inr.inr.inr.inr.inr.inr => exact absurd h (by decide)
    all_goals rw [go pat_lt _ (by decide), go pat_quot _ (by decide), go pat_tabX _ (by decide), go pat_lfX _ (by decide), go pat_crX _ (by decide), go pat_amp _ (by decide)]
theorem sk {p : List Nat} {s c : Nat} (hp : Pat p) (hc : c ≠ 38) (l : List Sy) : repS p s (.ch c :: l) = .ch c :: repS p s l := repS_skip hp (fun e => hc (Sy.ch.inj e)) l
theorem unS_whole (b : Bool) (c : Nat) (hc : isRef b c = true) (l : List Sy) : unS b ((esc b c).map Sy.ch ++ l) = .ch c :: unS b l := by
  have ot : ∀ {p r : List Nat} {s : Nat} (_ : Pat p) (_ : Pat r) (l : List Sy), (∀ l : List Sy, (p.map Sy.ch).isPrefixOf (r.map Sy.ch ++ l) = false) → repS p s (r.map Sy.ch ++ l) = r.map Sy.ch ++ repS p s l := fun {_ _ _} h1 h2 l h => repS_other h1 h2 l (h l)
  cases b
  · simp only [unS, Bool.false_eq_true, if_false]
    rcases ref_cases hc with rfl | rfl | rfl | rfl | rfl | rfl | ⟨rfl, _⟩
    · show repS ampL 38 (repS tabD 9 (repS lfD 10 (repS crD 13 (repS quotL 34 (repS gtL 62 (repS ltL 60 (ampL.map Sy.ch ++ l))))))) = _
      rw [ot pat_lt pat_amp _ (fun _ => rfl), ot pat_gt pat_amp _ (fun _ => rfl), ot pat_quot pat_amp _ (fun _ => rfl), ot pat_crD pat_amp _ (fun _ => rfl), ot pat_lfD pat_amp _ (fun _ => rfl), ot pat_tabD pat_amp _ (fun _ => rfl), repS_same pat_amp]
    · show repS ampL 38 (repS tabD 9 (repS lfD 10 (repS crD 13 (repS quotL 34 (repS gtL 62 (repS ltL 60 (ltL.map Sy.ch ++ l))))))) = _
      rw [repS_same pat_lt, sk pat_gt (by decide), sk pat_quot (by decide), sk pat_crD (by decide), sk pat_lfD (by decide), sk pat_tabD (by decide), sk pat_amp (by decide)]
    · show repS ampL 38 (repS tabD 9 (repS lfD 10 (repS crD 13 (repS quotL 34 (repS gtL 62 (repS ltL 60 (quotL.map Sy.ch ++ l))))))) = _
      rw [ot pat_lt pat_quot _ (fun _ => rfl), ot pat_gt pat_quot _ (fun _ => rfl), repS_same pat_quot, sk pat_crD (by decide), sk pat_lfD (by decide), sk pat_tabD (by decide), sk pat_amp (by decide)]
    · show repS ampL 38 (repS tabD 9 (repS lfD 10 (repS crD 13 (repS quotL 34 (repS gtL 62 (repS ltL 60 (tabD.map Sy.ch ++ l))))))) = _
      rw [ot pat_lt pat_tabD _ (fun _ => rfl), ot pat_gt pat_tabD _ (fun _ => rfl), ot pat_quot pat_tabD _ (fun _ => rfl), ot pat_crD pat_tabD _ (fun _ => rfl), ot pat_lfD pat_tabD _ (fun _ => rfl), repS_same pat_tabD, sk pat_amp (by decide)]
    · show repS ampL 38 (repS tabD 9 (repS lfD 10 (repS crD 13 (repS quotL 34 (repS gtL 62 (repS ltL 60 (lfD.map Sy.ch ++ l))))))) = _
      rw [ot pat_lt pat_lfD _ (fun _ => rfl), ot pat_gt pat_lfD _ (fun _ => rfl), ot pat_quot pat_lfD _ (fun _ => rfl), ot pat_crD pat_lfD _ (fun _ => rfl), repS_same pat_lfD, sk pat_tabD (by decide), sk pat_amp (by decide)]
    · show repS ampL 38 (repS tabD 9 (repS lfD 10 (repS crD 13 (repS quotL 34 (repS gtL 62 (repS ltL 60 (crD.map Sy.ch ++ l))))))) = _
      rw [ot pat_lt pat_crD _ (fun _ => rfl), ot pat_gt pat_crD _ (fun _ => rfl), ot pat_quot pat_crD _ (fun _ => rfl), repS_same pat_crD, sk pat_lfD (by decide), sk pat_tabD (by decide), sk pat_amp (by decide)]
    · show repS ampL 38 (repS tabD 9 (repS lfD 10 (repS crD 13 (repS quotL 34 (repS gtL 62 (repS ltL 60 (gtL.map Sy.ch ++ l))))))) = _
      rw [ot pat_lt pat_gt _ (fun _ => rfl), repS_same pat_gt, sk pat_quot (by decide), sk pat_crD (by decide), sk pat_lfD (by decide), sk pat_tabD (by decide), sk pat_amp (by decide)]
  · simp only [unS, if_true]
    rcases ref_cases hc with rfl | rfl | rfl | rfl | rfl | rfl | ⟨_, h⟩
    · show repS ampL 38 (repS crX 13 (repS lfX 10 (repS tabX 9 (repS quotL 34 (repS ltL 60 (ampL.map Sy.ch ++ l)))))) = _
      rw [ot pat_lt pat_amp _ (fun _ => rfl), ot pat_quot pat_amp _ (fun _ => rfl), ot pat_tabX pat_amp _ (fun _ => rfl), ot pat_lfX pat_amp _ (fun _ => rfl), ot pat_crX pat_amp _ (fun _ => rfl), repS_same pat_amp]
    · show repS ampL 38 (repS crX 13 (repS lfX 10 (repS tabX 9 (repS quotL 34 (repS ltL 60 (ltL.map Sy.ch ++ l)))))) = _
      rw [repS_same pat_lt, sk pat_quot (by decide), sk pat_tabX (by decide), sk pat_lfX (by decide), sk pat_crX (by decide), sk pat_amp (by decide)]
    · show repS ampL 38 (repS crX 13 (repS lfX 10 (repS tabX 9 (repS quotL 34 (repS ltL 60 (quotL.map Sy.ch ++ l)))))) = _
      rw [ot pat_lt pat_quot _ (fun _ => rfl), repS_same pat_quot, sk pat_tabX (by decide), sk pat_lfX (by decide), sk pat_crX (by decide), sk pat_amp (by decide)]
    · show repS ampL 38 (repS crX 13 (repS lfX 10 (repS tabX 9 (repS quotL 34 (repS ltL 60 (tabX.map Sy.ch ++ l)))))) = _
      rw [ot pat_lt pat_tabX _ (fun _ => rfl), ot pat_quot pat_tabX _ (fun _ => rfl), repS_same pat_tabX, sk pat_lfX (by decide), sk pat_crX (by decide), sk pat_amp (by decide)]
    · show repS ampL 38 (repS crX 13 (repS lfX 10 (repS tabX 9 (repS quotL 34 (repS ltL 60 (lfX.map Sy.ch ++ l)))))) = _
      rw [ot pat_lt pat_lfX _ (fun _ => rfl), ot pat_quot pat_lfX _ (fun _ => rfl), ot pat_tabX pat_lfX _ (fun _ => rfl), repS_same pat_lfX, sk pat_crX (by decide), sk pat_amp (by decide)]
    · show repS ampL 38 (repS crX 13 (repS lfX 10 (repS tabX 9 (repS quotL 34 (repS ltL 60 (crX.map Sy.ch ++ l)))))) = _
      rw [ot pat_lt pat_crX _ (fun _ => rfl), ot pat_quot pat_crX _ (fun _ => rfl), ot pat_tabX pat_crX _ (fun _ => rfl), ot pat_lfX pat_crX _ (fun _ => rfl), repS_same pat_crX, sk pat_amp (by decide)]
    · exact absurd h (by decide)
end Mine
end
section
set_option linter.unusedVariables false
namespace Mine

noncomputable def itemOne (b : Bool) (c : Nat) (q : List Int) : List (Nat × Int) := if q.head? = q.getLast? then [(c, q.headD 0)] else (esc b c).zip q
noncomputable def items (b : Bool) : List Nat → List Int → List (Nat × Int)
  | [], _ => []
  | c :: text, ρ => itemOne b c (ρ.take (esc b c).length) ++ items b text (ρ.drop (esc b c).length)

theorem strm_same : ∀ {p : List Nat} {t : Int} {ρ : List Int}, AllEq t ρ → p.length = ρ.length → strm t (p.zip ρ) = p.map Sy.ch
  | [], _, _, _, _ => by simp [strm]
  | c :: p, t, [], _, hl => by simp at hl
  | c :: p, t, r :: ρ, h, hl => by
    have hr : r = t := h r (by simp)
    subst hr
    simp only [List.zip_cons_cons, strm, if_true, List.map_cons]
    rw [strm_same (fun x hx => h x (List.mem_cons_of_mem _ hx)) (by simpa using hl)]
theorem lastL_same : ∀ {t : Int} {ρ : List Int}, AllEq t ρ → lastL t ρ = t
  | _, [], _ => rfl
  | t, r :: ρ, h => by
    have hr : r = t := h r (by simp)
    subst hr
    have h' : AllEq r ρ := fun x hx => h x (List.mem_cons_of_mem _ hx)
    show lastL r ρ = r
    exact lastL_same h'
theorem same_of_last : ∀ {t : Int} {ρ : List Int}, Lab t ρ → lastL t ρ = t → AllEq t ρ
  | _, [], _, _ => fun x hx => by simp at hx
  | t, r :: ρ, h, e => by
    have h1 := lab_ge h.2
    have e' : lastL r ρ = t := e
    have hr : r = t := by rcases h.1 with h2 | h2 <;> omega
    subst hr
    have := same_of_last h.2 e'
    intro x hx
    rcases List.mem_cons.mp hx with rfl | hx
    · rfl
    · exact this x hx
theorem getLast_lastL : ∀ (t : Int) (ρ : List Int), (t :: ρ).getLast? = some (lastL t ρ)
  | t, [] => rfl
  | t, r :: ρ => by rw [List.getLast?_cons_cons]; exact getLast_lastL r ρ
theorem zip_snd {p : List Nat} {q : List Int} (h : p.length = q.length) : (p.zip q).map (·.2) = q := by
  have := List.map_snd_zip (l₁ := p) (l₂ := q) (by omega)
  exact this

theorem esc_ne (b : Bool) (c : Nat) : esc b c ≠ [] := by
  by_cases h : isRef b c = true
  · obtain ⟨q, e, _⟩ := esc_pat h
    rw [e]; simp
  · rw [esc_plain (by simpa using h)]; simp
theorem itemOne_last {b : Bool} {c : Nat} {q : List Int} {prev : Int} (hl : q.length = (esc b c).length) : lastL prev ((itemOne b c q).map (·.2)) = lastL prev q := by
  unfold itemOne
  split
  · rename_i h
    cases q with
    | nil => have := esc_ne b c; cases he : esc b c with
      | nil => exact absurd he this
      | cons x y => rw [he] at hl; simp at hl
    | cons t ρ =>
      rw [getLast_lastL] at h
      have : t = lastL t ρ := by simpa using h
      show t = lastL t ρ
      exact this
  · rw [zip_snd hl.symm]
theorem unS_piece {b : Bool} {c : Nat} {q : List Int} {prev : Int} (hl : q.length = (esc b c).length) (hL : Lab prev q) (X : List Sy) :
    unS b (strm prev ((esc b c).zip q) ++ X) = strm prev (itemOne b c q) ++ unS b X := by
  by_cases h : isRef b c = true
  · cases q with
    | nil => have := esc_ne b c; cases he : esc b c with
      | nil => exact absurd he this
      | cons x y => rw [he] at hl; simp at hl
    | cons t ρ =>
      by_cases ha : AllEq t ρ
      · have e1 : itemOne b c (t :: ρ) = [(c, t)] := by
          unfold itemOne
          rw [if_pos (by rw [getLast_lastL, lastL_same ha]; rfl)]
          rfl
        have ha' : AllEq t (t :: ρ) := fun x hx => by
          rcases List.mem_cons.mp hx with rfl | hx
          · rfl
          · exact ha x hx
        have e2 : strm t ((esc b c).zip (t :: ρ)) = (esc b c).map Sy.ch := strm_same ha' hl.symm
        rw [e1]
        by_cases hp : t = prev
        · subst hp
          rw [e2, unS_whole b c h]
          simp [strm]
        · have e3 : strm prev ((esc b c).zip (t :: ρ)) = .br :: strm t ((esc b c).zip (t :: ρ)) := by
            cases he : esc b c with
            | nil => exact absurd he (esc_ne b c)
            | cons x y => simp [strm, hp]
          rw [e3, e2]
          have := unS_skips b [Sy.br] ((esc b c).map Sy.ch ++ X) (by intro a ha; simp at ha; subst ha; intro e; cases e)
          rw [List.singleton_append] at this
          rw [List.cons_append, this, unS_whole b c h]
          simp [strm, hp]
      · have hne : ¬ (t :: ρ).head? = (t :: ρ).getLast? := by
          rw [getLast_lastL]
          intro e
          have e' : t = lastL t ρ := by simpa using e
          exact ha (same_of_last hL.2 e'.symm)
        have e1 : itemOne b c (t :: ρ) = (esc b c).zip (t :: ρ) := by unfold itemOne; rw [if_neg hne]
        rw [e1]
        exact unS_torn b c h X (by simpa using hl.symm) ha
  · have hf : isRef b c = false := by simpa using h
    have he := esc_plain hf
    have hc : c ≠ 38 := by rintro rfl; simp [isRef] at hf
    rw [he] at hl
    cases q with
    | nil => simp at hl
    | cons r ρ =>
      have : ρ = [] := by simpa using hl
      subst this
      have e1 : itemOne b c [r] = [(c, r)] := by unfold itemOne; exact if_pos rfl
      rw [e1, he]
      show unS b (strm prev [(c, r)] ++ X) = _
      refine unS_skips b _ _ ?_
      intro a ha
      by_cases hr : r = prev
      · simp [strm, hr] at ha; subst ha; intro e; exact hc (Sy.ch.inj e)
      · simp [strm, hr] at ha
        rcases ha with rfl | rfl
        · intro e; cases e
        · intro e; exact hc (Sy.ch.inj e)
theorem unS_nil (b : Bool) : unS b [] = [] := by cases b <;> simp [unS, repS_nil]
theorem escL_cons (b : Bool) (c : Nat) (l : List Nat) : escL b (c :: l) = esc b c ++ escL b l := by simp [escL]
theorem escL_append (b : Bool) (a l : List Nat) : escL b (a ++ l) = escL b a ++ escL b l := by simp [escL]
theorem zip_app {p w : List Nat} {q r : List Int} (h : p.length = q.length) : (p ++ w).zip (q ++ r) = p.zip q ++ w.zip r := List.zip_append h

/-- A stream's end: what the mail has behind the signs. -/
theorem unS_items (b : Bool) (tl : List Sy) (htl : ∀ a ∈ tl, a ≠ .ch 38) : ∀ (text : List Nat) (ρ : List Int) (prev : Int), ρ.length = (escL b text).length → Lab prev ρ → unS b (strm prev ((escL b text).zip ρ) ++ tl) = strm prev (items b text ρ) ++ tl
  | [], ρ, prev, hl, hL => by
    have := unS_skips b tl [] htl
    rw [List.append_nil, unS_nil, List.append_nil] at this
    show unS b (strm prev (([] : List Nat).zip ρ) ++ tl) = strm prev [] ++ tl
    simpa [strm] using this
  | c :: text, ρ, prev, hl, hL => by
    have hd : ρ = ρ.take (esc b c).length ++ ρ.drop (esc b c).length := (List.take_append_drop _ _).symm
    rw [escL_cons, List.length_append] at hl
    have hq : (ρ.take (esc b c).length).length = (esc b c).length := by rw [List.length_take]; omega
    have hL' := hL
    rw [hd] at hL'
    obtain ⟨L1, L2⟩ := lab_append hL'
    have hz : (escL b (c :: text)).zip ρ = (esc b c).zip (ρ.take (esc b c).length) ++ (escL b text).zip (ρ.drop (esc b c).length) := by
      rw [escL_cons]
      conv => lhs; rw [hd]
      exact zip_app hq.symm
    rw [hz, strm_append, List.append_assoc, unS_piece hq L1, zip_snd hq.symm, unS_items b tl htl text _ _ (by rw [List.length_drop]; omega) L2]
    show _ = strm prev (itemOne b c _ ++ items b text _) ++ tl
    rw [strm_append, itemOne_last hq, List.append_assoc]
theorem items_last (b : Bool) : ∀ (text : List Nat) (ρ : List Int) (prev : Int), ρ.length = (escL b text).length → lastL prev ((items b text ρ).map (·.2)) = lastL prev ρ
  | [], ρ, prev, hl => by
    have : ρ = [] := by simpa [escL] using hl
    subst this; rfl
  | c :: text, ρ, prev, hl => by
    have hd : ρ = ρ.take (esc b c).length ++ ρ.drop (esc b c).length := (List.take_append_drop _ _).symm
    rw [escL_cons, List.length_append] at hl
    have hq : (ρ.take (esc b c).length).length = (esc b c).length := by rw [List.length_take]; omega
    show lastL prev ((itemOne b c _ ++ items b text _).map (·.2)) = _
    rw [List.map_append, lastL_append, itemOne_last hq, items_last b text _ _ (by rw [List.length_drop]; omega), ← lastL_append, ← hd]
theorem itemOne_lab {b : Bool} {c : Nat} {q : List Int} {prev : Int} (hl : q.length = (esc b c).length) (hL : Lab prev q) : Lab prev ((itemOne b c q).map (·.2)) := by
  unfold itemOne
  split
  · cases q with
    | nil => have := esc_ne b c; cases he : esc b c with
      | nil => exact absurd he this
      | cons x y => rw [he] at hl; simp at hl
    | cons t ρ => exact ⟨hL.1, trivial⟩
  · rw [zip_snd hl.symm]; exact hL
theorem lab_app : ∀ {p : Int} {a b : List Int}, Lab p a → Lab (lastL p a) b → Lab p (a ++ b)
  | _, [], _, _, h => h
  | _, r :: a, b, h, h' => ⟨h.1, lab_app h.2 h'⟩
theorem items_lab (b : Bool) : ∀ (text : List Nat) (ρ : List Int) (prev : Int), ρ.length = (escL b text).length → Lab prev ρ → Lab prev ((items b text ρ).map (·.2))
  | [], ρ, prev, hl, hL => trivial
  | c :: text, ρ, prev, hl, hL => by
    have hd : ρ = ρ.take (esc b c).length ++ ρ.drop (esc b c).length := (List.take_append_drop _ _).symm
    rw [escL_cons, List.length_append] at hl
    have hq : (ρ.take (esc b c).length).length = (esc b c).length := by rw [List.length_take]; omega
    have hL' := hL
    rw [hd] at hL'
    obtain ⟨L1, L2⟩ := lab_append hL'
    show Lab prev ((itemOne b c _ ++ items b text _).map (·.2))
    rw [List.map_append]
    refine lab_app (itemOne_lab hq L1) ?_
    rw [itemOne_last hq]
    exact items_lab b text _ _ (by rw [List.length_drop]; omega) L2

/-! the lines that the law lays -/
theorem addEach_append : ∀ (lines : List (List Nat)) (a b : List (Nat × Int)), addEach lines (a ++ b) = addEach (addEach lines a) b
  | _, [], _ => rfl
  | lines, (c, r) :: a, b => addEach_append _ a b
theorem layOne_items (b : Bool) (lines : List (List Nat)) (c : Nat) (q : List Int) : layOne lines c (esc b c) q = addEach lines (itemOne b c q) := by
  unfold layOne itemOne
  split <;> rfl
theorem layGo_items (b : Bool) : ∀ (text : List Nat) (lines : List (List Nat)) (ρ : List Int), layGo b lines text ρ = addEach lines (items b text ρ)
  | [], _, _ => rfl
  | c :: text, lines, ρ => by
    show layGo b (layOne lines c (esc b c) _) text _ = addEach lines (itemOne b c _ ++ items b text _)
    rw [addEach_append, layOne_items, layGo_items b text]

noncomputable def consHead (c : Nat) : List (List Nat) → List (List Nat)
  | [] => [[c]]
  | h :: t => (c :: h) :: t
noncomputable def grp (prev : Int) : List (Nat × Int) → List (List Nat)
  | [] => [[]]
  | (c, r) :: l => if r = prev then consHead c (grp prev l) else [] :: consHead c (grp r l)
theorem grp_eq {prev : Int} {c : Nat} {r : Int} {l : List (Nat × Int)} (h : r = prev) : grp prev ((c, r) :: l) = consHead c (grp prev l) := by
  show (if r = prev then _ else _) = _
  rw [if_pos h]
theorem grp_new {prev : Int} {c : Nat} {r : Int} {l : List (Nat × Int)} (h : ¬ r = prev) : grp prev ((c, r) :: l) = [] :: consHead c (grp r l) := by
  show (if r = prev then _ else _) = _
  rw [if_neg h]
noncomputable def mergeHead (x : List Nat) : List (List Nat) → List (List Nat)
  | [] => [x]
  | h :: t => (x ++ h) :: t
theorem grp_ne : ∀ (prev : Int) (l : List (Nat × Int)), grp prev l ≠ []
  | _, [] => by simp [grp]
  | prev, (c, r) :: l => by
    unfold grp
    split
    · cases h : grp prev l <;> simp [consHead]
    · simp
theorem merge_cons (x : List Nat) (c : Nat) {g : List (List Nat)} (h : g ≠ []) : mergeHead x (consHead c g) = mergeHead (x ++ [c]) g := by
  cases g with
  | nil => exact absurd rfl h
  | cons a t => simp [mergeHead, consHead]
theorem merge_one (c : Nat) {g : List (List Nat)} (h : g ≠ []) : mergeHead [c] g = consHead c g := by
  cases g with
  | nil => exact absurd rfl h
  | cons a t => simp [mergeHead, consHead]
theorem len_cons {c : Nat} {g : List (List Nat)} (h : g ≠ []) : (consHead c g).length = g.length := by
  cases g with
  | nil => exact absurd rfl h
  | cons a t => simp [consHead]
theorem grp_len : ∀ (l : List (Nat × Int)) (prev : Int), Lab prev (l.map (·.2)) → ((grp prev l).length : Int) = lastL prev (l.map (·.2)) - prev + 1
  | [], prev, _ => by show ((1 : Nat) : Int) = prev - prev + 1; omega
  | (c, r) :: l, prev, h => by
    have ih := grp_len l r h.2
    unfold grp
    by_cases hr : r = prev
    · subst hr
      rw [if_pos rfl, len_cons (grp_ne _ _)]
      exact ih
    · rw [if_neg hr]
      have hr' : r = prev + 1 := h.1.resolve_left hr
      show ((([] : List Nat) :: consHead c (grp r l)).length : Int) = lastL r (l.map (·.2)) - prev + 1
      rw [List.length_cons, len_cons (grp_ne _ _)]
      omega
theorem addAt_mid (A : List (List Nat)) (x : List Nat) (R : List (List Nat)) (p : List Nat) : addAt (A ++ x :: R) A.length p = A ++ (x ++ p) :: R := by
  unfold addAt
  simp [List.getD]
theorem addEach_grp : ∀ (l : List (Nat × Int)) (A : List (List Nat)) (x : List Nat) (n : Nat), Lab (A.length : Int) (l.map (·.2)) → lastL (A.length : Int) (l.map (·.2)) ≤ A.length + n →
    addEach (A ++ x :: List.replicate n []) l = A ++ mergeHead x (grp A.length l) ++ List.replicate (n + 1 - (grp A.length l).length) []
  | [], A, x, n, _, _ => by simp [addEach, grp, mergeHead]
  | (c, r) :: l, A, x, n, h, hn => by
    by_cases hr : r = (A.length : Int)
    · have hL : Lab (A.length : Int) (l.map (·.2)) := by have := h.2; rw [hr] at this; exact this
      have hn' : lastL (A.length : Int) (l.map (·.2)) ≤ A.length + n := by
        have : lastL r (l.map (·.2)) ≤ A.length + n := hn
        rwa [hr] at this
      show addEach (addAt (A ++ x :: List.replicate n []) r.toNat [c]) l = _
      have e : r.toNat = A.length := by omega
      rw [e, addAt_mid, addEach_grp l A (x ++ [c]) n hL hn']
      rw [grp_eq hr, merge_cons _ _ (grp_ne _ _), len_cons (grp_ne _ _)]
    · have hr' : r = (A.length : Int) + 1 := h.1.resolve_left hr
      have hge : r ≤ lastL r (l.map (·.2)) := lab_ge h.2
      have hn1 : lastL r (l.map (·.2)) ≤ A.length + n := hn
      obtain ⟨k, rfl⟩ : ∃ k, n = k + 1 := ⟨n - 1, by omega⟩
      have e1 : A ++ x :: List.replicate (k + 1) [] = (A ++ [x]) ++ [] :: List.replicate k [] := by simp [List.replicate_succ]
      have e2 : r.toNat = (A ++ [x]).length := by simp; omega
      have e3 : ((A ++ [x]).length : Int) = r := by simp; omega
      show addEach (addAt (A ++ x :: List.replicate (k + 1) []) r.toNat [c]) l = _
      rw [e1, e2, addAt_mid, List.nil_append, addEach_grp l (A ++ [x]) [c] k (by rw [e3]; exact h.2) (by rw [e3]; omega), e3]
      rw [grp_new hr, merge_one _ (grp_ne _ _), List.length_cons, len_cons (grp_ne _ _)]
      simp [mergeHead]

theorem maxI_last : ∀ (ρ : List Int) (p : Int), Lab p ρ → maxI p ρ = lastL p ρ
  | [], _, _ => rfl
  | r :: ρ, p, h => by
    show maxI (if p < r then r else p) ρ = lastL r ρ
    have : (if p < r then r else p) = r := by
      split
      · rfl
      · rcases h.1 with h1 | h1 <;> omega
    rw [this]
    exact maxI_last ρ r h.2

theorem rowsGo_lab (m : Int) : ∀ (l : List Int) (row room left : Int) (rest : Bool), Lab row (rowsGo m l row room left rest)
  | [], _, _, _, _ => trivial
  | s :: l, row, room, left, rest => by
    unfold rowsGo
    split
    · exact ⟨.inr rfl, rowsGo_lab m l _ _ _ _⟩
    · exact ⟨.inl rfl, rowsGo_lab m l _ _ _ _⟩
theorem rowsGo_len (m : Int) : ∀ (l : List Int) (row room left : Int) (rest : Bool), (rowsGo m l row room left rest).length = l.length
  | [], _, _, _, _ => rfl
  | s :: l, row, room, left, rest => by
    unfold rowsGo
    split
    · simp [rowsGo_len m l]
    · simp [rowsGo_len m l]
theorem lawRows_lab (m : Int) (W : List Nat) : Lab 0 (lawRows m W) := rowsGo_lab _ _ _ _ _ _
theorem lawRows_len (m : Int) (W : List Nat) : (lawRows m W).length = W.length := by unfold lawRows; rw [rowsGo_len]; simp

theorem linesAt_grp (b : Bool) (m : Int) (text : List Nat) : linesAt b m text = grp 0 (items b text (lawRows m (escL b text))) := by
  unfold linesAt
  have hL := lawRows_lab m (escL b text)
  have hl := lawRows_len m (escL b text)
  generalize lawRows m (escL b text) = ρ at hL hl
  rw [layGo_items, maxI_last ρ 0 hL]
  have hi := items_lab b text ρ 0 hl hL
  have hla := items_last b text ρ 0 hl
  have hge := lab_ge hL
  have hg := grp_len _ _ hi
  have e : List.replicate ((lastL 0 ρ).toNat + 1) ([] : List Nat) = [] ++ [] :: List.replicate (lastL 0 ρ).toNat [] := by simp [List.replicate_succ]
  rw [e, addEach_grp _ [] [] _ hi (by rw [List.length_nil, show ((0 : Nat) : Int) = 0 from rfl, hla]; omega)]
  have e2 : (lastL 0 ρ).toNat + 1 - (grp ((([] : List (List Nat)).length : Nat) : Int) (items b text ρ)).length = 0 := by
    show (lastL 0 ρ).toNat + 1 - (grp 0 (items b text ρ)).length = 0
    rw [hla] at hg
    omega
  rw [e2]
  show [] ++ mergeHead [] (grp 0 _) ++ [] = _
  cases hx : grp 0 (items b text ρ) with
  | nil => exact absurd hx (grp_ne _ _)
  | cons a t => simp [mergeHead]

/-! streams by groups -/
noncomputable def joinS : List (List Nat) → List Sy
  | [] => []
  | [l] => l.map Sy.ch
  | l :: l' :: ls => l.map Sy.ch ++ .br :: joinS (l' :: ls)
theorem joinS_cons (c : Nat) {g : List (List Nat)} (h : g ≠ []) : joinS (consHead c g) = .ch c :: joinS g := by
  match g, h with
  | [l], _ => rfl
  | l :: l' :: ls, _ => rfl
theorem strm_joinS : ∀ (l : List (Nat × Int)) (prev : Int), strm prev l = joinS (grp prev l)
  | [], _ => rfl
  | (c, r) :: l, prev => by
    unfold strm grp
    by_cases hr : r = prev
    · rw [if_pos hr, if_pos hr, joinS_cons _ (grp_ne _ _), strm_joinS l prev]
    · rw [if_neg hr, if_neg hr]
      have := joinS_cons c (grp_ne r l)
      rw [← strm_joinS l r] at this
      cases hx : consHead c (grp r l) with
      | nil => cases hy : grp r l with
        | nil => exact absurd hy (grp_ne _ _)
        | cons a t => rw [hy] at hx; cases hx
      | cons a t => rw [hx] at this; show _ = [] ++ Sy.br :: joinS (a :: t); rw [this]; rfl
end Mine
end
section
set_option linter.unusedVariables false
namespace Mine

/-! ## The rows of the mail -/
noncomputable def size (W : List Nat) : Int := sumI (W.map sz)
theorem size_nil : size [] = 0 := rfl
theorem size_cons (c : Nat) (W : List Nat) : size (c :: W) = sz c + size W := rfl
theorem sumI_append : ∀ (a b : List Int), sumI (a ++ b) = sumI a + sumI b
  | [], b => by simp [sumI]
  | x :: a, b => by simp only [List.cons_append, sumI]; rw [sumI_append a b]; omega
theorem size_append (a b : List Nat) : size (a ++ b) = size a + size b := by unfold size; rw [List.map_append, sumI_append]
theorem sz_pos (c : Nat) : 1 ≤ sz c ∧ sz c ≤ 3 := by unfold sz; split <;> omega
theorem size_nonneg : ∀ (W : List Nat), 0 ≤ size W
  | [] => by rw [size_nil]; omega
  | c :: W => by have := size_nonneg W; have := sz_pos c; rw [size_cons]; omega
noncomputable def wch (c : Nat) : Prop := (32 ≤ c ∧ c ≤ 126) ∨ c = 233
theorem tr_len {c : Nat} (h : wch c) : ((tr c).length : Int) = sz c := by
  unfold tr sz
  rcases h with h | rfl
  · by_cases h1 : c = 61
    · subst h1; decide
    · have h2 : c ≠ 233 := by omega
      rw [if_neg h1, if_neg h2, if_pos ⟨h.1, h.2, h1⟩]; rfl
  · decide
theorem trL_len : ∀ {W : List Nat}, (∀ c ∈ W, wch c) → ((trL W).length : Int) = size W
  | [], _ => rfl
  | c :: W, h => by
    rw [trL_cons, size_cons, List.length_append, Int.natCast_add, tr_len (h c (by simp)), trL_len (fun c hc => h c (List.mem_cons_of_mem _ hc))]

noncomputable def takeRow : Int → List Nat → List Nat × List Nat
  | _, [] => ([], [])
  | room, c :: l => if room < sz c then ([], c :: l) else (c :: (takeRow (room - sz c) l).1, (takeRow (room - sz c) l).2)
theorem takeRow_app : ∀ (W : List Nat) (room : Int), (takeRow room W).1 ++ (takeRow room W).2 = W
  | [], _ => rfl
  | c :: l, room => by
    unfold takeRow
    split
    · rfl
    · show c :: ((takeRow (room - sz c) l).1 ++ (takeRow (room - sz c) l).2) = c :: l
      rw [takeRow_app l]
theorem takeRow_le : ∀ (W : List Nat) (room : Int), 0 ≤ room → size (takeRow room W).1 ≤ room
  | [], _, h => h
  | c :: l, room, h => by
    unfold takeRow
    split
    · exact h
    · rename_i h1
      have := takeRow_le l (room - sz c) (by omega)
      show sz c + size (takeRow (room - sz c) l).1 ≤ room
      omega
theorem takeRow_next : ∀ (W : List Nat) (room : Int) {c : Nat} {l : List Nat}, (takeRow room W).2 = c :: l → room - size (takeRow room W).1 < sz c
  | [], _, c, l, h => by cases h
  | x :: W, room, c, l, h => by
    unfold takeRow at h ⊢
    split
    · rename_i h1
      rw [if_pos h1] at h
      injection h with h3 h4
      subst h3
      show room - 0 < sz x
      omega
    · rename_i h1
      rw [if_neg h1] at h
      have := takeRow_next W (room - sz x) h
      show room - (sz x + size (takeRow (room - sz x) W).1) < sz c
      omega

noncomputable def segs (m : Int) : Nat → List Nat → List (List Nat)
  | 0, W => [W]
  | f + 1, W => if size W ≤ m then [W] else (takeRow (m - 1) W).1 :: segs m f (takeRow (m - 1) W).2
theorem segs_ne (m : Int) (f : Nat) (W : List Nat) : segs m f W ≠ [] := by
  cases f with
  | zero => simp [segs]
  | succ f => unfold segs; split <;> simp
theorem rowsGo_rest (m : Int) : ∀ (l : List Int) (row room left : Int), AllEq row (rowsGo m l row room left true)
  | [], _, _, _ => fun x hx => by simp [rowsGo] at hx
  | s :: l, row, room, left => by
    unfold rowsGo
    rw [if_neg (by simp)]
    intro x hx
    rcases List.mem_cons.mp hx with rfl | hx
    · rfl
    · exact rowsGo_rest m l row _ _ x hx
theorem takeRow_pos {room : Int} {c : Nat} {l : List Nat} (h : room < sz c) : takeRow room (c :: l) = ([], c :: l) := by
  show (if _ then _ else _) = _
  rw [if_pos h]
theorem takeRow_neg {room : Int} {c : Nat} {l : List Nat} (h : ¬ room < sz c) : takeRow room (c :: l) = (c :: (takeRow (room - sz c) l).1, (takeRow (room - sz c) l).2) := by
  show (if _ then _ else _) = _
  rw [if_neg h]
theorem rowsGo_pos {m s row room left : Int} {l : List Int} (h : room < s) : rowsGo m (s :: l) row room left false = (row + 1) :: rowsGo m l (row + 1) (m - 1 - s) (left - s) (decide (left ≤ m)) := by
  show (if _ then _ else _) = _
  rw [if_pos ⟨rfl, h⟩]
theorem rowsGo_neg {m s row room left : Int} {rest : Bool} {l : List Int} (h : ¬ (rest = false ∧ room < s)) : rowsGo m (s :: l) row room left rest = row :: rowsGo m l row (room - s) (left - s) rest := by
  show (if _ then _ else _) = _
  rw [if_neg h]
theorem rowsGo_take (m : Int) : ∀ (W : List Nat) (row room left : Int), rowsGo m (W.map sz) row room left false =
    List.replicate (takeRow room W).1.length row ++ (match (takeRow room W).2 with
      | [] => []
      | c :: l => (row + 1) :: rowsGo m (l.map sz) (row + 1) (m - 1 - sz c) (left - size (takeRow room W).1 - sz c) (decide (left - size (takeRow room W).1 ≤ m)))
  | [], _, _, _ => rfl
  | c :: l, row, room, left => by
    show rowsGo m (sz c :: l.map sz) row room left false = _
    by_cases h : room < sz c
    · rw [rowsGo_pos h, takeRow_pos h]
      show _ = List.replicate 0 row ++ (row + 1) :: rowsGo m (l.map sz) (row + 1) (m - 1 - sz c) (left - size [] - sz c) (decide (left - size [] ≤ m))
      rw [size_nil]
      simp
    · rw [rowsGo_neg (fun hh => h hh.2), takeRow_neg h, rowsGo_take m l]
      show _ = List.replicate ((takeRow (room - sz c) l).1.length + 1) row ++ (match (takeRow (room - sz c) l).2 with
        | [] => []
        | c' :: l' => (row + 1) :: rowsGo m (l'.map sz) (row + 1) (m - 1 - sz c') (left - (sz c + size (takeRow (room - sz c) l).1) - sz c') (decide (left - (sz c + size (takeRow (room - sz c) l).1) ≤ m)))
      rw [List.replicate_succ, List.cons_append]
      congr 2
      split
      · rfl
      · have e : left - sz c - size (takeRow (room - sz c) l).1 = left - (sz c + size (takeRow (room - sz c) l).1) := by omega
        rw [e]

theorem strm_segs {m : Int} (hm : 4 ≤ m) : ∀ (f : Nat) (W : List Nat) (row : Int), W.length ≤ f → strm row (W.zip (rowsGo m (W.map sz) row (m - 1) (size W) (decide (size W ≤ m)))) = joinS (segs m f W)
  | 0, W, row, h => by
    have : W = [] := by simpa using h
    subst this; rfl
  | f + 1, W, row, h => by
    unfold segs
    by_cases hs : size W ≤ m
    · rw [if_pos hs, decide_eq_true hs]
      rw [strm_same (rowsGo_rest m _ _ _ _) (by rw [rowsGo_len]; simp)]
      rfl
    · rw [if_neg hs, decide_eq_false hs, rowsGo_take]
      have happ := takeRow_app W (m - 1)
      have hle := takeRow_le W (m - 1) (by omega)
      have hsz := congrArg size happ
      rw [size_append] at hsz
      cases h2 : (takeRow (m - 1) W).2 with
      | nil =>
        rw [h2, size_nil] at hsz
        omega
      | cons c l =>
        have hnext := takeRow_next W (m - 1) h2
        generalize hrr : (takeRow (m - 1) W).1 = r at *
        rw [h2] at happ
        have hr : r ≠ [] := by
          intro e
          rw [e, size_nil] at hnext
          have := sz_pos c
          omega
        have hlen := congrArg List.length happ
        rw [List.length_append] at hlen
        have hpos : 0 < r.length := List.length_pos_iff.mpr hr
        have hf : (c :: l).length ≤ f := by omega
        have ih := strm_segs hm f (c :: l) (row + 1) hf
        have e1 : size W - size r = size (c :: l) := by rw [← hsz, h2]; omega
        have hc := sz_pos c
        have e2 : rowsGo m ((c :: l).map sz) (row + 1) (m - 1) (size (c :: l)) (decide (size (c :: l) ≤ m)) =
            (row + 1) :: rowsGo m (l.map sz) (row + 1) (m - 1 - sz c) (size (c :: l) - sz c) (decide (size (c :: l) ≤ m)) := by
          show rowsGo m (sz c :: l.map sz) _ _ _ _ = _
          rw [rowsGo_neg]
          rintro ⟨_, h⟩
          omega
        rw [e2] at ih
        simp only [e1]
        have hWz : W.zip (List.replicate r.length row ++ (row + 1) :: rowsGo m (l.map sz) (row + 1) (m - 1 - sz c) (size (c :: l) - sz c) (decide (size (c :: l) ≤ m))) =
            r.zip (List.replicate r.length row) ++ (c :: l).zip ((row + 1) :: rowsGo m (l.map sz) (row + 1) (m - 1 - sz c) (size (c :: l) - sz c) (decide (size (c :: l) ≤ m))) := by
          rw [← happ]
          exact zip_app (by simp)
        rw [hWz, strm_append, zip_snd (by simp)]
        have hall : AllEq row (List.replicate r.length row) := fun x hx => (List.mem_replicate.mp hx).2
        rw [strm_same hall (by simp), lastL_same hall]
        have e3 : strm row ((c :: l).zip ((row + 1) :: rowsGo m (l.map sz) (row + 1) (m - 1 - sz c) (size (c :: l) - sz c) (decide (size (c :: l) ≤ m)))) = .br :: joinS (segs m f (c :: l)) := by
          rw [← ih]
          have : ¬ row + 1 = row := by omega
          simp [strm, this]
        rw [e3]
        cases hx : segs m f (c :: l) with
        | nil => exact absurd hx (segs_ne _ _ _)
        | cons a t => rfl

noncomputable def softRows : List (List Nat) → List (List Nat)
  | [] => []
  | [r] => [trL r]
  | r :: r' :: l => (trL r ++ [61]) :: softRows (r' :: l)
theorem trL_last {r : List Nat} : (trL r).getLast? ≠ some 61 := by
  rcases List.eq_nil_or_concat r with rfl | ⟨r', x, rfl⟩
  · simp [trL]
  · rw [List.concat_eq_append, trL_append]
    have : trL [x] = tr x := by simp [trL]
    rw [this]
    unfold tr
    split
    · simp
    · split
      · simp
      · rename_i h _
        simp [h]
theorem trL_last2 {r : List Nat} {n : Nat} (hn : (trL r).length = n + 2) : (trL r)[n]? ≠ some 61 := by
  rcases List.eq_nil_or_concat r with rfl | ⟨r', x, rfl⟩
  · simp [trL] at hn
  · rw [List.concat_eq_append, trL_append] at hn ⊢
    have e : trL [x] = tr x := by simp [trL]
    rw [e] at hn ⊢
    unfold tr at hn ⊢
    split
    · rename_i h; rw [if_pos h] at hn
      simp at hn
      rw [List.getElem?_append_right (by omega)]
      have : n - (trL r').length = 1 := by omega
      rw [this]; decide
    · split
      · rename_i h1 h; rw [if_neg h1, if_pos h] at hn
        simp at hn
        rw [List.getElem?_append_right (by omega)]
        have : n - (trL r').length = 1 := by omega
        rw [this]; decide
      · rename_i h1 h; rw [if_neg h1, if_neg h] at hn
        simp at hn
        rw [List.getElem?_append_left (by omega)]
        have hl := trL_last (r := r')
        rw [List.getLast?_eq_getElem?] at hl
        have : (trL r').length - 1 = n := by omega
        rw [this] at hl
        exact hl
theorem tr_big {c : Nat} (h : wch c) (hs : 1 < sz c) : ∃ a b, tr c = [61, a, b] := by
  have := tr_len h
  unfold tr at this ⊢
  split
  · exact ⟨_, _, rfl⟩
  · split
    · exact ⟨_, _, rfl⟩
    · rename_i h1 h2
      rw [if_neg h1, if_neg h2] at this
      simp at this
      omega
theorem rowsOf_succ (m f : Nat) (t : List Nat) : rowsOf m (f + 1) t = if t.length ≤ m then [t]
    else if t[m - 3]? = some 61 then t.take (m - 2) :: rowsOf m f (t.drop (m - 3))
    else if t[m - 2]? = some 61 then t.take (m - 1) :: rowsOf m f (t.drop (m - 2))
    else (t.take (m - 1) ++ [61]) :: rowsOf m f (t.drop (m - 1)) := rfl
theorem rowsOf_segs {m : Nat} (hm : 4 ≤ m) : ∀ (f f' : Nat) (W : List Nat), (∀ c ∈ W, wch c) → W.length ≤ f → W.length ≤ f' → rowsOf m f' (trL W) = softRows (segs m f W)
  | 0, f', W, hw, h, h' => by
    have : W = [] := by simpa using h
    subst this
    cases f' with
    | zero => rfl
    | succ f' => unfold rowsOf; rw [if_pos (by simp [trL])]; rfl
  | f + 1, f', W, hw, h, h' => by
    have hT := trL_len hw
    unfold segs
    by_cases hs : size W ≤ (m : Int)
    · rw [if_pos hs]
      cases f' with
      | zero => rfl
      | succ f' => unfold rowsOf; rw [if_pos (by omega)]; rfl
    · rw [if_neg hs]
      have hm' : (4 : Int) ≤ (m : Int) := by omega
      have happ := takeRow_app W ((m : Int) - 1)
      have hle := takeRow_le W ((m : Int) - 1) (by omega)
      have hsz := congrArg size happ
      rw [size_append] at hsz
      cases h2 : (takeRow ((m : Int) - 1) W).2 with
      | nil => rw [h2, size_nil] at hsz; omega
      | cons c l =>
        have hnext := takeRow_next W ((m : Int) - 1) h2
        generalize hrr : (takeRow ((m : Int) - 1) W).1 = r at *
        rw [h2] at happ
        have hcz := sz_pos c
        have hr : r ≠ [] := by
          rintro rfl
          rw [size_nil] at hnext
          omega
        have hlen := congrArg List.length happ
        rw [List.length_append] at hlen
        have hpos : 0 < r.length := List.length_pos_iff.mpr hr
        have hwr : ∀ x ∈ r, wch x := fun x hx => hw x (by rw [← happ]; exact List.mem_append_left _ hx)
        have hwl : ∀ x ∈ c :: l, wch x := fun x hx => hw x (by rw [← happ]; exact List.mem_append_right _ hx)
        have hwc : wch c := hwl c (by simp)
        cases f' with
        | zero => omega
        | succ f' =>
          have ih := rowsOf_segs hm f f' (c :: l) hwl (by omega) (by omega)
          have hR := trL_len hwr
          have hTr : trL W = trL r ++ trL (c :: l) := by rw [← happ, trL_append]
          have hnot : ¬ (trL W).length ≤ m := by omega
          have hgoal : softRows (r :: segs (m : Int) f (c :: l)) = (trL r ++ [61]) :: softRows (segs (m : Int) f (c :: l)) := by
            cases hx : segs (m : Int) f (c :: l) with
            | nil => exact absurd hx (segs_ne _ _ _)
            | cons a t => rfl
          rw [hgoal, ← ih, rowsOf_succ, if_neg hnot]
          have hk : (trL r).length = m - 1 ∨ (trL r).length = m - 2 ∨ (trL r).length = m - 3 := by omega
          rcases hk with hk | hk | hk
          · (try clear hnext); (try clear hT); (try clear hle); (try clear hsz); (try clear hcz); (try clear hlen); (try clear hm'); (try clear hR); (try clear hnot); (try clear hs); (try clear h); (try clear h'); (try clear ih); (try clear happ); (try clear hpos)
            have a1 : ¬ (trL W)[m - 3]? = some 61 := by
              rw [hTr, List.getElem?_append_left (by omega)]
              exact trL_last2 (by omega)
            have a2 : ¬ (trL W)[m - 2]? = some 61 := by
              rw [hTr, List.getElem?_append_left (by omega)]
              have := trL_last (r := r)
              rw [List.getLast?_eq_getElem?] at this
              rwa [show (trL r).length - 1 = m - 2 by omega] at this
            rw [if_neg a1, if_neg a2, hTr]
            have b1 : (trL r ++ trL (c :: l)).take (m - 1) = trL r := by rw [← hk]; simp
            have b2 : (trL r ++ trL (c :: l)).drop (m - 1) = trL (c :: l) := by rw [← hk]; simp
            rw [b1, b2]
          · obtain ⟨x, y, hxy⟩ := tr_big hwc (by omega)
            (try clear hnext); (try clear hT); (try clear hle); (try clear hsz); (try clear hcz); (try clear hlen); (try clear hm'); (try clear hR); (try clear hnot); (try clear hs); (try clear h); (try clear h'); (try clear ih); (try clear happ); (try clear hpos)
            have hc2 : trL (c :: l) = 61 :: x :: y :: trL l := by rw [trL_cons, hxy]; rfl
            have a1 : ¬ (trL W)[m - 3]? = some 61 := by
              rw [hTr, List.getElem?_append_left (by omega)]
              have := trL_last (r := r)
              rw [List.getLast?_eq_getElem?] at this
              rwa [show (trL r).length - 1 = m - 3 by omega] at this
            have a2 : (trL W)[m - 2]? = some 61 := by
              rw [hTr, List.getElem?_append_right (by omega), hk, hc2]
              simp
            rw [if_neg a1, if_pos a2, hTr]
            have b1 : (trL r ++ trL (c :: l)).take (m - 1) = trL r ++ [61] := by
              rw [show m - 1 = (trL r).length + 1 by omega, List.take_length_add_append, hc2]
              rfl
            have b2 : (trL r ++ trL (c :: l)).drop (m - 2) = trL (c :: l) := by rw [← hk]; simp
            rw [b1, b2]
          · obtain ⟨x, y, hxy⟩ := tr_big hwc (by omega)
            (try clear hnext); (try clear hT); (try clear hle); (try clear hsz); (try clear hcz); (try clear hlen); (try clear hm'); (try clear hR); (try clear hnot); (try clear hs); (try clear h); (try clear h'); (try clear ih); (try clear happ); (try clear hpos)
            have hc2 : trL (c :: l) = 61 :: x :: y :: trL l := by rw [trL_cons, hxy]; rfl
            have a1 : (trL W)[m - 3]? = some 61 := by
              rw [hTr, List.getElem?_append_right (by omega), hk, hc2]
              simp
            rw [if_pos a1, hTr]
            have b1 : (trL r ++ trL (c :: l)).take (m - 2) = trL r ++ [61] := by
              rw [show m - 2 = (trL r).length + 1 by omega, List.take_length_add_append, hc2]
              rfl
            have b2 : (trL r ++ trL (c :: l)).drop (m - 3) = trL (c :: l) := by rw [← hk]; simp
            rw [b1, b2]
end Mine
end
section
set_option linter.unusedVariables false
set_option linter.unusedSectionVars false
namespace Mine

/-! ## decode, over signs -/
noncomputable def ech (c : Nat) : Prop := c = 9 ∨ c = 10 ∨ c = 13 ∨ (32 ≤ c ∧ c ≤ 126)
noncomputable def gch (c : Nat) : Prop := ech c ∨ c = 233
noncomputable def Nf (l : List Nat) : Prop := ∀ c ∈ l, c ≠ 10 ∧ c ≠ 13

theorem linesL_no {k : Nat → Bool} {c : Nat} (h : k c = false) (l : List Nat) : linesL k (c :: l) = match linesL k l with
    | [] => [[c]]
    | r :: rs => (c :: r) :: rs := by
  rw [linesL.eq_def]
  simp only [h, Bool.false_eq_true, if_false]
  all_goals (cases linesL k l <;> rfl)
theorem linesL_yes {k : Nat → Bool} {c : Nat} (h : k c = true) (l : List Nat) : linesL k (c :: l) = match l with
    | d :: l' => if c = 13 ∧ d = 10 then [] :: linesL k l' else [] :: linesL k (d :: l')
    | [] => [[]] := by
  rw [linesL.eq_def]
  simp only [h, if_true]
  all_goals (cases l <;> rfl)
theorem lines_free {k : Nat → Bool} : ∀ {a : List Nat}, (∀ c ∈ a, k c = false) → linesL k a = if a = [] then [] else [a]
  | [], _ => by simp [linesL]
  | c :: a, h => by
    have hc : k c = false := h c (by simp)
    have ih := lines_free (fun c hc => h c (List.mem_cons_of_mem _ hc) : ∀ c ∈ a, k c = false)
    rw [linesL_no hc, ih]
    cases a <;> simp
theorem lines_step {k : Nat → Bool} : ∀ {a : List Nat} {y : List Nat} {z : List (List Nat)}, (∀ c ∈ a, k c = false) → linesL k y = [] :: z → linesL k (a ++ y) = a :: z
  | [], y, z, _, h => h
  | c :: a, y, z, h, hy => by
    have hc : k c = false := h c (by simp)
    have ih := lines_step (fun c hc => h c (List.mem_cons_of_mem _ hc) : ∀ c ∈ a, k c = false) hy
    rw [List.cons_append, linesL_no hc, ih]
theorem lines_lf {k : Nat → Bool} (hk : k 10 = true) (y : List Nat) : linesL k (10 :: y) = [] :: linesL k y := by
  rw [linesL_yes hk]
  cases y <;> simp [linesL]
theorem lines_crlf {k : Nat → Bool} (hk : k 13 = true) (y : List Nat) : linesL k (13 :: 10 :: y) = [] :: linesL k y := by
  rw [linesL_yes hk]
  simp
theorem lines_cr {k : Nat → Bool} (hk : k 13 = true) {y : List Nat} (hy : y.head? ≠ some 10) : linesL k (13 :: y) = [] :: linesL k y := by
  rw [linesL_yes hk]
  cases y with
  | nil => simp [linesL]
  | cons d l => have : d ≠ 10 := by simpa using hy
                simp [this]

theorem dc_ne {c : Nat} (h : c ≠ 61) (l : List Nat) : dc (c :: l) = c :: dc l := by
  match l with
  | [] => simp [dc, h]
  | [d] => simp [dc]
  | d :: e :: l => rw [dc, if_neg h]
theorem dc_hex {d e : Nat} (hd : isHex d = true) (he : isHex e = true) (l : List Nat) : dc (61 :: d :: e :: l) = (16 * hexVal d + hexVal e) :: dc l := by
  rw [dc, if_pos rfl, hd, he]; rfl
theorem dc_tr (c : Nat) (l : List Nat) : dc (tr c ++ l) = c :: dc l := by
  unfold tr
  split
  · rename_i h; subst h; exact dc_hex (by decide) (by decide) l
  · split
    · rename_i h; subst h; exact dc_hex (by decide) (by decide) l
    · rename_i h _; exact dc_ne h l
theorem dc_trL : ∀ (a l : List Nat), dc (trL a ++ l) = a ++ dc l
  | [], l => rfl
  | c :: a, l => by rw [trL_cons, List.append_assoc, dc_tr, dc_trL a l]; rfl

theorem rstrip_snoc (p : Nat → Bool) (l : List Nat) (x : Nat) : rstripL p (l ++ [x]) = if p x then rstripL p l else l ++ [x] := by
  unfold rstripL
  rw [List.reverse_append]
  show (List.dropWhile p (x :: l.reverse)).reverse = _
  rw [List.dropWhile_cons]
  split
  · rfl
  · simp

section
variable {k sp : Nat → Bool} (hk : ∀ c, ech c → (k c = true ↔ (c = 10 ∨ c = 13))) (hs : ∀ c, ech c → (sp c = true ↔ (c = 9 ∨ c = 10 ∨ c = 13 ∨ c = 32)))
include hk hs

theorem tr_ech {c : Nat} (h : gch c) : ∀ d ∈ tr c, ech d := by
  unfold tr
  split
  · intro d hd; simp at hd; unfold ech; omega
  · split
    · intro d hd; simp at hd; unfold ech; omega
    · rename_i h1 h2
      intro d hd
      simp at hd; subst hd
      exact h.resolve_right h2
theorem tr_free {c : Nat} (h : gch c) (hn : c ≠ 10 ∧ c ≠ 13) : ∀ d ∈ tr c, k d = false := by
  intro d hd
  have he := tr_ech hk hs h d hd
  have : d ≠ 10 ∧ d ≠ 13 := by
    unfold tr at hd
    split at hd
    · simp at hd; omega
    · split at hd
      · simp at hd; omega
      · simp at hd; subst hd; exact hn
  cases hq : k d with
  | false => rfl
  | true => rcases (hk d he).mp hq with h | h <;> simp [h] at this
theorem trL_free : ∀ {a : List Nat}, (∀ c ∈ a, gch c) → Nf a → ∀ d ∈ trL a, k d = false
  | [], _, _, d, hd => by simp [trL] at hd
  | c :: a, hg, hn, d, hd => by
    rw [trL_cons, List.mem_append] at hd
    rcases hd with hd | hd
    · exact tr_free hk hs (hg c (by simp)) (hn c (by simp)) d hd
    · exact trL_free (fun c hc => hg c (List.mem_cons_of_mem _ hc)) (fun c hc => hn c (List.mem_cons_of_mem _ hc)) d hd
theorem rstrip_trL {a : List Nat} (hg : ∀ c ∈ a, gch c) (hn : Nf a) : rstripL sp (trL a) = trL (rstripL bt a) := by
  generalize hlen : a.length = n
  induction n generalizing a with
  | zero =>
    have : a = [] := by simpa using hlen
    subst this; rfl
  | succ n ih =>
    rcases List.eq_nil_or_concat a with rfl | ⟨a', x, rfl⟩
    · simp at hlen
    · rw [List.concat_eq_append] at *
      have hx := hg x (by simp)
      have hnx := hn x (by simp)
      have ih' := ih (a := a') (fun c hc => hg c (by simp [hc])) (fun c hc => hn c (by simp [hc])) (by simpa using hlen)
      have e : trL [x] = tr x := by simp [trL]
      rw [trL_append, e, rstrip_snoc]
      by_cases h61 : x = 61
      · subst h61
        have e2 : trL a' ++ tr 61 = (trL a' ++ [61, 51]) ++ [68] := by simp [tr]
        have : sp 68 = false := by
          cases hq : sp 68 with
          | false => rfl
          | true => have := (hs 68 (by unfold ech; omega)).mp hq; omega
        rw [e2, rstrip_snoc, this]
        rw [if_neg (by decide), if_neg (by decide), trL_append]
        simp [trL, tr]
      · by_cases h233 : x = 233
        · subst h233
          have e2 : trL a' ++ tr 233 = (trL a' ++ [61, 69]) ++ [57] := by simp [tr]
          have : sp 57 = false := by
            cases hq : sp 57 with
            | false => rfl
            | true => have := (hs 57 (by unfold ech; omega)).mp hq; omega
          rw [e2, rstrip_snoc, this]
          rw [if_neg (by decide), if_neg (by decide), trL_append]
          simp [trL, tr]
        · have hex : ech x := hx.resolve_right h233
          rw [tr_self h61 h233, rstrip_snoc]
          have hb : sp x = bt x := by
            have h1 := hs x hex
            unfold bt
            by_cases h2 : x = 32
            · subst h2
              have : sp 32 = true := h1.mpr (by omega)
              rw [this]; rfl
            · by_cases h3 : x = 9
              · subst h3
                have : sp 9 = true := h1.mpr (by omega)
                rw [this]; rfl
              · have : sp x = false := by
                  cases hq : sp x with
                  | false => rfl
                  | true => have := h1.mp hq; omega
                rw [this]
                simp [h2, h3]
          rw [hb, ih']
          split
          · rfl
          · rw [trL_append, e, tr_self h61 h233]
theorem trL_eq_nil {a : List Nat} : trL a = [] ↔ a = [] := by
  cases a with
  | nil => simp [trL]
  | cons c a =>
    have : tr c ≠ [] := by unfold tr; split; simp; split <;> simp
    rw [trL_cons]
    simp [this]
theorem decLine_trL {a : List Nat} (hg : ∀ c ∈ a, gch c) (hn : Nf a) : decLine sp (trL a) = rstripL bt a ++ [10] := by
  unfold decLine
  rw [rstrip_trL hk hs hg hn]
  split
  · rename_i h
    rw [(trL_eq_nil hk hs).mp h]; rfl
  · have := dc_trL (rstripL bt a) []
    rw [List.append_nil] at this
    rw [this]; rfl
theorem sp61 : sp 61 = false := by
  cases hq : sp 61 with
  | false => rfl
  | true => have := (hs 61 (by unfold ech; omega)).mp hq; omega
theorem sp48 : sp 48 = false := by
  cases hq : sp 48 with
  | false => rfl
  | true => have := (hs 48 (by unfold ech; omega)).mp hq; omega
theorem decLine_soft (a : List Nat) : decLine sp (trL a ++ [61]) = a := by
  unfold decLine
  rw [rstrip_snoc, sp61 hk hs]
  simp only [Bool.false_eq_true, if_false]
  rw [if_neg (by simp), dc_trL]
  simp [dc]
theorem decLine_bl (a : List Nat) : decLine sp (trL a ++ [61, 50, 48]) = a ++ [32, 10] := by
  have e : trL a ++ [61, 50, 48] = (trL a ++ [61, 50]) ++ [48] := by simp
  unfold decLine
  rw [e, rstrip_snoc, sp48 hk hs]
  simp only [Bool.false_eq_true, if_false]
  rw [if_neg (by simp), ← e, dc_trL]
  rfl
end

/-! the parts of a line -/
theorem nl_cases : ∀ (l : List Nat), Nf l ∨ ∃ a l', Nf a ∧ (l = a ++ 10 :: l' ∨ l = a ++ 13 :: 10 :: l' ∨ (l = a ++ 13 :: l' ∧ l'.head? ≠ some 10))
  | [] => .inl fun c hc => by simp at hc
  | c :: l => by
    by_cases h10 : c = 10
    · subst h10
      exact .inr ⟨[], l, fun c hc => by simp at hc, .inl rfl⟩
    · by_cases h13 : c = 13
      · subst h13
        cases l with
        | nil => exact .inr ⟨[], [], fun c hc => by simp at hc, .inr (.inr ⟨rfl, by simp⟩)⟩
        | cons d l =>
          by_cases hd : d = 10
          · subst hd
            exact .inr ⟨[], l, fun c hc => by simp at hc, .inr (.inl rfl)⟩
          · exact .inr ⟨[], d :: l, fun c hc => by simp at hc, .inr (.inr ⟨rfl, by simpa using hd⟩)⟩
      · rcases nl_cases l with h | ⟨a, l', ha, h⟩
        · refine .inl fun x hx => ?_
          rcases List.mem_cons.mp hx with rfl | hx
          · exact ⟨h10, h13⟩
          · exact h x hx
        · refine .inr ⟨c :: a, l', fun x hx => ?_, ?_⟩
          · rcases List.mem_cons.mp hx with rfl | hx
            · exact ⟨h10, h13⟩
            · exact ha x hx
          · rcases h with rfl | rfl | ⟨rfl, h⟩
            · exact .inl rfl
            · exact .inr (.inl rfl)
            · exact .inr (.inr ⟨rfl, h⟩)
theorem split_free : ∀ {a : List Nat}, (∀ c ∈ a, c ≠ 10) → splitNl a = [a]
  | [], _ => rfl
  | c :: a, h => by
    rw [splitNl, if_neg (h c (by simp)), split_free (fun c hc => h c (List.mem_cons_of_mem _ hc))]
theorem split_at : ∀ {a : List Nat} (y : List Nat), (∀ c ∈ a, c ≠ 10) → splitNl (a ++ 10 :: y) = a :: splitNl y
  | [], y, _ => by rw [List.nil_append, splitNl, if_pos rfl]
  | c :: a, y, h => by
    rw [List.cons_append, splitNl, if_neg (h c (by simp)), split_at y (fun c hc => h c (List.mem_cons_of_mem _ hc))]
theorem repA {r : List Nat} {p : List Nat} {x : Nat} (hp : p.head? = some x) : ∀ (a l : List Nat), (∀ c ∈ a, c ≠ x) → rep p r (a ++ l) = a ++ rep p r l
  | [], l, _ => rfl
  | c :: a, l, h => by
    rw [List.cons_append, rep_cons, if_neg, repA hp a l (fun c hc => h c (List.mem_cons_of_mem _ hc))]
    · rfl
    · cases p with
      | nil => simp at hp
      | cons y p =>
        have : y = x := by simpa using hp
        subst this
        have hc : c ≠ y := h c (by simp)
        rw [List.isPrefixOf, nb (Ne.symm hc)]
        simp
theorem crlf1 (l : List Nat) : rep [13, 10] [10] (13 :: 10 :: l) = 10 :: rep [13, 10] [10] l := by
  rw [rep_cons, if_pos (by simp [List.isPrefixOf])]; rfl
theorem crlf2 {l : List Nat} (h : l.head? ≠ some 10) : rep [13, 10] [10] (13 :: l) = 13 :: rep [13, 10] [10] l := by
  rw [rep_cons, if_neg]
  cases l with
  | nil => simp [List.isPrefixOf]
  | cons d l => have : d ≠ 10 := by simpa using h
                simp [List.isPrefixOf, Ne.symm this]
theorem cr1 (l : List Nat) : rep [13] [10] (13 :: l) = 10 :: rep [13] [10] l := by
  rw [rep_cons, if_pos (by simp [List.isPrefixOf])]; rfl
theorem parts_free {l : List Nat} (h : Nf l) : partsOf l = [l] := by
  have h1 : ∀ c ∈ l, c ≠ 13 := fun c hc => (h c hc).2
  unfold partsOf
  have e1 := repA (r := [10]) (p := [13, 10]) rfl l [] h1
  rw [List.append_nil, rep_nil, List.append_nil] at e1
  have e2 := repA (r := [10]) (p := [13]) rfl l [] h1
  rw [List.append_nil, rep_nil, List.append_nil] at e2
  rw [e1, e2, split_free (fun c hc => (h c hc).1)]
theorem parts_nl {a l l' : List Nat} (ha : Nf a) (h : l = a ++ 10 :: l' ∨ l = a ++ 13 :: 10 :: l' ∨ (l = a ++ 13 :: l' ∧ l'.head? ≠ some 10)) : partsOf l = a :: partsOf l' := by
  have h1 : ∀ c ∈ a, c ≠ 13 := fun c hc => (ha c hc).2
  have h2 : ∀ c ∈ a, c ≠ 10 := fun c hc => (ha c hc).1
  have f1 : ∀ (l : List Nat), rep [13, 10] [10] (10 :: l) = 10 :: rep [13, 10] [10] l := fun l => repA (p := [13, 10]) (x := 13) rfl [10] l (by decide)
  have f2 : ∀ (l : List Nat), rep [13] [10] (10 :: l) = 10 :: rep [13] [10] l := fun l => repA (p := [13]) (x := 13) rfl [10] l (by decide)
  unfold partsOf
  rcases h with rfl | rfl | ⟨rfl, h⟩
  · rw [repA (p := [13, 10]) rfl _ _ h1, f1, repA (p := [13]) rfl _ _ h1, f2, split_at _ h2]
  · rw [repA (p := [13, 10]) rfl _ _ h1, crlf1, repA (p := [13]) rfl _ _ h1, f2, split_at _ h2]
  · rw [repA (p := [13, 10]) rfl _ _ h1, crlf2 h, repA (p := [13]) rfl _ _ h1, cr1, split_at _ h2]
theorem splitNl_ne : ∀ (l : List Nat), splitNl l ≠ []
  | [] => by simp [splitNl]
  | c :: l => by
    rw [splitNl]
    split
    · simp
    · split <;> simp
theorem parts_ne (l : List Nat) : partsOf l ≠ [] := splitNl_ne _
theorem due_free {l : List Nat} (keep : Bool) (h : Nf l) : dueLine keep l = if keep then l else rstripL bt l := by
  unfold dueLine
  rw [parts_free h]
  simp
theorem due_nl {a l l' : List Nat} (keep : Bool) (ha : Nf a) (h : l = a ++ 10 :: l' ∨ l = a ++ 13 :: 10 :: l' ∨ (l = a ++ 13 :: l' ∧ l'.head? ≠ some 10)) : dueLine keep l = rstripL bt a ++ 10 :: dueLine keep l' := by
  unfold dueLine
  rw [parts_nl ha h]
  cases hx : partsOf l' with
  | nil => exact absurd hx (parts_ne _)
  | cons b t => simp [List.dropLast_cons_cons, List.getLastD]
noncomputable def lastPart (l : List Nat) : List Nat := (partsOf l).getLastD []
theorem last_nl {a l l' : List Nat} (ha : Nf a) (h : l = a ++ 10 :: l' ∨ l = a ++ 13 :: 10 :: l' ∨ (l = a ++ 13 :: l' ∧ l'.head? ≠ some 10)) : lastPart l = lastPart l' := by
  unfold lastPart
  rw [parts_nl ha h]
  cases hx : partsOf l' with
  | nil => exact absurd hx (parts_ne _)
  | cons b t => simp [List.getLastD]
end Mine
end
section
set_option linter.unusedVariables false
set_option linter.unusedSectionVars false
namespace Mine

section
variable {k sp : Nat → Bool} (hk : ∀ c, ech c → (k c = true ↔ (c = 10 ∨ c = 13))) (hs : ∀ c, ech c → (sp c = true ↔ (c = 9 ∨ c = 10 ∨ c = 13 ∨ c = 32)))
include hk hs
theorem k10 : k 10 = true := (hk 10 (by unfold ech; omega)).mpr (by omega)
theorem k13 : k 13 = true := (hk 13 (by unfold ech; omega)).mpr (by omega)
theorem k61 : k 61 = false := by
  cases hq : k 61 with
  | false => rfl
  | true => have := (hk 61 (by unfold ech; omega)).mp hq; omega

theorem head_trL {l' y : List Nat} (h : l'.head? ≠ some 10) (hy : y.head? ≠ some 10) : (trL l' ++ y).head? ≠ some 10 := by
  cases l' with
  | nil => simpa [trL] using hy
  | cons c l =>
    have hc : c ≠ 10 := by simpa using h
    rw [trL_cons]
    unfold tr
    split
    · simp
    · split
      · simp
      · simpa using hc
/-- one step of decode over a line end within a row -/
theorem body_nl {a l l' : List Nat} (y : List Nat) (hy : y.head? ≠ some 10) (hg : ∀ c ∈ l, gch c) (ha : Nf a) (h : l = a ++ 10 :: l' ∨ l = a ++ 13 :: 10 :: l' ∨ (l = a ++ 13 :: l' ∧ l'.head? ≠ some 10)) :
    decBody k sp (trL l ++ y) = rstripL bt a ++ 10 :: decBody k sp (trL l' ++ y) := by
  have hga : ∀ c ∈ a, gch c := fun c hc => hg c (by rcases h with rfl | rfl | ⟨rfl, _⟩ <;> exact List.mem_append_left _ hc)
  have hfree := trL_free hk hs hga ha
  have t10 : tr 10 = [10] := by decide
  have t13 : tr 13 = [13] := by decide
  have key : linesL k (trL l ++ y) = trL a :: linesL k (trL l' ++ y) := by
    rcases h with rfl | rfl | ⟨rfl, h⟩
    · rw [trL_append, trL_cons, t10, List.append_assoc]
      exact lines_step hfree (lines_lf (k10 hk hs) _)
    · rw [trL_append, trL_cons, trL_cons, t10, t13, List.append_assoc]
      exact lines_step hfree (lines_crlf (k13 hk hs) _)
    · rw [trL_append, trL_cons, t13, List.append_assoc]
      exact lines_step hfree (lines_cr (k13 hk hs) (head_trL hk hs h hy))
  unfold decBody
  rw [key, List.flatMap_cons, decLine_trL hk hs hga ha]
  simp
theorem sub_of {a l l' : List Nat} (h : l = a ++ 10 :: l' ∨ l = a ++ 13 :: 10 :: l' ∨ (l = a ++ 13 :: l' ∧ l'.head? ≠ some 10)) : (∀ c ∈ l', c ∈ l) ∧ l'.length < l.length := by
  rcases h with rfl | rfl | ⟨rfl, _⟩
  · exact ⟨fun c hc => by simp [hc], by simp; omega⟩
  · exact ⟨fun c hc => by simp [hc], by simp; omega⟩
  · exact ⟨fun c hc => by simp [hc], by simp; omega⟩
/-- a row with another row behind it -/
theorem body_soft (x : List Nat) : ∀ (n : Nat) (l : List Nat), l.length ≤ n → (∀ c ∈ l, gch c) → decBody k sp (trL l ++ 61 :: 10 :: x) = dueLine true l ++ decBody k sp x
  | n, l, hn, hg => by
    rcases nl_cases l with h | ⟨a, l', ha, h⟩
    · rw [due_free true h]
      have e : trL l ++ 61 :: 10 :: x = (trL l ++ [61]) ++ 10 :: x := by simp
      have hfree : ∀ c ∈ trL l ++ [61], k c = false := fun c hc => by
        rcases List.mem_append.mp hc with hc | hc
        · exact trL_free hk hs hg h c hc
        · have : c = 61 := by simpa using hc
          subst this; exact k61 hk hs
      unfold decBody
      rw [e, lines_step hfree (lines_lf (k10 hk hs) x), List.flatMap_cons, decLine_soft hk hs]
      simp
    · have hsub := sub_of hk hs h
      cases n with
      | zero => omega
      | succ n =>
        rw [body_nl hk hs (61 :: 10 :: x) (by simp) hg ha h, body_soft x n l' (by omega) (fun c hc => hg c (hsub.1 c hc)), due_nl true ha h]
        simp
/-- the last row -/
theorem body_last : ∀ (n : Nat) (l : List Nat), l.length ≤ n → (∀ c ∈ l, gch c) → decBody k sp (trL l) = dueLine false l ++ (if lastPart l = [] then [] else [10])
  | n, l, hn, hg => by
    rcases nl_cases l with h | ⟨a, l', ha, h⟩
    · rw [due_free false h]
      have hp : lastPart l = l := by unfold lastPart; rw [parts_free h]; rfl
      rw [hp]
      unfold decBody
      rw [lines_free (trL_free hk hs hg h)]
      by_cases hl : l = []
      · subst hl; rfl
      · rw [if_neg (fun e => hl ((trL_eq_nil hk hs).mp e)), if_neg hl, List.flatMap_cons, decLine_trL hk hs hg h]
        simp
    · have hsub := sub_of hk hs h
      cases n with
      | zero => omega
      | succ n =>
        have := body_nl hk hs [] (by simp) hg ha h
        rw [List.append_nil, List.append_nil] at this
        rw [this, body_last n l' (by omega) (fun c hc => hg c (hsub.1 c hc)), due_nl false ha h, last_nl ha h]
        simp
theorem body_bl : ∀ (n : Nat) (l : List Nat), l.length ≤ n → (∀ c ∈ l, gch c) → decBody k sp (trL l ++ [61, 50, 48]) = dueLine true l ++ [32, 10]
  | n, l, hn, hg => by
    rcases nl_cases l with h | ⟨a, l', ha, h⟩
    · rw [due_free true h]
      have hx : ∀ c, c = 61 ∨ c = 50 ∨ c = 48 → k c = false := fun c hc => by
        cases hq : k c with
        | false => rfl
        | true => have := (hk c (by unfold ech; omega)).mp hq; omega
      have hfree : ∀ c ∈ trL l ++ [61, 50, 48], k c = false := fun c hc => by
        rcases List.mem_append.mp hc with hc | hc
        · exact trL_free hk hs hg h c hc
        · exact hx c (by simpa using hc)
      unfold decBody
      rw [lines_free hfree, if_neg (by simp), List.flatMap_cons, decLine_bl hk hs]
      simp
    · have hsub := sub_of hk hs h
      cases n with
      | zero => omega
      | succ n =>
        rw [body_nl hk hs [61, 50, 48] (by simp) hg ha h, body_bl n l' (by omega) (fun c hc => hg c (hsub.1 c hc)), due_nl true ha h]
        simp
theorem due_snoc : ∀ (n : Nat) (l : List Nat), l.length ≤ n → dueLine true (l ++ [32]) = dueLine true l ++ [32]
  | n, l, hn => by
    rcases nl_cases l with h | ⟨a, l', ha, h⟩
    · rw [due_free true h, due_free true]
      · rfl
      · intro c hc
        rcases List.mem_append.mp hc with hc | hc
        · exact h c hc
        · have : c = 32 := by simpa using hc
          subst this; decide
    · have hsub := sub_of hk hs h
      cases n with
      | zero => omega
      | succ n =>
        have h' : l ++ [32] = a ++ 10 :: (l' ++ [32]) ∨ l ++ [32] = a ++ 13 :: 10 :: (l' ++ [32]) ∨ (l ++ [32] = a ++ 13 :: (l' ++ [32]) ∧ (l' ++ [32]).head? ≠ some 10) := by
          rcases h with rfl | rfl | ⟨rfl, h⟩
          · exact .inl (by simp)
          · exact .inr (.inl (by simp))
          · refine .inr (.inr ⟨by simp, ?_⟩)
            cases l' with
            | nil => simp
            | cons d t => simpa using h
        rw [due_nl true ha h', due_nl true ha h, due_snoc n l' (by omega)]
        simp
/-- where the last row ends in a line end -/
theorem last_char : ∀ (n : Nat) (l : List Nat), l.length ≤ n → l ≠ [] → ((lastPart l = [] → (trL l).getLast? = some 10 ∨ (trL l).getLast? = some 13) ∧ (lastPart l ≠ [] → (trL l).getLast? ≠ some 10 ∧ (trL l).getLast? ≠ some 13))
  | n, l, hn, hl => by
    rcases nl_cases l with h | ⟨a, l', ha, h⟩
    · have hp : lastPart l = l := by unfold lastPart; rw [parts_free h]; rfl
      rw [hp]
      refine ⟨fun e => absurd e hl, fun _ => ?_⟩
      rcases List.eq_nil_or_concat l with rfl | ⟨l0, x, rfl⟩
      · exact absurd rfl hl
      · rw [List.concat_eq_append] at *
        have hx := h x (by simp)
        have e : trL [x] = tr x := by simp [trL]
        rw [trL_append, e]
        unfold tr
        split
        · simp
        · split
          · simp
          · simpa using hx
    · have hsub := sub_of hk hs h
      cases n with
      | zero => omega
      | succ n =>
        rw [last_nl ha h]
        by_cases hl' : l' = []
        · subst hl'
          have hp : lastPart [] = [] := by unfold lastPart; rw [parts_free (fun c hc => by simp at hc)]; rfl
          rw [hp]
          refine ⟨fun _ => ?_, fun e => absurd rfl e⟩
          rcases h with rfl | rfl | ⟨rfl, _⟩
          · left; simp [trL_append, trL_cons, trL_nil, tr]
          · left; simp [trL_append, trL_cons, trL_nil, tr]
          · right; simp [trL_append, trL_cons, trL_nil, tr]
        · have ih := last_char n l' (by omega) hl'
          have e : (trL l).getLast? = (trL l').getLast? := by
            have hne : trL l' ≠ [] := fun e => hl' ((trL_eq_nil hk hs).mp e)
            have : ∃ z, trL l = z ++ trL l' := by
              rcases h with rfl | rfl | ⟨rfl, _⟩
              · exact ⟨trL a ++ tr 10, by rw [trL_append, trL_cons]; simp⟩
              · exact ⟨trL a ++ (tr 13 ++ tr 10), by rw [trL_append, trL_cons, trL_cons]; simp⟩
              · exact ⟨trL a ++ tr 13, by rw [trL_append, trL_cons]; simp⟩
            obtain ⟨z, hz⟩ := this
            rw [hz, List.getLast?_append]
            cases hx : (trL l').getLast? with
            | none => simp at hx; exact absurd hx hne
            | some v => rfl
          rw [e]; exact ih

/-- what decode makes of a mail, by its end -/
noncomputable def Fin (k sp : Nat → Bool) (x v : List Nat) : Prop :=
  (x = [] ∧ v = []) ∨ (x ≠ [] ∧ decBody k sp x = v ∧ (x.getLast? = some 10 ∨ x.getLast? = some 13)) ∨ (x ≠ [] ∧ decBody k sp x = v ++ [10] ∧ x.getLast? ≠ some 10 ∧ x.getLast? ≠ some 13)
theorem Fin.dec {x v : List Nat} (h : Fin k sp x v) : decG k sp x = v := by
  unfold decG
  rcases h with ⟨rfl, rfl⟩ | ⟨hx, hv, hl⟩ | ⟨hx, hv, h1, h2⟩
  · rfl
  · rw [if_neg hx, if_neg, hv]
    rintro ⟨⟨a, b⟩, _⟩
    rcases hl with hl | hl
    · exact a hl
    · exact b hl
  · rw [if_neg hx, hv, if_pos ⟨⟨h1, h2⟩, by simp⟩]
    simp
theorem Fin.soft {x v l : List Nat} (hg : ∀ c ∈ l, gch c) (h : Fin k sp x v) : Fin k sp (trL l ++ 61 :: 10 :: x) (dueLine true l ++ v) := by
  have hb := body_soft hk hs x l.length l (Nat.le_refl _) hg
  have hne : trL l ++ 61 :: 10 :: x ≠ [] := by simp
  have hlast : x ≠ [] → (trL l ++ 61 :: 10 :: x).getLast? = x.getLast? := fun hx => by
    have e : trL l ++ 61 :: 10 :: x = (trL l ++ [61, 10]) ++ x := by simp
    rw [e, List.getLast?_append]
    cases hq : x.getLast? with
    | none => simp at hq; exact absurd hq hx
    | some v => rfl
  rcases h with ⟨rfl, rfl⟩ | ⟨hx, hv, hl⟩ | ⟨hx, hv, h1, h2⟩
  · refine .inr (.inl ⟨hne, ?_, .inl (by simp)⟩)
    rw [hb]; rfl
  · exact .inr (.inl ⟨hne, by rw [hb, hv], by rw [hlast hx]; exact hl⟩)
  · exact .inr (.inr ⟨hne, by rw [hb, hv, List.append_assoc], by rw [hlast hx]; exact ⟨h1, h2⟩⟩)
theorem Fin.last {l : List Nat} (hg : ∀ c ∈ l, gch c) : Fin k sp (trL l) (dueLine false l) := by
  have hb := body_last hk hs l.length l (Nat.le_refl _) hg
  by_cases hl : l = []
  · subst hl
    exact .inl ⟨rfl, by rw [due_free false (fun c hc => by simp at hc)]; rfl⟩
  · have hne : trL l ≠ [] := fun e => hl ((trL_eq_nil hk hs).mp e)
    have hc := last_char hk hs l.length l (Nat.le_refl _) hl
    by_cases hp : lastPart l = []
    · rw [if_pos hp, List.append_nil] at hb
      exact .inr (.inl ⟨hne, hb, hc.1 hp⟩)
    · rw [if_neg hp] at hb
      exact .inr (.inr ⟨hne, hb, hc.2 hp⟩)
inductive Tl : List Sy → Prop
  | a : Tl [.bl]
  | b : Tl [.ch 32, .br]
  | c : Tl [.br, .bl]
theorem Fin.tail {l : List Nat} {tl : List Sy} (ht : Tl tl) (hg : ∀ c ∈ l, gch c) : Fin k sp (trL l ++ ren tl) (dueLine true (l ++ [32])) := by
  rw [due_snoc hk hs l.length l (Nat.le_refl _)]
  cases ht with
  | a =>
    have hb := body_bl hk hs l.length l (Nat.le_refl _) hg
    have e : ren [Sy.bl] = [61, 50, 48] := rfl
    rw [e]
    exact .inr (.inr ⟨by simp, by rw [hb]; simp, by simp, by simp⟩)
  | b =>
    have hg' : ∀ c ∈ l ++ [32], gch c := fun c hc => by
      rcases List.mem_append.mp hc with hc | hc
      · exact hg c hc
      · have : c = 32 := by simpa using hc
        subst this; left; unfold ech; omega
    have hb := body_soft hk hs [] (l ++ [32]).length (l ++ [32]) (Nat.le_refl _) hg'
    have e : trL l ++ ren [Sy.ch 32, Sy.br] = trL (l ++ [32]) ++ [61, 10] := by rw [trL_append]; simp [ren, Sy.ren, trL]
    rw [e]
    refine .inr (.inl ⟨by simp, ?_, .inl (by simp)⟩)
    rw [hb, due_snoc hk hs l.length l (Nat.le_refl _)]
    simp [decBody, linesL]
  | c =>
    have hb := body_soft hk hs [61, 50, 48] l.length l (Nat.le_refl _) hg
    have hb2 := body_bl hk hs 0 [] (Nat.le_refl _) (fun c hc => by simp at hc)
    have e0 : trL [] ++ [61, 50, 48] = [61, 50, 48] := rfl
    rw [e0, due_free true (fun c hc => by simp at hc)] at hb2
    have e : ren [Sy.br, Sy.bl] = [61, 10, 61, 50, 48] := rfl
    rw [e]
    refine .inr (.inr ⟨by simp, ?_, by simp, by simp⟩)
    rw [hb, hb2]
    simp

noncomputable def appLast (g : List (List Nat)) (c : Nat) : List (List Nat) := match g with
  | [] => [[c]]
  | [l] => [l ++ [c]]
  | l :: l' :: ls => l :: appLast (l' :: ls) c
theorem appLast_ne (g : List (List Nat)) (c : Nat) : appLast g c ≠ [] := by
  match g with
  | [] => simp [appLast]
  | [l] => simp [appLast]
  | l :: l' :: ls => simp [appLast]
theorem fin_groups : ∀ (G : List (List Nat)), G ≠ [] → (∀ l ∈ G, ∀ c ∈ l, gch c) → Fin k sp (ren (joinS G)) (dueGo false G)
  | [], h, _ => absurd rfl h
  | [l], _, hg => by
    show Fin k sp (ren (l.map Sy.ch)) (dueLine false l)
    rw [ren_ch]
    exact Fin.last hk hs (hg l (by simp))
  | l :: l' :: ls, _, hg => by
    have ih := fin_groups (l' :: ls) (by simp) (fun x hx => hg x (List.mem_cons_of_mem _ hx))
    have e : ren (joinS (l :: l' :: ls)) = trL l ++ 61 :: 10 :: ren (joinS (l' :: ls)) := by
      show ren (l.map Sy.ch ++ .br :: joinS (l' :: ls)) = _
      rw [ren_append, ren_ch, ren_cons]; rfl
    rw [e]
    exact Fin.soft hk hs (hg l (by simp)) ih
theorem fin_groups_tl {tl : List Sy} (ht : Tl tl) : ∀ (G : List (List Nat)), G ≠ [] → (∀ l ∈ G, ∀ c ∈ l, gch c) → Fin k sp (ren (joinS G ++ tl)) (dueGo true (appLast G 32))
  | [], h, _ => absurd rfl h
  | [l], _, hg => by
    show Fin k sp (ren (l.map Sy.ch ++ tl)) (dueLine true (l ++ [32]))
    rw [ren_append, ren_ch]
    exact Fin.tail hk hs ht (hg l (by simp))
  | l :: l' :: ls, _, hg => by
    have ih := fin_groups_tl ht (l' :: ls) (by simp) (fun x hx => hg x (List.mem_cons_of_mem _ hx))
    have e : ren (joinS (l :: l' :: ls) ++ tl) = trL l ++ 61 :: 10 :: ren (joinS (l' :: ls) ++ tl) := by
      show ren ((l.map Sy.ch ++ .br :: joinS (l' :: ls)) ++ tl) = _
      rw [List.append_assoc, List.cons_append, ren_append, ren_ch, ren_cons]; rfl
    have e2 : dueGo true (appLast (l :: l' :: ls) 32) = dueLine true l ++ dueGo true (appLast (l' :: ls) 32) := by
      show dueGo true (l :: appLast (l' :: ls) 32) = _
      cases hx : appLast (l' :: ls) 32 with
      | nil => exact absurd hx (appLast_ne hk hs _ _)
      | cons a t => rfl
    rw [e, e2]
    exact Fin.soft hk hs (hg l (by simp)) ih
end
end Mine
end
section
set_option linter.unusedVariables false
set_option linter.unusedSectionVars false
namespace Mine

theorem joinNl_soft : ∀ (g : List (List Nat)), joinNl (softRows g) = ren (joinS g)
  | [] => rfl
  | [l] => (ren_ch l).symm
  | l :: l' :: ls => by
    have ih := joinNl_soft (l' :: ls)
    have e : ren (joinS (l :: l' :: ls)) = trL l ++ 61 :: 10 :: ren (joinS (l' :: ls)) := by
      show ren (l.map Sy.ch ++ .br :: joinS (l' :: ls)) = _
      rw [ren_append, ren_ch, ren_cons]; rfl
    rw [e, ← ih]
    show joinNl ((trL l ++ [61]) :: softRows (l' :: ls)) = _
    cases hx : softRows (l' :: ls) with
    | nil => cases ls <;> cases hx
    | cons a t => simp [joinNl]
theorem soft_ne {g : List (List Nat)} (h : g ≠ []) : softRows g ≠ [] := by
  match g, h with
  | [l], _ => simp [softRows]
  | l :: l' :: ls, _ => simp [softRows]
theorem finish_cons {m : Nat} {r : List Nat} {l : List (List Nat)} (h : l ≠ []) : finish m (r :: l) = r :: finish m l := by
  cases l with
  | nil => exact absurd rfl h
  | cons a t => rfl
theorem finish_ne {m : Nat} {l : List (List Nat)} (h : l ≠ []) : finish m l ≠ [] := by
  match l, h with
  | [l], _ => simp [finish]
  | l :: l' :: ls, _ => simp [finish]
theorem joinNl_cons {r : List Nat} {l : List (List Nat)} (h : l ≠ []) : joinNl (r :: l) = r ++ 10 :: joinNl l := by
  cases l with
  | nil => exact absurd rfl h
  | cons a t => rfl
theorem trL_last32 {r : List Nat} : (trL r).getLast? = some 32 ↔ r.getLast? = some 32 := by
  rcases List.eq_nil_or_concat r with rfl | ⟨r', x, rfl⟩
  · simp [trL]
  · rw [List.concat_eq_append, trL_append]
    have e : trL [x] = tr x := by simp [trL]
    rw [e]
    unfold tr
    split
    · rename_i h; subst h; simp
    · split
      · rename_i h; subst h; simp
      · simp
theorem finish_id {m : Nat} : ∀ (g : List (List Nat)), g ≠ [] → (g.getLastD []).getLast? ≠ some 32 → finish m (softRows g) = softRows g
  | [], h, _ => absurd rfl h
  | [l], _, h => by
    show [lastRow m (trL l)] = [trL l]
    unfold lastRow
    rw [if_neg]
    rw [trL_last32]; exact h
  | l :: l' :: ls, _, h => by
    show finish m ((trL l ++ [61]) :: softRows (l' :: ls)) = _
    rw [finish_cons (soft_ne (by simp)), finish_id (l' :: ls) (by simp) (by simpa [List.getLastD] using h)]
    rfl
theorem last_tl {m : Nat} (hm : 4 ≤ m) (l : List Nat) : ∃ tl, Tl tl ∧ lastRow m (trL (l ++ [32])) = ren (l.map Sy.ch ++ tl) := by
  have e : trL (l ++ [32]) = trL l ++ [32] := by rw [trL_append]; rfl
  have hl : (trL (l ++ [32])).getLast? = some 32 := by rw [trL_last32]; simp
  have hd : (trL (l ++ [32])).dropLast = trL l := by rw [e]; simp
  unfold lastRow
  rw [if_pos hl, hd]
  split
  · exact ⟨_, .a, by rw [ren_append, ren_ch]; rfl⟩
  · split
    · exact ⟨_, .b, by rw [e, ren_append, ren_ch]; simp [ren, Sy.ren, tr]⟩
    · exact ⟨_, .c, by rw [ren_append, ren_ch]; rfl⟩
theorem finish_tl {m : Nat} (hm : 4 ≤ m) : ∀ (g : List (List Nat)), g ≠ [] → ∃ tl, Tl tl ∧ joinNl (finish m (softRows (appLast g 32))) = ren (joinS g ++ tl)
  | [], h => absurd rfl h
  | [l], _ => by
    obtain ⟨tl, ht, e⟩ := last_tl hm l
    exact ⟨tl, ht, e⟩
  | l :: l' :: ls, _ => by
    obtain ⟨tl, ht, ih⟩ := finish_tl hm (l' :: ls) (by simp)
    refine ⟨tl, ht, ?_⟩
    have hne : appLast (l' :: ls) 32 ≠ [] := by
      cases ls <;> simp [appLast]
    have e1 : softRows (appLast (l :: l' :: ls) 32) = (trL l ++ [61]) :: softRows (appLast (l' :: ls) 32) := by
      show softRows (l :: appLast (l' :: ls) 32) = _
      cases hx : appLast (l' :: ls) 32 with
      | nil => exact absurd hx hne
      | cons a t => rfl
    have e : ren (joinS (l :: l' :: ls) ++ tl) = trL l ++ 61 :: 10 :: ren (joinS (l' :: ls) ++ tl) := by
      show ren ((l.map Sy.ch ++ .br :: joinS (l' :: ls)) ++ tl) = _
      rw [List.append_assoc, List.cons_append, ren_append, ren_ch, ren_cons]; rfl
    rw [e1, finish_cons (soft_ne hne), joinNl_cons (finish_ne (soft_ne hne)), ih, e]
    simp

theorem segs_flat {m : Int} : ∀ (f : Nat) (W : List Nat), (segs m f W).flatten = W
  | 0, W => by simp [segs]
  | f + 1, W => by
    unfold segs
    split
    · simp
    · rw [List.flatten_cons, segs_flat f, takeRow_app]
theorem segs_size {m : Int} (hm : 4 ≤ m) : ∀ (f : Nat) (W : List Nat), 2 ≤ (segs m f W).length → 2 ≤ size ((segs m f W).getLastD [])
  | 0, W, h => by simp [segs] at h
  | f + 1, W, h => by
    unfold segs at h ⊢
    by_cases hs : size W ≤ m
    · rw [if_pos hs] at h; simp at h
    · rw [if_neg hs] at h ⊢
      have hle := takeRow_le W (m - 1) (by omega)
      have hsz := congrArg size (takeRow_app W (m - 1))
      rw [size_append] at hsz
      have hne := segs_ne m f (takeRow (m - 1) W).2
      have e : (((takeRow (m - 1) W).1 :: segs m f (takeRow (m - 1) W).2).getLastD []) = (segs m f (takeRow (m - 1) W).2).getLastD [] := by
        cases hx : segs m f (takeRow (m - 1) W).2 with
        | nil => exact absurd hx hne
        | cons a t => simp [List.getLastD]
      rw [e]
      by_cases h2 : 2 ≤ (segs m f (takeRow (m - 1) W).2).length
      · exact segs_size hm f _ h2
      · have hf := segs_flat (m := m) f (takeRow (m - 1) W).2
        cases hx : segs m f (takeRow (m - 1) W).2 with
        | nil => exact absurd hx hne
        | cons a t =>
          rw [hx] at h2 hf
          have : t = [] := by
            cases t with
            | nil => rfl
            | cons b t => simp at h2
          subst this
          have : a = (takeRow (m - 1) W).2 := by simpa using hf
          show 2 ≤ size a
          rw [this]; omega
theorem last_flat : ∀ (g : List (List Nat)), g.getLastD [] ≠ [] → g.flatten.getLast? = (g.getLastD []).getLast?
  | [], h => absurd rfl h
  | [l], h => by simp
  | l :: l' :: ls, h => by
    have e : (l :: l' :: ls).getLastD [] = (l' :: ls).getLastD [] := by simp [List.getLastD]
    rw [e] at h ⊢
    have ih := last_flat (l' :: ls) h
    rw [List.flatten_cons, List.getLast?_append, ih]
    cases hx : ((l' :: ls).getLastD []).getLast? with
    | none => simp at hx; exact absurd hx h
    | some v => rfl
theorem app_drop : ∀ (g : List (List Nat)) (r : List Nat) (c : Nat), g ≠ [] → g.getLastD [] = r ++ [c] → ∃ g', g' ≠ [] ∧ g = appLast g' c ∧ g'.getLastD [] = r ∧ g'.length = g.length
  | [], _, _, h, _ => absurd rfl h
  | [l], r, c, _, h => ⟨[r], by simp, by have : l = r ++ [c] := h; rw [this]; rfl, rfl, rfl⟩
  | l :: l' :: ls, r, c, _, h => by
    have e : (l :: l' :: ls).getLastD [] = (l' :: ls).getLastD [] := by simp [List.getLastD]
    rw [e] at h
    obtain ⟨g', h1, h2, h3, h4⟩ := app_drop (l' :: ls) r c (by simp) h
    obtain ⟨a, t, rfl⟩ := List.exists_cons_of_ne_nil h1
    exact ⟨l :: a :: t, by simp, by rw [h2]; rfl, by simpa [List.getLastD] using h3, by simp at h4 ⊢; exact h4⟩
theorem joinS_app : ∀ (g : List (List Nat)) (c : Nat), g ≠ [] → joinS (appLast g c) = joinS g ++ [.ch c]
  | [], _, h => absurd rfl h
  | [l], c, _ => by show (l ++ [c]).map Sy.ch = l.map Sy.ch ++ [.ch c]; simp
  | l :: l' :: ls, c, _ => by
    have ih := joinS_app (l' :: ls) c (by simp)
    have hne : appLast (l' :: ls) c ≠ [] := by cases ls <;> simp [appLast]
    show joinS (l :: appLast (l' :: ls) c) = (l.map Sy.ch ++ .br :: joinS (l' :: ls)) ++ [.ch c]
    obtain ⟨a, t, hx⟩ := List.exists_cons_of_ne_nil hne
    rw [hx] at ih ⊢
    show l.map Sy.ch ++ .br :: joinS (a :: t) = _
    rw [ih]
    simp
theorem joinS_last : ∀ (g : List (List Nat)), g ≠ [] → (g.length = 1 ∨ g.getLastD [] ≠ []) → (joinS g).getLast? ≠ some .br
  | [], h, _ => absurd rfl h
  | [l], _, _ => by
    show (l.map Sy.ch).getLast? ≠ _
    rw [List.getLast?_map]
    cases l.getLast? <;> simp
  | l :: l' :: ls, _, h => by
    have e : (l :: l' :: ls).getLastD [] = (l' :: ls).getLastD [] := by simp [List.getLastD]
    rw [e] at h
    have h' : (l' :: ls).getLastD [] ≠ [] := h.resolve_left (by simp)
    have ih := joinS_last (l' :: ls) (by simp) (.inr h')
    show (l.map Sy.ch ++ .br :: joinS (l' :: ls)).getLast? ≠ _
    have e2 : l.map Sy.ch ++ .br :: joinS (l' :: ls) = (l.map Sy.ch ++ [.br]) ++ joinS (l' :: ls) := by simp
    have hne : joinS (l' :: ls) ≠ [] := by
      cases ls with
      | nil =>
        show l'.map Sy.ch ≠ []
        have : l' ≠ [] := h'
        simpa using this
      | cons a t => show l'.map Sy.ch ++ .br :: joinS (a :: t) ≠ []; simp
    rw [e2, List.getLast?_append]
    cases hx : (joinS (l' :: ls)).getLast? with
    | none => simp at hx; exact absurd hx hne
    | some v => rw [hx] at ih; exact ih

theorem strm_law {m : Nat} (hm : 4 ≤ m) (W : List Nat) : strm 0 (W.zip (lawRows m W)) = joinS (segs m W.length W) :=
  strm_segs (by omega) W.length W 0 (Nat.le_refl _)
theorem len_trL_ge : ∀ (W : List Nat), W.length ≤ (trL W).length
  | [] => Nat.le_refl _
  | c :: W => by
    have := len_trL_ge W
    have hc : 1 ≤ (tr c).length := by unfold tr; split; simp; split <;> simp
    rw [trL_cons, List.length_append, List.length_cons]; omega
theorem trL_ne {W : List Nat} (h : W ≠ []) : trL W ≠ [] := by
  have := len_trL_ge W
  intro e
  rw [e] at this
  exact h (by simpa using this)
/-- the mail, where the last sign is no blank -/
theorem enc_plain {m : Nat} (hm : 4 ≤ m) {W : List Nat} (hw : ∀ c ∈ W, wch c) (hl : W.getLast? ≠ some 32) : enc m (trL W) = ren (strm 0 (W.zip (lawRows m W))) := by
  unfold enc
  by_cases h : W = []
  · subst h; rfl
  · rw [if_neg (trL_ne h), rowsOf_segs hm W.length (trL W).length W hw (Nat.le_refl _) (len_trL_ge W), strm_law hm]
    have hflat := segs_flat (m := (m : Int)) W.length W
    rw [finish_id _ (segs_ne _ _ _), joinNl_soft]
    by_cases he : (segs (m : Int) W.length W).getLastD [] = []
    · rw [he]; simp
    · rw [← last_flat _ he, hflat]; exact hl
/-- the mail, where it is one -/
theorem enc_blank {m : Nat} (hm : 4 ≤ m) {V : List Nat} (hw : ∀ c ∈ V ++ [32], wch c) : ∃ tl ρ, Tl tl ∧ lawRows m (V ++ [32]) = ρ ++ [lastL 0 ρ] ∧ ρ.length = V.length ∧ enc m (trL (V ++ [32])) = ren (strm 0 (V.zip ρ) ++ tl) := by
  have hne : V ++ [32] ≠ [] := by simp
  have hlen := lawRows_len m (V ++ [32])
  obtain ⟨ρ, r, hρ⟩ : ∃ ρ r, lawRows m (V ++ [32]) = ρ ++ [r] := by
    rcases List.eq_nil_or_concat (lawRows m (V ++ [32])) with h | ⟨a, b, h⟩
    · rw [h] at hlen; simp at hlen
    · exact ⟨a, b, by rw [h, List.concat_eq_append]⟩
  rw [hρ] at hlen
  have hl : ρ.length = V.length := by simpa using hlen
  have hst := strm_law hm (V ++ [32])
  rw [hρ, zip_app hl.symm] at hst
  have hz : [32].zip [r] = [(32, r)] := rfl
  rw [hz, strm_append, zip_snd hl.symm] at hst
  have hflat := segs_flat (m := (m : Int)) (V ++ [32]).length (V ++ [32])
  have hsz := segs_size (m := (m : Int)) (by omega) (V ++ [32]).length (V ++ [32])
  have hsne := segs_ne (m : Int) (V ++ [32]).length (V ++ [32])
  generalize hg : segs (m : Int) (V ++ [32]).length (V ++ [32]) = g at *
  have hlast : g.getLastD [] ≠ [] := by
    intro he
    by_cases h2 : 2 ≤ g.length
    · have := hsz h2
      rw [he, size_nil] at this
      omega
    · cases g with
      | nil => exact absurd rfl hsne
      | cons a t =>
        have : t = [] := by
          cases t with
          | nil => rfl
          | cons b t => simp at h2
        subst this
        have : a = V ++ [32] := by simpa using hflat
        have he' : a = [] := he
        rw [this] at he'
        simp at he'
  have h32 : (g.getLastD []).getLast? = some 32 := by rw [← last_flat _ hlast, hflat]; simp
  obtain ⟨R, hR⟩ : ∃ R, g.getLastD [] = R ++ [32] := by
    rcases List.eq_nil_or_concat (g.getLastD []) with h | ⟨a, b, h⟩
    · exact absurd h hlast
    · rw [h, List.concat_eq_append] at h32
      have : b = 32 := by simpa using h32
      exact ⟨a, by rw [h, List.concat_eq_append, this]⟩
  obtain ⟨g', hg1, hg2, hg3, hg4⟩ := app_drop g R 32 hsne hR
  rw [hg2, joinS_app _ _ hg1] at hst
  have hbr : (joinS g').getLast? ≠ some .br := by
    refine joinS_last g' hg1 ?_
    by_cases h2 : 2 ≤ g.length
    · right
      have := hsz h2
      rw [hR, size_append] at this
      have e1 : size [32] = 1 := by decide
      rw [e1] at this
      intro he
      rw [hg3] at he
      rw [he, size_nil] at this
      omega
    · left
      have : 0 < g.length := List.length_pos_iff.mpr hsne
      omega
  have hr : r = lastL 0 ρ ∧ strm 0 (V.zip ρ) = joinS g' := by
    by_cases h : r = lastL 0 ρ
    · refine ⟨h, ?_⟩
      have : strm (lastL 0 ρ) [(32, r)] = [.ch 32] := by simp [strm, h]
      rw [this] at hst
      exact List.append_cancel_right hst
    · exfalso
      have : strm (lastL 0 ρ) [(32, r)] = [.br] ++ [.ch 32] := by simp [strm, h]
      rw [this, ← List.append_assoc] at hst
      have := List.append_cancel_right hst
      rw [← this] at hbr
      simp at hbr
  obtain ⟨tl, ht, he⟩ := finish_tl hm g' hg1
  refine ⟨tl, ρ, ht, by rw [hρ, hr.1], hl, ?_⟩
  unfold enc
  rw [if_neg (trL_ne hne), rowsOf_segs hm (V ++ [32]).length (trL (V ++ [32])).length (V ++ [32]) hw (Nat.le_refl _) (len_trL_ge _), hg, hg2, he, hr.2]

/-! ## The law -/
theorem sign_lt {c : Nat} (h : sign c = true) : c < 256 := by
  have small : ∀ d ∈ ([97, 32, 9, 10, 13, 38, 60, 62, 34, 61, 108, 116, 59, 233] : List Nat), d < 256 := by decide
  exact small c (List.contains_iff_mem.mp h)
theorem esc_wch {b : Bool} {c : Nat} (h : sign c = true) : ∀ d ∈ esc b c, wch d := by
  have key : ∀ c : _root_.Fin 256, sign c.1 = true → ∀ b : Bool, ∀ d ∈ esc b c.1, (32 ≤ d ∧ d ≤ 126) ∨ d = 233 := by decide +kernel
  exact key ⟨c, sign_lt h⟩ h b
theorem escL_wch {b : Bool} {text : List Nat} (h : ∀ c ∈ text, sign c = true) : ∀ d ∈ escL b text, wch d := by
  intro d hd
  obtain ⟨c, hc, hd⟩ := List.mem_flatMap.mp hd
  exact esc_wch (h c hc) d hd
theorem sign_gch {c : Nat} (h : sign c = true) : gch c := by
  have key : ∀ c : _root_.Fin 256, sign c.1 = true → (c.1 = 9 ∨ c.1 = 10 ∨ c.1 = 13 ∨ (32 ≤ c.1 ∧ c.1 ≤ 126)) ∨ c.1 = 233 := by decide +kernel
  exact key ⟨c, sign_lt h⟩ h
theorem wch_gch {c : Nat} (h : wch c) : gch c := by unfold gch ech; unfold wch at h; omega
theorem esc_last {b : Bool} {c : Nat} : (esc b c).getLast? = some 32 ↔ c = 32 := by
  by_cases h : isRef b c = true
  · constructor
    · intro e
      rcases ref_cases h with rfl | rfl | rfl | rfl | rfl | rfl | ⟨rfl, rfl⟩ <;> (try cases b) <;> simp [esc, ampL, ltL, gtL, quotL, tabX, tabD, lfX, lfD, crX, crD] at e
    · rintro rfl; simp [isRef] at h
  · rw [esc_plain (by simpa using h)]; simp
theorem escL_last {b : Bool} {text : List Nat} : (escL b text).getLast? = some 32 ↔ text.getLast? = some 32 := by
  rcases List.eq_nil_or_concat text with rfl | ⟨t, x, rfl⟩
  · simp [escL]
  · rw [List.concat_eq_append, escL_append]
    have e : escL b [x] = esc b x := by simp [escL]
    rw [e, List.getLast?_append]
    have hx := esc_last (b := b) (c := x)
    cases hq : (esc b x).getLast? with
    | none => simp at hq; exact absurd hq (esc_ne b x)
    | some v =>
      rw [hq] at hx
      simp only [Option.some_or, List.getLast?_append, List.getLast?_singleton]
      simpa using hx

theorem grp_mem : ∀ (l : List (Nat × Int)) (prev : Int), ∀ g ∈ grp prev l, ∀ c ∈ g, ∃ r, (c, r) ∈ l
  | [], _, g, hg, c, hc => by simp [grp] at hg; subst hg; simp at hc
  | (x, r) :: l, prev, g, hg, c, hc => by
    have key : ∀ (G : List (List Nat)), G ≠ [] → (∀ g ∈ G, ∀ c ∈ g, ∃ r, (c, r) ∈ l) → g ∈ consHead x G → ∃ r', (c, r') ∈ (x, r) :: l := by
      intro G hG hG2 hm
      obtain ⟨a, t, rfl⟩ := List.exists_cons_of_ne_nil hG
      rcases List.mem_cons.mp hm with rfl | hm
      · rcases List.mem_cons.mp hc with rfl | hc
        · exact ⟨r, by simp⟩
        · obtain ⟨r', h⟩ := hG2 a (by simp) c hc
          exact ⟨r', List.mem_cons_of_mem _ h⟩
      · obtain ⟨r', h⟩ := hG2 g (by simp [hm]) c hc
        exact ⟨r', List.mem_cons_of_mem _ h⟩
    by_cases hr : r = prev
    · rw [grp_eq hr] at hg
      exact key _ (grp_ne _ _) (grp_mem l prev) hg
    · rw [grp_new hr] at hg
      rcases List.mem_cons.mp hg with rfl | hg
      · simp at hc
      · exact key _ (grp_ne _ _) (grp_mem l r) hg
theorem items_mem (b : Bool) : ∀ (text : List Nat) (ρ : List Int), ∀ p ∈ items b text ρ, p.1 ∈ text ∨ p.1 ∈ escL b text
  | [], _, p, hp => by simp [items] at hp
  | c :: text, ρ, p, hp => by
    rcases List.mem_append.mp (show p ∈ itemOne b c _ ++ items b text _ from hp) with hp | hp
    · unfold itemOne at hp
      split at hp
      · have : p.1 = c := by
          have := List.mem_singleton.mp hp
          rw [this]
        rw [this]; left; simp
      · right
        rw [escL_cons]
        exact List.mem_append_left _ (List.of_mem_zip (a := p.1) (b := p.2) hp).1
    · rcases items_mem b text _ p hp with h | h
      · left; exact List.mem_cons_of_mem _ h
      · right; rw [escL_cons]; exact List.mem_append_right _ h
theorem items_gch {b : Bool} {text : List Nat} (h : ∀ c ∈ text, sign c = true) (ρ : List Int) (prev : Int) : ∀ l ∈ grp prev (items b text ρ), ∀ c ∈ l, gch c := by
  intro l hl c hc
  obtain ⟨r, hr⟩ := grp_mem _ _ l hl c hc
  rcases items_mem b text ρ _ hr with h1 | h1
  · exact sign_gch (h c h1)
  · exact wch_gch (escL_wch h c h1)
theorem zip_gch {W : List Nat} (h : ∀ c ∈ W, wch c) (ρ : List Int) (prev : Int) : ∀ l ∈ grp prev (W.zip ρ), ∀ c ∈ l, gch c := by
  intro l hl c hc
  obtain ⟨r, hr⟩ := grp_mem _ _ l hl c hc
  exact wch_gch (h c (List.of_mem_zip hr).1)

theorem grp_flat : ∀ (l : List (Nat × Int)) (prev : Int), (grp prev l).flatten = l.map (·.1)
  | [], _ => rfl
  | (x, r) :: l, prev => by
    have key : ∀ (G : List (List Nat)), G ≠ [] → (consHead x G).flatten = x :: G.flatten := by
      intro G hG
      obtain ⟨a, t, rfl⟩ := List.exists_cons_of_ne_nil hG
      rfl
    by_cases hr : r = prev
    · rw [grp_eq hr, key _ (grp_ne _ _), grp_flat l]; rfl
    · rw [grp_new hr, List.flatten_cons, key _ (grp_ne _ _), grp_flat l]; rfl
theorem rstrip_keep {l : List Nat} (h : ∀ x, l.getLast? = some x → bt x = false) : rstripL bt l = l := by
  rcases List.eq_nil_or_concat l with rfl | ⟨a, x, rfl⟩
  · rfl
  · rw [List.concat_eq_append] at *
    rw [rstrip_snoc, h x (by simp)]; rfl
theorem dueGo_flat (blank : Bool) : ∀ (G : List (List Nat)), G ≠ [] → (∀ l ∈ G, Nf l) → (blank = false → ∀ x, (G.getLastD []).getLast? = some x → bt x = false) → dueGo blank G = G.flatten
  | [], h, _, _ => absurd rfl h
  | [l], _, hn, hb => by
    show dueLine blank l = [l].flatten
    rw [due_free blank (hn l (by simp))]
    cases blank
    · simp only [Bool.false_eq_true, if_false]
      have hb' : ∀ x, l.getLast? = some x → bt x = false := hb rfl
      rw [rstrip_keep hb']; simp
    · simp
  | l :: l' :: ls, _, hn, hb => by
    show dueLine true l ++ dueGo blank (l' :: ls) = _
    rw [due_free true (hn l (by simp)), dueGo_flat blank (l' :: ls) (by simp) (fun x hx => hn x (List.mem_cons_of_mem _ hx)) (by simpa [List.getLastD] using hb)]
    simp
theorem wch_nf {W : List Nat} (h : ∀ c ∈ W, wch c) (ρ : List Int) (prev : Int) : ∀ l ∈ grp prev (W.zip ρ), Nf l := by
  intro l hl c hc
  obtain ⟨r, hr⟩ := grp_mem _ _ l hl c hc
  have := h c (List.of_mem_zip hr).1
  unfold wch at this
  omega
theorem app_flat : ∀ (g : List (List Nat)) (c : Nat), (appLast g c).flatten = g.flatten ++ [c]
  | [], c => rfl
  | [l], c => by simp [appLast]
  | l :: l' :: ls, c => by
    show (l :: appLast (l' :: ls) c).flatten = _
    rw [List.flatten_cons, app_flat (l' :: ls) c]; simp
theorem app_mem : ∀ (g : List (List Nat)) (c : Nat), ∀ l ∈ appLast g c, ∀ x ∈ l, x = c ∨ ∃ l' ∈ g, x ∈ l'
  | [], c, l, hl, x, hx => by
    have : l = [c] := by simpa [appLast] using hl
    subst this; left; simpa using hx
  | [l0], c, l, hl, x, hx => by
    have : l = l0 ++ [c] := by simpa [appLast] using hl
    subst this
    rcases List.mem_append.mp hx with h | h
    · right; exact ⟨l0, by simp, h⟩
    · left; simpa using h
  | l0 :: l' :: ls, c, l, hl, x, hx => by
    rcases List.mem_cons.mp (show l ∈ l0 :: appLast (l' :: ls) c from hl) with rfl | hl
    · right; exact ⟨l, by simp, hx⟩
    · rcases app_mem (l' :: ls) c l hl x hx with h | ⟨y, hy, h⟩
      · left; exact h
      · right; exact ⟨y, List.mem_cons_of_mem _ hy, h⟩
theorem grp_snoc : ∀ (l : List (Nat × Int)) (prev : Int) (c : Nat), grp prev (l ++ [(c, lastL prev (l.map (·.2)))]) = appLast (grp prev l) c
  | [], prev, c => by show grp prev [(c, prev)] = _; rw [grp_eq rfl]; rfl
  | (x, r) :: l, prev, c => by
    have ih := grp_snoc l r c
    have key : ∀ (G : List (List Nat)), G ≠ [] → consHead x (appLast G c) = appLast (consHead x G) c := by
      intro G hG
      match G, hG with
      | [a], _ => rfl
      | a :: b :: t, _ => rfl
    show grp prev ((x, r) :: (l ++ [(c, lastL r (l.map (·.2)))])) = _
    by_cases hr : r = prev
    · rw [grp_eq hr, grp_eq hr, ← key _ (grp_ne _ _), ← hr, ih]
    · rw [grp_new hr, grp_new hr, ih, key _ (grp_ne _ _)]
      cases hx : consHead x (grp r l) with
      | nil => cases hy : grp r l with
        | nil => exact absurd hy (grp_ne _ _)
        | cons a t => rw [hy] at hx; cases hx
      | cons a t => rfl
theorem tl_no38 {tl : List Sy} (h : Tl tl) : ∀ a ∈ tl, a ≠ .ch 38 := by
  cases h <;> (intro a ha; simp at ha) <;> (try rcases ha with rfl | rfl) <;> (try subst ha) <;> (intro e; cases e)
theorem items_snoc (b : Bool) : ∀ (t : List Nat) (ρ : List Int) (r : Int), ρ.length = (escL b t).length → items b (t ++ [32]) (ρ ++ [r]) = items b t ρ ++ [(32, r)]
  | [], ρ, r, h => by
    have : ρ = [] := by simpa [escL] using h
    subst this
    have e : esc b 32 = [32] := by cases b <;> decide
    show itemOne b 32 (([] ++ [r]).take (esc b 32).length) ++ [] = [] ++ [(32, r)]
    rw [e]
    show itemOne b 32 [r] ++ [] = _
    have e1 : itemOne b 32 [r] = [(32, r)] := by unfold itemOne; exact if_pos rfl
    rw [e1]; rfl
  | c :: t, ρ, r, h => by
    rw [escL_cons, List.length_append] at h
    show itemOne b c ((ρ ++ [r]).take (esc b c).length) ++ items b (t ++ [32]) ((ρ ++ [r]).drop (esc b c).length) = (itemOne b c (ρ.take (esc b c).length) ++ items b t (ρ.drop (esc b c).length)) ++ [(32, r)]
    rw [List.take_append_of_le_length (by omega), List.drop_append_of_le_length (by omega), items_snoc b t _ r (by rw [List.length_drop]; omega), List.append_assoc]

section
variable {k sp : Nat → Bool} (hk : ∀ c, ech c → (k c = true ↔ (c = 10 ∨ c = 13))) (hs : ∀ c, ech c → (sp c = true ↔ (c = 9 ∨ c = 10 ∨ c = 13 ∨ c = 32)))
include hk hs
/-- who reads the mail first gets what the escape wrote -/
theorem law_one {m : Nat} (hm : 4 ≤ m) {W : List Nat} (hw : ∀ c ∈ W, wch c) : decG k sp (enc m (trL W)) = W := by
  by_cases hl : W.getLast? = some 32
  · rcases List.eq_nil_or_concat W with rfl | ⟨V, x, rfl⟩
    · simp at hl
    · rw [List.concat_eq_append] at *
      have : x = 32 := by simpa using hl
      subst this
      obtain ⟨tl, ρ, ht, hρ, hlen, he⟩ := enc_blank hm hw
      have hwV : ∀ c ∈ V, wch c := fun c hc => hw c (by simp [hc])
      rw [he, strm_joinS]
      have := fin_groups_tl hk hs ht (grp 0 (V.zip ρ)) (grp_ne _ _) (zip_gch hwV ρ 0)
      rw [Fin.dec hk hs this, dueGo_flat true _ (appLast_ne hk hs _ _) _ (by simp), app_flat, grp_flat]
      · rw [List.map_fst_zip (by omega)]
      · intro l hl c hc
        rcases app_mem _ _ l hl c hc with rfl | ⟨l', h1, h2⟩
        · decide
        · exact wch_nf hwV ρ 0 l' h1 c h2
  · rw [enc_plain hm hw hl, strm_joinS]
    have := fin_groups hk hs (grp 0 (W.zip (lawRows m W))) (grp_ne _ _) (zip_gch hw _ 0)
    have hlen := lawRows_len m W
    have hfl : (grp 0 (W.zip (lawRows m W))).flatten = W := by rw [grp_flat, List.map_fst_zip (by omega)]
    rw [Fin.dec hk hs this, dueGo_flat false _ (grp_ne _ _) (wch_nf hw _ 0), hfl]
    intro _ x hx
    have hne : (grp 0 (W.zip (lawRows m W))).getLastD [] ≠ [] := by intro e; rw [e] at hx; simp at hx
    rw [← last_flat _ hne, hfl] at hx
    have hxw := hw x (List.mem_of_getLast? hx)
    unfold bt
    have h32 : x ≠ 32 := by rintro rfl; exact hl hx
    have h9 : x ≠ 9 := by unfold wch at hxw; omega
    simp [h32, h9]
/-- who reads the references first gets what is due -/
theorem law_two {m : Nat} (hm : 4 ≤ m) (b : Bool) {text : List Nat} (ht : ∀ c ∈ text, sign c = true) : decG k sp (unref b (enc m (trL (escL b text)))) = due b m text := by
  have hw := escL_wch (b := b) ht
  unfold due
  by_cases hl : text.getLast? = some 32
  · rw [decide_eq_true hl]
    rcases List.eq_nil_or_concat text with rfl | ⟨t, x, rfl⟩
    · simp at hl
    · rw [List.concat_eq_append] at *
      have : x = 32 := by simpa using hl
      subst this
      have e32 : escL b (t ++ [32]) = escL b t ++ [32] := by rw [escL_append]; cases b <;> rfl
      rw [linesAt_grp]
      rw [e32] at hw ⊢
      obtain ⟨tl, ρ, htl, hρ, hlen, he⟩ := enc_blank hm hw
      rw [he, unref_ren, hρ, items_snoc b t ρ _ hlen]
      have hL : Lab 0 ρ := (lab_append (hρ ▸ lawRows_lab m (escL b t ++ [32]))).1
      rw [unS_items b tl (tl_no38 htl) t ρ 0 hlen hL, strm_joinS]
      have hi := items_last b t ρ 0 hlen
      rw [← hi, grp_snoc]
      exact Fin.dec hk hs (fin_groups_tl hk hs htl (grp 0 (items b t ρ)) (grp_ne _ _) (items_gch (fun c hc => ht c (by simp [hc])) ρ 0))
  · rw [decide_eq_false hl, enc_plain hm hw (fun e => hl (escL_last.mp e)), unref_ren, linesAt_grp]
    have h := unS_items b [] (fun a ha => by simp at ha) text (lawRows m (escL b text)) 0 (lawRows_len _ _) (lawRows_lab _ _)
    rw [List.append_nil, List.append_nil] at h
    rw [h, strm_joinS]
    exact Fin.dec hk hs (fin_groups hk hs _ (grp_ne _ _) (items_gch ht _ 0))
end
end Mine
end
section
open PySem PySem.W PySem.Calls PyProof.Rows
open PySem.Builtin PySem.Builtin.Str
set_option linter.unusedVariables false
namespace Mine

/-! ## The model's texts as lists of codes -/
abbrev S (l : List Nat) : PySem.Str := ⟨l.toArray⟩
theorem S_of (x : PySem.Str) : S x.cps.toList = x := by cases x; simp
theorem S_len (l : List Nat) : (S l).length = l.length := by simp [PySem.Str.length]
theorem S_app (a b : List Nat) : S a ++ S b = S (a ++ b) := PySem.Str.ext' (by simp [PySem.Str.cps_append])
theorem S_inj {a b : List Nat} (h : S a = S b) : a = b := by
  have := congrArg (fun x => x.cps.toList) h
  simpa using this
theorem S_ext {x : PySem.Str} {l : List Nat} (h : x.cps.toList = l) : x = S l := by rw [← h, S_of]
theorem S_toList (l : List Nat) : (S l).cps.toList = l := rfl

theorem contains_one (x : List Nat) (c : Nat) : Txt.contains (S x) (S [c]) = decide (c ∈ x) := StrLaws.found_one (S x) c

/-! replace -/
theorem at_iff (L p : List Nat) (i : Nat) : StrLaws.At (S L) (S p) (S L).length i ↔ (i ≤ L.length ∧ p <+: L.drop i) := by
  unfold StrLaws.At
  rw [StrLaws.subAt_eq, S_len, S_len, S_toList, S_toList, beq_iff_eq]
  constructor
  · rintro ⟨h1, h2⟩
    exact ⟨by omega, by rw [← h2]; exact List.take_prefix _ _⟩
  · rintro ⟨h0, t, ht⟩
    have := congrArg List.length ht
    simp at this
    refine ⟨by omega, ?_⟩
    rw [← ht]; simp
theorem rep_stretch {p z L : List Nat} : ∀ (n a : Nat), a + n ≤ L.length → (∀ k, a ≤ k → k < a + n → ¬ p <+: L.drop k) → rep p z (L.drop a) = (L.drop a).take n ++ rep p z (L.drop (a + n))
  | 0, a, _, _ => by simp
  | n + 1, a, h, hn => by
    have ha : a < L.length := by omega
    have e : L.drop a = L[a] :: L.drop (a + 1) := List.drop_eq_getElem_cons ha
    have h0 := hn a (Nat.le_refl _) (by omega)
    rw [e, rep_cons, if_neg, rep_stretch n (a + 1) (by omega) (fun k h1 h2 => hn k (by omega) (by omega))]
    · rw [show a + 1 + n = a + (n + 1) by omega]; rfl
    · rw [← e, List.isPrefixOf_iff_prefix]; exact h0
theorem rep_end {p z : List Nat} (hp : p ≠ []) : ∀ (n : Nat) (L : List Nat), L.length ≤ n → (∀ k, k < L.length → ¬ p <+: L.drop k) → rep p z L = L
  | _, [], _, _ => rep_nil _ _
  | 0, _ :: _, h, _ => by simp at h
  | n + 1, c :: l, h, hn => by
    rw [rep_cons, if_neg, rep_end hp n l (by simpa using h) (fun k hk => hn (k + 1) (by simpa using hk))]
    rw [List.isPrefixOf_iff_prefix]
    exact hn 0 (by simp)
theorem sub_list (L : List Nat) (i j : Nat) : (strSub (S L) i j).cps.toList = (L.drop i).take (j - i) := StrLaws.strSub_toList (S L) i j
theorem join_cons {sep x : PySem.Str} {l : List PySem.Str} (h : l ≠ []) : Str.join sep (x :: l) = x ++ sep ++ Str.join sep l := by
  cases l with
  | nil => exact absurd rfl h
  | cons a t => rfl
theorem rep_parts {p z L : List Nat} (hp : p ≠ []) : ∀ (cuts : List Nat) (a f : Nat), a ≤ L.length → StrLaws.ChainG (S L) (S p) (S L).length a cuts f → (∀ k, f ≤ k → ¬ StrLaws.At (S L) (S p) (S L).length k) →
    (Str.join (S z) (StrLaws.partsFrom (S L) (S p).length a cuts)).cps.toList = rep p z (L.drop a)
  | [], a, f, ha, hc, hn => by
    have e : f = a := hc
    subst e
    show (strSub (S L) f (S L).length).cps.toList = _
    rw [sub_list, S_len]
    have e2 : (L.drop f).take (L.length - f) = L.drop f := List.take_of_length_le (by simp)
    rw [e2, rep_end hp (L.drop f).length _ (Nat.le_refl _)]
    intro k hk h
    rw [List.drop_drop] at h
    simp at hk
    exact hn (f + k) (by omega) ((at_iff L p (f + k)).mpr ⟨by omega, h⟩)
  | c :: r, a, f, ha, hc, hn => by
    obtain ⟨h1, h2, h3, h4⟩ := hc
    obtain ⟨q, s, e⟩ := StrLaws.partsFrom_ne (S L) (S p).length (c + (S p).length) r
    have h2' := (at_iff L p c).mp h2
    have hcl : c + p.length ≤ L.length := by have := h2.1; rw [S_len, S_len] at this; exact this
    have ih := rep_parts (z := z) hp r (c + (S p).length) f (by rw [S_len]; omega) h4 hn
    show (Str.join (S z) (strSub (S L) a c :: StrLaws.partsFrom (S L) (S p).length (c + (S p).length) r)).cps.toList = _
    rw [join_cons (by rw [e]; simp), PySem.Str.cps_append, PySem.Str.cps_append, Array.toList_append, Array.toList_append, ih, sub_list]
    have hst := rep_stretch (p := p) (z := z) (L := L) (c - a) a (by omega) (fun k hk1 hk2 hh => h3 k hk1 (by omega) ((at_iff L p k).mpr ⟨by omega, hh⟩))
    rw [show a + (c - a) = c by omega] at hst
    rw [hst]
    obtain ⟨t, ht⟩ := h2'.2
    obtain ⟨x, p', rfl⟩ := List.exists_cons_of_ne_nil hp
    have hd : L.drop c = x :: (p' ++ t) := by rw [← ht]; rfl
    have hr : rep (x :: p') z (L.drop c) = z ++ rep (x :: p') z t := by
      rw [hd, rep_cons, if_pos]
      · simp
      · rw [List.isPrefixOf_iff_prefix]; exact ⟨t, rfl⟩
    have ht2 : L.drop (c + (S (x :: p')).length) = t := by
      rw [S_len, ← List.drop_drop, ← ht]; simp
    rw [hr, ht2, List.append_assoc]
theorem replace_S {p : List Nat} (hp : p ≠ []) (x z : List Nat) : Txt.replace (S x) (S p) (S z) = S (rep p z x) := by
  have hl : 1 ≤ (S p).length := by
    rw [S_len]
    cases p with
    | nil => exact absurd rfl hp
    | cons a t => simp
  obtain ⟨f, hc, hn⟩ := StrLaws.occ_tight (S x) (S p) hl
  have key := rep_parts (z := z) hp _ 0 f (by omega) hc hn
  rw [List.drop_zero] at key
  have h0 : ((S p).length == 0) = false := by simpa using (show (S p).length ≠ 0 by omega)
  unfold Txt.replace
  rw [h0, Bool.false_and, Bool.or_false]
  cases he : (occurrences (S x) (S p) 0 (S x).length ((S x).length + 1)).isEmpty
  · rw [if_neg Bool.false_ne_true, PySem.StrLaws.glued_eq_join, StrLaws.partsBetween_eq]
    exact S_ext key
  · rw [if_pos rfl]
    have hnil : occurrences (S x) (S p) 0 (S x).length ((S x).length + 1) = [] := by simpa using he
    rw [hnil] at key
    have : (strSub (S x) 0 (S x).length).cps.toList = x := by rw [sub_list, S_len]; simp
    have key' : (strSub (S x) 0 (S x).length).cps.toList = rep p z x := key
    rw [this] at key'
    rw [← key']

/-! strip -/
theorem rstripBy_S (g : Nat → Bool) (x : List Nat) : Txt.stripBy g false true (S x) = S (rstripL g x) := by
  have hlo : stripLo g false (S x) = 0 := rfl
  have hhi : stripHi g true (S x) 0 = x.length - (x.reverse.takeWhile g).length := by
    unfold stripHi
    rw [if_pos rfl, S_len, S_toList]; rfl
  have hr : rstripL g x = x.take (x.length - (x.reverse.takeWhile g).length) := by
    unfold rstripL
    have h1 := List.takeWhile_append_dropWhile (p := g) (l := x.reverse)
    have h2 : x = (x.reverse.dropWhile g).reverse ++ (x.reverse.takeWhile g).reverse := by
      have := congrArg List.reverse h1
      rw [List.reverse_append, List.reverse_reverse] at this
      exact this.symm
    have h3 : x.length - (x.reverse.takeWhile g).length = ((x.reverse.dropWhile g).reverse).length := by
      have := congrArg List.length h1
      rw [List.length_append, List.length_reverse] at this
      rw [List.length_reverse]
      omega
    rw [h3]
    conv => rhs; rw [h2]
    simp
  unfold Txt.stripBy
  split
  · rename_i h
    unfold stripSame at h
    rw [hlo, hhi, S_len] at h
    simp only [Bool.and_eq_true, beq_iff_eq] at h
    rw [hr, h.2]; simp
  · unfold PySem.stripped
    rw [hlo, hhi]
    apply S_ext
    rw [sub_list, hr]; simp
theorem rstrip_S (x : List Nat) : Txt.rstrip (S x) = S (rstripL Unicode.isSpace x) := rstripBy_S _ x
theorem rstripChars_S (x : List Nat) : Txt.rstripChars (S x) (S [32, 9]) = S (rstripL bt x) := by
  have e : (fun c => (S [32, 9]).cps.contains c) = bt := by
    funext c
    unfold bt
    show (Array.contains #[32, 9] c) = _
    simp [Array.contains]
  unfold Txt.rstripChars
  have := rstripBy_S bt x
  rw [← e] at this
  rw [this, e]

/-! split at line feeds -/
theorem splitNl_app : ∀ (a : List Nat) (y : List Nat), 10 ∉ a → splitNl (a ++ 10 :: y) = a :: splitNl y := fun a y h => split_at y (fun c hc e => h (e ▸ hc))
theorem split_parts {L : List Nat} : ∀ (cuts : List Nat) (a f : Nat), a ≤ L.length → StrLaws.ChainG (S L) (S [10]) (S L).length a cuts f → (∀ k, f ≤ k → ¬ StrLaws.At (S L) (S [10]) (S L).length k) →
    StrLaws.partsFrom (S L) (S [10]).length a cuts = (splitNl (L.drop a)).map S
  | [], a, f, ha, hc, hn => by
    have e : f = a := hc
    subst e
    show [strSub (S L) f (S L).length] = _
    have e1 : strSub (S L) f (S L).length = S (L.drop f) := by
      apply S_ext
      rw [sub_list, S_len]
      exact List.take_of_length_le (by simp)
    have hf : ∀ c ∈ L.drop f, c ≠ 10 := by
      rintro c hc rfl
      obtain ⟨k, hk, hk2⟩ := List.getElem_of_mem hc
      simp at hk
      refine hn (f + k) (by omega) ((at_iff L [10] (f + k)).mpr ⟨by omega, ?_⟩)
      rw [List.drop_eq_getElem_cons (by omega)]
      have : L[f + k] = 10 := by simpa using hk2
      rw [this]
      exact ⟨_, rfl⟩
    rw [e1, split_free hf]; rfl
  | c :: r, a, f, ha, hc, hn => by
    obtain ⟨h1, h2, h3, h4⟩ := hc
    have hcl : c + 1 ≤ L.length := by have := h2.1; rw [S_len, S_len] at this; exact this
    have e0 : (S [10]).length = 1 := rfl
    have ih := split_parts r (c + (S [10]).length) f (by rw [e0]; omega) h4 hn
    show strSub (S L) a c :: StrLaws.partsFrom (S L) (S [10]).length (c + (S [10]).length) r = _
    have e1 : strSub (S L) a c = S ((L.drop a).take (c - a)) := S_ext (sub_list L a c)
    have hfree : 10 ∉ (L.drop a).take (c - a) := by
      intro hm
      obtain ⟨k, hk, hk2⟩ := List.getElem_of_mem hm
      simp at hk
      refine h3 (a + k) (by omega) (by omega) ((at_iff L [10] (a + k)).mpr ⟨by omega, ?_⟩)
      rw [List.drop_eq_getElem_cons (by omega)]
      have : L[a + k] = 10 := by simpa using hk2
      rw [this]
      exact ⟨_, rfl⟩
    obtain ⟨t, ht⟩ := ((at_iff L [10] c).mp h2).2
    have hd : L.drop a = (L.drop a).take (c - a) ++ 10 :: t := by
      conv => lhs; rw [← List.take_append_drop (c - a) (L.drop a)]
      rw [List.drop_drop, show a + (c - a) = c by omega, ← ht]; rfl
    have ht2 : L.drop (c + (S [10]).length) = t := by rw [e0, ← List.drop_drop, ← ht]; rfl
    rw [ih, e1, ht2]
    conv => rhs; rw [hd, splitNl_app _ _ hfree]
    rfl
theorem split_S {x : List Nat} : Txt.split (S x) (S [10]) = (splitNl x).map S := by
  have hl : 1 ≤ (S [10]).length := by decide
  obtain ⟨f, hc, hn⟩ := StrLaws.occ_tight (S x) (S [10]) hl
  have key := split_parts _ 0 f (by omega) hc hn
  rw [List.drop_zero] at key
  have hempty : occurrences (S x) (S [10]) 0 (S x).length ((S x).length + 1) = [] → [S x] = (splitNl x).map S := by
    intro hnil
    rw [hnil] at key
    have key' : [strSub (S x) 0 (S x).length] = (splitNl x).map S := key
    rw [← key']
    congr 1
    exact (S_ext (by rw [sub_list, S_len]; simp)).symm
  unfold Txt.split
  split
  · rename_i h
    by_cases hx : x = []
    · subst hx; rfl
    · exfalso
      have h1 : ¬ (S x).length < (S [10]).length := by
        rw [S_len]
        have : 0 < x.length := List.length_pos_iff.mpr hx
        show ¬ x.length < 1
        omega
      have h2 : ¬ PySem.Builtin.Str.strKind (S x) < PySem.Builtin.Str.strKind (S [10]) := by
        have e : PySem.Builtin.Str.strKind (S [10]) = 1 := by decide +kernel
        rw [e]
        unfold PySem.Builtin.Str.strKind
        split
        · omega
        · split <;> omega
      simp [h1, h2] at h
  · split
    · rename_i h
      exact hempty (by simpa using h)
    · rw [StrLaws.partsBetween_eq]; exact key
end Mine
end
section
open PySem PySem.W PySem.Calls PyProof.Rows
open PySem.Builtin PySem.Builtin.Str
set_option linter.unusedVariables false
namespace Mine

/-! ## splitlines -/
noncomputable def comb (pre : List Nat) : List (List Nat) → List (List Nat)
  | [] => if pre = [] then [] else [pre]
  | r :: rs => (pre ++ r) :: rs
theorem comb_nil (l : List (List Nat)) : comb [] l = l := by cases l <;> simp [comb]
noncomputable def sps (x : List Nat) (l : List (Nat × Nat × Nat)) : List PySem.Str := l.map fun p => strSub (S x) p.1 p.2.1
theorem sps_app (x : List Nat) (a b : List (Nat × Nat × Nat)) : sps x (a ++ b) = sps x a ++ sps x b := by simp [sps]
noncomputable abbrev lb : Nat → Bool := Unicode.isLineBreak
theorem getD_S {x : List Nat} {i : Nat} (h : i < x.length) : (S x).cps.getD i 0 = x[i] := by
  simp [Array.getD, h]
theorem get_S (x : List Nat) (i : Nat) : (S x).cps[i]? = x[i]? := by simp
theorem linesL_lone {k : Nat → Bool} {c : Nat} {l : List Nat} (h : k c = true) (hn : ¬ (c = 13 ∧ l.head? = some 10)) : linesL k (c :: l) = [] :: linesL k l := by
  rw [linesL_yes h]
  cases l with
  | nil => simp [linesL]
  | cons d l' =>
    have : ¬ (c = 13 ∧ d = 10) := fun hh => hn ⟨hh.1, by rw [hh.2]; rfl⟩
    simp only [if_neg this]
theorem ls_spec (x : List Nat) : ∀ (m cur : Nat) (lines : Array (Nat × Nat × Nat)) (start : Nat), cur + m = x.length →
    (start ≤ cur → sps x (StrLaws.lsEnd (S x) (Id.run (forIn (m := Id) (List.range' cur m) ((lines, start) : StrLaws.LsSt) (StrLaws.lsBody (S x))))) = sps x lines.toList ++ (comb ((x.drop start).take (cur - start)) (linesL lb (x.drop cur))).map S) ∧
    (start = cur + 1 → 0 < m → sps x (StrLaws.lsEnd (S x) (Id.run (forIn (m := Id) (List.range' cur m) ((lines, start) : StrLaws.LsSt) (StrLaws.lsBody (S x))))) = sps x lines.toList ++ (linesL lb (x.drop (cur + 1))).map S)
  | 0, cur, lines, start, hm => by
    refine ⟨fun hs => ?_, fun _ h => absurd h (Nat.lt_irrefl _)⟩
    have hc : cur = x.length := by omega
    subst hc
    show sps x (StrLaws.lsEnd (S x) (lines, start)) = _
    unfold StrLaws.lsEnd
    rw [S_len, List.drop_length]
    have e0 : linesL lb [] = [] := by simp [linesL]
    rw [e0]
    by_cases h : start < x.length
    · rw [if_pos h, Array.toList_push, sps_app]
      have e1 : comb ((x.drop start).take (x.length - start)) [] = [x.drop start] := by
        have : (x.drop start).take (x.length - start) = x.drop start := List.take_of_length_le (by simp)
        rw [this]
        unfold comb
        rw [if_neg]
        intro e
        have := congrArg List.length e
        simp at this
        omega
      rw [e1]
      congr 1
      show [strSub (S x) start x.length] = [S (x.drop start)]
      congr 1
      apply S_ext
      rw [sub_list]
      exact List.take_of_length_le (by simp)
    · rw [if_neg h]
      have e1 : comb ((x.drop start).take (x.length - start)) [] = [] := by
        have : (x.drop start).take (x.length - start) = [] := by
          have : x.drop start = [] := List.drop_of_length_le (by omega)
          rw [this]; simp
        rw [this]; rfl
      rw [e1]; simp
  | m + 1, cur, lines, start, hm => by
    have hlt : cur < x.length := by omega
    have hd : x.drop cur = x[cur] :: x.drop (cur + 1) := List.drop_eq_getElem_cons hlt
    have hrun : ∀ st : StrLaws.LsSt, forIn (m := Id) (List.range' cur (m + 1)) st (StrLaws.lsBody (S x)) = (StrLaws.lsBody (S x) cur st >>= fun s => match s with
        | ForInStep.done b => pure b
        | ForInStep.yield b => forIn (m := Id) (List.range' (cur + 1) m) b (StrLaws.lsBody (S x))) := fun st => by
      rw [List.range'_succ, List.forIn_cons]
      congr 1
      funext s
      cases s <;> rfl
    refine ⟨fun hs => ?_, fun hs _ => ?_⟩
    · rw [hrun]
      have hbody : StrLaws.lsBody (S x) cur (lines, start) = if (lb x[cur]) = true then pure (ForInStep.yield (lines.push (start, cur, StrLaws.lsNext (S x) cur), StrLaws.lsNext (S x) cur)) else pure (ForInStep.yield (lines, start)) := by
        unfold StrLaws.lsBody
        rw [getD_S hlt]
        have : decide (start ≤ cur) = true := decide_eq_true hs
        simp only [this, Bool.true_and]
      rw [hbody]
      by_cases hk : lb x[cur] = true
      · rw [if_pos hk]
        show sps x (StrLaws.lsEnd (S x) (Id.run (forIn (m := Id) (List.range' (cur + 1) m) (lines.push (start, cur, StrLaws.lsNext (S x) cur), StrLaws.lsNext (S x) cur) (StrLaws.lsBody (S x))))) = _
        have hpre : strSub (S x) start cur = S ((x.drop start).take (cur - start)) := S_ext (sub_list x start cur)
        by_cases hcr : x[cur] = 13 ∧ x[cur + 1]? = some 10
        · have hnx : StrLaws.lsNext (S x) cur = cur + 1 + 1 := by
            unfold StrLaws.lsNext
            rw [getD_S hlt, get_S, hcr.1, hcr.2]
            rfl
          have hlt2 : cur + 1 < x.length := by
            have := hcr.2
            have h2 : x[cur + 1]?.isSome := by rw [this]; rfl
            simpa using h2
          have hd2 : x.drop (cur + 1) = 10 :: x.drop (cur + 2) := by
            rw [List.drop_eq_getElem_cons hlt2]
            have := hcr.2
            rw [List.getElem?_eq_getElem hlt2] at this
            rw [Option.some.inj this]
          rw [hnx, (ls_spec x m (cur + 1) _ _ (by omega)).2 rfl (by omega), Array.toList_push, sps_app, hd, linesL_yes hk, hd2]
          simp only [hcr.1, and_self, if_true]
          show sps x lines.toList ++ [strSub (S x) start cur] ++ _ = _
          rw [hpre]
          simp [comb]
        · have hnx : StrLaws.lsNext (S x) cur = cur + 1 := by
            unfold StrLaws.lsNext
            rw [getD_S hlt, get_S, if_neg]
            simpa using hcr
          have hn : ¬ (x[cur] = 13 ∧ (x.drop (cur + 1)).head? = some 10) := by
            rw [List.head?_drop]; exact hcr
          rw [hnx, (ls_spec x m (cur + 1) _ _ (by omega)).1 (Nat.le_refl _), Array.toList_push, sps_app, hd, linesL_lone hk hn, Nat.sub_self, List.take_zero, comb_nil]
          show sps x lines.toList ++ [strSub (S x) start cur] ++ _ = _
          rw [hpre]
          simp [comb]
      · rw [if_neg hk]
        have hk' : lb x[cur] = false := by simpa using hk
        show sps x (StrLaws.lsEnd (S x) (Id.run (forIn (m := Id) (List.range' (cur + 1) m) (lines, start) (StrLaws.lsBody (S x))))) = _
        rw [(ls_spec x m (cur + 1) _ _ (by omega)).1 (by omega), hd, linesL_no hk']
        have e1 : (x.drop start).take (cur + 1 - start) = (x.drop start).take (cur - start) ++ [x[cur]] := by
          rw [show cur + 1 - start = (cur - start) + 1 by omega, List.take_add_one]
          congr 1
          rw [List.getElem?_drop, show start + (cur - start) = cur by omega, List.getElem?_eq_getElem hlt]
          rfl
        rw [e1]
        cases linesL lb (x.drop (cur + 1)) with
        | nil => simp [comb]
        | cons r rs => simp [comb]
    · subst hs
      rw [hrun]
      have hbody : StrLaws.lsBody (S x) cur (lines, cur + 1) = pure (ForInStep.yield (lines, cur + 1)) := by
        unfold StrLaws.lsBody
        have : decide (cur + 1 ≤ cur) = false := decide_eq_false (by omega)
        simp only [this, Bool.false_and, Bool.false_eq_true, if_false]
      rw [hbody]
      show sps x (StrLaws.lsEnd (S x) (Id.run (forIn (m := Id) (List.range' (cur + 1) m) (lines, cur + 1) (StrLaws.lsBody (S x))))) = _
      rw [(ls_spec x m (cur + 1) _ _ (by omega)).1 (Nat.le_refl _), Nat.sub_self, List.take_zero, comb_nil]
theorem lines_S (x : List Nat) : Txt.lines (S x) = (linesL lb x).map S := by
  have h := (ls_spec x x.length 0 #[] 0 (by omega)).1 (Nat.le_refl _)
  rw [Nat.sub_self, List.take_zero, comb_nil, List.drop_zero] at h
  have h2 : sps x (lineSpans (S x)) = (linesL lb x).map S := by
    rw [StrLaws.ls_eq, S_len]
    simpa [sps] using h
  have e : linesOf (S x) = sps x (lineSpans (S x)) := by
    unfold linesOf lineCuts sps
    rw [List.map_map]
    apply List.map_congr_left
    rintro ⟨i, j, k⟩ _
    rfl
  unfold Txt.lines
  split
  · rename_i hc
    have hc' : lineCuts (S x) = [(0, (S x).length)] := eq_of_beq hc
    have : linesOf (S x) = [S x] := by
      unfold linesOf
      rw [hc']
      show [strSub (S x) 0 (S x).length] = [S x]
      congr 1
      exact S_ext (by rw [sub_list, S_len]; simp)
    rw [← this, e, h2]
  · rw [e, h2]
theorem lb_ech (c : Nat) (h : ech c) : lb c = true ↔ (c = 10 ∨ c = 13) := by
  have key : ∀ c : _root_.Fin 127, ech c.1 → (lb c.1 = true ↔ (c.1 = 10 ∨ c.1 = 13)) := by
    unfold ech
    decide +kernel
  have hc : c < 127 := by unfold ech at h; omega
  exact key ⟨c, hc⟩ h
theorem sp_ech (c : Nat) (h : ech c) : Unicode.isSpace c = true ↔ (c = 9 ∨ c = 10 ∨ c = 13 ∨ c = 32) := by
  have key : ∀ c : _root_.Fin 127, ech c.1 → (Unicode.isSpace c.1 = true ↔ (c.1 = 9 ∨ c.1 = 10 ∨ c.1 = 13 ∨ c.1 = 32)) := by
    unfold ech
    decide +kernel
  have hc : c < 127 := by unfold ech at h; omega
  exact key ⟨c, hc⟩ h
end Mine
end
section
open PySem PySem.W PySem.Calls PyProof.Rows
set_option Elab.async false
set_option maxRecDepth 100000
set_option linter.unusedVariables false
namespace Mine
theorem strValue_at {l : List (PySem.Str × Tok)} {i : Nat} {v : Value} {ls : List (List Nat)} (he : l.map (·.1) = ls.map S) (h : (strValues l)[i]? = some v) : ∃ li t, v = .str (S li) t ∧ ls[i]? = some li := by
  unfold strValues at h
  rw [List.getElem?_map] at h
  cases hl : l[i]? with
  | none => rw [hl] at h; cases h
  | some p =>
    rw [hl] at h
    have h1 : (l.map (·.1))[i]? = some p.1 := by rw [List.getElem?_map, hl]; rfl
    rw [he, List.getElem?_map] at h1
    cases hi : ls[i]? with
    | none => rw [hi] at h1; cases h1
    | some li =>
      rw [hi] at h1
      have e : S li = p.1 := by simpa using h1
      refine ⟨li, p.2, ?_, rfl⟩
      rw [e]
      simpa using h.symm
/-- two maps that agree at the written names and beside them -/
noncomputable def SameOn (m m' : PySem.Str → Option Value) : List (String × Option Value) → Prop
  | [] => True
  | p :: r => m (Str.ofString p.1) = m' (Str.ofString p.1) ∧ SameOn m m' r
noncomputable def OffL (y : PySem.Str) : List (String × Option Value) → Prop
  | [] => True
  | p :: r => y ≠ Str.ofString p.1 ∧ OffL y r
theorem SameOn.all {m m' : PySem.Str → Option Value} : ∀ {l : List (String × Option Value)}, SameOn m m' l → ∀ p ∈ l, m (Str.ofString p.1) = m' (Str.ofString p.1)
  | p :: r, h, q, hq => by
    rcases List.mem_cons.mp hq with rfl | hq
    · exact h.1
    · exact SameOn.all h.2 q hq
theorem OffL.of {y : PySem.Str} : ∀ {l : List (String × Option Value)}, (∀ p ∈ l, y ≠ Str.ofString p.1) → OffL y l
  | [], _ => True.intro
  | p :: r, h => ⟨h p (by simp), OffL.of fun q hq => h q (List.mem_cons_of_mem _ hq)⟩
theorem ite_skip {α : Type} {y a : PySem.Str} {v r x : α} (h : y ≠ a) (k : r = x) : (if y = a then v else r) = x := (if_neg h).trans k
theorem bmo_ext {m m₀ : PySem.Str → Option Value} : ∀ (l : List (String × Option Value)), (∀ p ∈ l, m (Str.ofString p.1) = bmo m₀ l (Str.ofString p.1)) → (∀ y, (∀ p ∈ l, y ≠ Str.ofString p.1) → m y = m₀ y) → ∀ y, m y = bmo m₀ l y := by
  intro l h1 h2 y
  by_cases h : ∃ p ∈ l, y = Str.ofString p.1
  · obtain ⟨p, hp, rfl⟩ := h
    exact h1 p hp
  · have hn : ∀ p ∈ l, y ≠ Str.ofString p.1 := fun p hp e => h ⟨p, hp, e⟩
    rw [h2 y hn]
    have key : ∀ (l : List (String × Option Value)), (∀ p ∈ l, y ≠ Str.ofString p.1) → bmo m₀ l y = m₀ y := by
      intro l
      induction l with
      | nil => intro _; rfl
      | cons p r ih =>
        intro hh
        show (if y = Str.ofString p.1 then p.2 else bmo m₀ r y) = _
        rw [if_neg (hh p (by simp)), ih (fun q hq => hh q (List.mem_cons_of_mem _ hq))]
    exact (key l hn).symm
theorem bmo_ext2 {m m₀ : PySem.Str → Option Value} (l : List (String × Option Value)) (h1 : SameOn m (bmo m₀ l) l) (h2 : ∀ y, OffL y l → m y = m₀ y) : ∀ y, m y = bmo m₀ l y :=
  bmo_ext l h1.all fun y hy => h2 y (OffL.of hy)
theorem frExt {h₀ h h' : Heap} {L : Addr} {m : PySem.Str → Option Value} (F : Fr h₀ L h m) (e : Ext h h') : Fr h₀ L h' m := ⟨F.ns.keeps e, fun b o x => e b o (F.keep b o x), F.above⟩
theorem newsExt {h₀ h h' : Heap} {L : Addr} {a : List (Addr × Obj)} (N : News h₀ L h a) (e : Ext h h') : News h₀ L h' a := fun p hp => ⟨e _ _ (N p hp).1, (N p hp).2⟩
theorem newsSub {h₀ h : Heap} {L : Addr} {a b : List (Addr × Obj)} (N : News h₀ L h a) (hs : ∀ p ∈ b, p ∈ a) : News h₀ L h b := fun p hp => N p (hs p hp)

theorem S_eq : Str.ofString "=" = S [61] := by decide +kernel
theorem S_nl : Str.ofString "\n" = S [10] := by decide +kernel
theorem S_crnl : Str.ofString "\x0d\n" = S [13, 10] := by decide +kernel
theorem S_sptab : Str.ofString " \t" = S [32, 9] := by decide +kernel
theorem S_emp : Str.ofString "" = S [] := by decide +kernel
theorem S_hexd : Str.ofString "0123456789abcdefABCDEF" = S [48, 49, 50, 51, 52, 53, 54, 55, 56, 57, 97, 98, 99, 100, 101, 102, 65, 66, 67, 68, 69, 70] := by decide +kernel
theorem item_S {x : List Nat} {i : Nat} (h : i < x.length) : Txt.item (S x) (i : Int) = S [x[i]] := by
  unfold Txt.item Txt.charAt
  have e : seqIndex? (i : Int) (S x).length = some i := by
    rw [S_len]
    unfold seqIndex?
    simp
    omega
  rw [e]
  simp [h]
theorem item_ne {c : Nat} {d : Nat} : ((S [c] != S [d]) = true) ↔ c ≠ d := by
  rw [bne_iff_ne]
  constructor
  · intro h e; exact h (by rw [e])
  · intro h e; exact h (by have := S_inj e; simpa using this)
theorem hex_lt {c : Nat} (h : isHex c = true) : c < 128 := by
  unfold isHex at h
  simp only [Bool.or_eq_true, Bool.and_eq_true, decide_eq_true_eq] at h
  rcases h with (h | h) | h <;> exact Nat.lt_of_le_of_lt h.2 (by decide)
theorem hex_list (c : Nat) : decide (c ∈ [48, 49, 50, 51, 52, 53, 54, 55, 56, 57, 97, 98, 99, 100, 101, 102, 65, 66, 67, 68, 69, 70]) = isHex c := by
  have key : ∀ c : _root_.Fin 128, decide (c.1 ∈ [48, 49, 50, 51, 52, 53, 54, 55, 56, 57, 97, 98, 99, 100, 101, 102, 65, 66, 67, 68, 69, 70]) = isHex c.1 := by decide +kernel
  have small : ∀ d ∈ [48, 49, 50, 51, 52, 53, 54, 55, 56, 57, 97, 98, 99, 100, 101, 102, 65, 66, 67, 68, 69, 70], d < 128 := by decide
  by_cases hc : c < 128
  · exact key ⟨c, hc⟩
  · rw [decide_eq_false (fun h => hc (small c h))]
    cases h : isHex c with
    | false => rfl
    | true => exact absurd (hex_lt h) hc
theorem hex_empty (c : Nat) : (Builtin.Str.occurrences (Str.ofString "0123456789abcdefABCDEF") (S [c]) 0 (Str.ofString "0123456789abcdefABCDEF").length 1).isEmpty = !isHex c := by
  have h := StrLaws.found_one (Str.ofString "0123456789abcdefABCDEF") c
  have e : (Str.ofString "0123456789abcdefABCDEF").cps.toList = [48, 49, 50, 51, 52, 53, 54, 55, 56, 57, 97, 98, 99, 100, 101, 102, 65, 66, 67, 68, 69, 70] := by rw [S_hexd]
  rw [e] at h
  have h2 : decide (c ∈ [48, 49, 50, 51, 52, 53, 54, 55, 56, 57, 97, 98, 99, 100, 101, 102, 65, 66, 67, 68, 69, 70]) = isHex c := hex_list c
  rw [h2] at h
  have h3 : (!(Builtin.Str.occurrences (Str.ofString "0123456789abcdefABCDEF") (S [c]) 0 (Str.ofString "0123456789abcdefABCDEF").length 1).isEmpty) = isHex c := h
  rw [← h3, Bool.not_not]
theorem slice_S {x : List Nat} {i j : Nat} (hij : i ≤ j) (hj : j ≤ x.length) : Txt.slice (S x) (some (i : Int)) (some (j : Int)) = S ((x.drop i).take (j - i)) := by
  have h := StrLaws.sliceText_nat (S x) hij (by rw [S_len]; exact hj)
  exact h
theorem dc_other {r : List Nat} (hr : r ≠ []) (hn : ∀ d e l, r = d :: e :: l → ¬ (isHex d = true ∧ isHex e = true)) : dc (61 :: r) = 61 :: dc r := by
  match r, hr with
  | [d], _ => rfl
  | d :: e :: l, _ =>
    rw [dc, if_pos rfl, if_neg]
    intro h
    exact hn d e l rfl (by simpa using h)
theorem linesL_len (k : Nat → Bool) : ∀ (n : Nat) (x : List Nat), x.length ≤ n → ((linesL k x).map (fun l => l.length + 1)).sum ≤ x.length + 1 ∧ ∀ l ∈ linesL k x, l.length ≤ x.length
  | _, [], _ => by simp [linesL]
  | n + 1, c :: l, h => by
    cases hc : k c with
    | true =>
      rw [linesL_yes hc]
      cases l with
      | nil => simp
      | cons d l' =>
        simp only
        split
        · have ih := linesL_len k n l' (by simp at h; omega)
          simp only [List.map_cons, List.sum_cons, List.length_cons, List.length_nil, List.mem_cons]
          refine ⟨by omega, ?_⟩
          rintro a (rfl | ha)
          · simp
          · have := ih.2 a ha; omega
        · have ih := linesL_len k n (d :: l') (by simp at h ⊢; omega)
          simp only [List.map_cons, List.sum_cons, List.length_cons, List.length_nil, List.mem_cons] at ih ⊢
          refine ⟨by omega, ?_⟩
          rintro a (rfl | ha)
          · simp
          · have := ih.2 a ha; omega
    | false =>
      have ih := linesL_len k n l (by simp at h; omega)
      rw [linesL_no hc]
      cases hq : linesL k l with
      | nil => simp
      | cons r rs =>
        rw [hq] at ih
        simp only [List.map_cons, List.sum_cons, List.length_cons, List.mem_cons] at ih ⊢
        refine ⟨by omega, ?_⟩
        rintro a (rfl | ha)
        · have := ih.2 r (Or.inl rfl); simp; omega
        · have := ih.2 a (Or.inr ha); omega
theorem rstripL_len (p : Nat → Bool) (l : List Nat) : (rstripL p l).length ≤ l.length := by
  unfold rstripL
  have h := List.IsSuffix.length_le (List.dropWhile_suffix p (l := l.reverse))
  simpa using h
theorem dc_len : ∀ (n : Nat) (l : List Nat), l.length ≤ n → (dc l).length ≤ l.length + 1
  | _, [], _ => by simp [dc]
  | _, [c], _ => by rw [dc]; split <;> simp
  | n + 1, [c, d], h => by
    rw [dc]
    have := dc_len n [d] (by simp at h ⊢; omega)
    simp at this ⊢; omega
  | n + 1, c :: d :: e :: l, h => by
    rw [dc]
    have h1 := dc_len n (d :: e :: l) (by simp at h ⊢; omega)
    have h2 := dc_len n l (by simp at h ⊢; omega)
    simp only [List.length_cons] at h1 h2 ⊢
    split
    · split
      · simp; omega
      · simp; omega
    · simp; omega
theorem decLine_len (sp : Nat → Bool) (l : List Nat) : (decLine sp l).length ≤ l.length + 1 := by
  unfold decLine
  have h := rstripL_len sp l
  have h2 := dc_len _ (rstripL sp l) (Nat.le_refl _)
  split
  · simp
  · omega
theorem flat_len {f : List Nat → List Nat} (hf : ∀ l, (f l).length ≤ l.length + 1) : ∀ (ls : List (List Nat)) (i : Nat), ((ls.take i).flatMap f).length ≤ (ls.map (fun l => l.length + 1)).sum
  | [], i => by simp
  | l :: ls, 0 => by simp
  | l :: ls, i + 1 => by
    have ih := flat_len hf ls i
    have := hf l
    simp only [List.take_succ_cons, List.flatMap_cons, List.length_append, List.map_cons, List.sum_cons]
    omega
theorem take_snoc {ls : List (List Nat)} {i : Nat} {l : List Nat} (f : List Nat → List Nat) (h : ls[i]? = some l) : (ls.take (i + 1)).flatMap f = (ls.take i).flatMap f ++ f l := by
  rw [List.take_add_one, h]
  simp
theorem at_drop {L : List Nat} {i : Nat} (h : i < L.length) : ∃ c r, L.drop i = c :: r ∧ Txt.item (S L) (i : Int) = S [c] ∧ r = L.drop (i + 1) ∧ r.length + (i + 1) = L.length :=
  ⟨L[i], L.drop (i + 1), List.drop_eq_getElem_cons h, item_S h, rfl, by rw [List.length_drop]; omega⟩
theorem bne_S {c d : Nat} (h : (S [c] != S [d]) = false) : c = d := by
  by_cases e : c = d
  · exact e
  · have := item_ne.mpr e; rw [h] at this; cases this
/-- what one turn adds when it takes one sign -/
theorem turn_one {L d dcd r : List Nat} {i c : Nat} (hi : i < L.length) (hd : L.drop i = c :: r) (hr : r = L.drop (i + 1)) (hdc : dc (c :: r) = c :: dc r) (hinv : (i < L.length ∧ d ++ dc (L.drop i) = dcd ++ dc L) ∨ (i = L.length ∧ d = dcd ++ dc L)) :
    (i + 1 ≠ L.length → (i + 1 < L.length ∧ (d ++ [c]) ++ dc (L.drop (i + 1)) = dcd ++ dc L)) ∧ (i + 1 = L.length → d ++ [c] ++ [10] = dcd ++ dc L) := by
  rcases hinv with ⟨_, h⟩ | ⟨h, _⟩
  · rw [hd, hdc] at h
    refine ⟨fun hn => ⟨by omega, ?_⟩, fun hn => ?_⟩
    · rw [← hr, ← h]; simp
    · have : r = [] := by rw [hr, hn]; simp
      rw [this] at h
      rw [← h]; simp [dc]
  · omega
end Mine
end
section
open PySem PySem.W PySem.Calls PyProof.Rows
set_option Elab.async false
set_option maxRecDepth 100000
set_option maxHeartbeats 0
set_option linter.unusedVariables false
namespace Mine
theorem wp_hex {M : Model} {A : Around} {E : Value → Shared → Prop} {s : Shared} {Q : Value → Shared → Prop} {v : Value} {text : List Nat} {n : Int}
    (hs : (text.takeWhile (· != 0)).length ≤ 640) (hr : (int_private% "readNumeral") 0 16 (text.takeWhile (· != 0)) = (int_private% "Numeral.value") n)
    (ha : ((text.takeWhile (· != 0)).length == text.length) = true) (h : Q (.int n s.toks) { s with toks := s.toks + 1 }) :
    wpAny M A ((int_private% "intFromText") v text 16) Q E s := by
  obtain ⟨hp, g, d, tk, os⟩ := s
  repeat (any_goals (first
    | assumption
    | (with_reducible refine wpAny_ite_true (decide_eq_true hs) ?_)
    | (with_reducible refine wpAny_ite_true (decide_eq_true ha) ?_)
    | wp_step))
  all_goals (try rw [hr])
  all_goals (try dsimp only)
  repeat (any_goals (first
    | assumption
    | (with_reducible refine wpAny_ite_true (decide_eq_true hs) ?_)
    | (with_reducible refine wpAny_ite_true (decide_eq_true ha) ?_)
    | wp_step))
theorem gives_hex {a b : Nat} {n : Int} {u v : Tok} (hall : (S [a, b]).cps.all (· < 128) = true) (hs : ((([a, b] : List Nat).takeWhile (· != 0)).length ≤ 640)) (hr : (int_private% "readNumeral") 0 16 (([a, b] : List Nat).takeWhile (· != 0)) = (int_private% "Numeral.value") n)
    (ha : ((([a, b] : List Nat).takeWhile (· != 0)).length == ([a, b] : List Nat).length) = true) : Gives (Builtin.«int.__new__» ⟨[.type "int", .str (S [a, b]) u, .int 16 v], []⟩) (.int n) :=
  .of_wp fun M A E s Q h => by
    obtain ⟨hp, g, d, tk, os⟩ := s
    have f1 := F.conv_sub_int
    have f2 := F.madeHere_int
    repeat (any_goals (first
      | assumption
      | ((with_reducible show wpAny _ _ ((int_private% "intFromText") _ _ _) _ _ _); rw [if_pos hall]; refine wp_hex (text := [a, b]) hs hr ha ?_)
      | wp_step))
    all_goals first | exact ⟨_, rfl, h⟩ | skip
theorem typeCall_int_2 (a b : Value) : checkTypeCall "int" ⟨[a, b], []⟩ = pure () := by kernel_rfl
theorem newCall_int_2 (a b : Value) : checkBuiltinCall "int.__new__" ⟨[.type "int", a, b], []⟩ = pure () := by kernel_rfl
theorem call_hex {prog : Program} {w : World} {A : Around} {E : Value → Shared → Prop} {s : Shared} {Q : Value → Shared → Prop} {a b : Nat} {n : Int} {u v : Tok}
    (hall : (S [a, b]).cps.all (· < 128) = true) (hs : ((([a, b] : List Nat).takeWhile (· != 0)).length ≤ 640)) (hr : (int_private% "readNumeral") 0 16 (([a, b] : List Nat).takeWhile (· != 0)) = (int_private% "Numeral.value") n)
    (ha : ((([a, b] : List Nat).takeWhile (· != 0)).length == ([a, b] : List Nat).length) = true) (h : Q (.int n s.toks) { s with toks := s.toks + 1 }) :
    wpAny (model prog w) A (call (.type "int") [.str (S [a, b]) u, .int 16 v]) Q E s :=
  callType_new F.called_int F.newNe_int (typeCall_int_2 _ _) (newCall_int_2 _ _) (fun obj => F.args_object_init_3 obj _ _) F.entry_int_new (gives_hex hall hs hr ha).meets (show (Made.int n).post _ s from ⟨rfl, h⟩)
noncomputable def hexs : List Nat := [48, 49, 50, 51, 52, 53, 54, 55, 56, 57, 97, 98, 99, 100, 101, 102, 65, 66, 67, 68, 69, 70]
theorem hex_mem {c : Nat} (h : isHex c = true) : c ∈ hexs := by
  have key : ∀ c : _root_.Fin 128, isHex c.1 = true → c.1 ∈ hexs := by decide +kernel
  exact key ⟨c, hex_lt h⟩ h
theorem hex_table : hexs.map (fun d => hexs.map (fun e => (int_private% "readNumeral") 0 16 (([d, e] : List Nat).takeWhile (· != 0)))) = hexs.map (fun d => hexs.map (fun e => (int_private% "Numeral.value") ((16 * hexVal d + hexVal e : Nat) : Int))) := by kernel_rfl
theorem hex_reads {d e : Nat} (hd : isHex d = true) (he : isHex e = true) : (int_private% "readNumeral") 0 16 (([d, e] : List Nat).takeWhile (· != 0)) = (int_private% "Numeral.value") ((16 * hexVal d + hexVal e : Nat) : Int) :=
  List.map_inj_left.mp (List.map_inj_left.mp hex_table d (hex_mem hd)) e (hex_mem he)
theorem hex_val {c : Nat} (h : isHex c = true) : hexVal c < 16 ∧ c ≠ 0 := by
  have key : ∀ c : _root_.Fin 128, isHex c.1 = true → hexVal c.1 < 16 ∧ c.1 ≠ 0 := by decide +kernel
  exact key ⟨c, hex_lt h⟩ h
theorem hex_bound {d e : Nat} (hd : isHex d = true) (he : isHex e = true) : 16 * hexVal d + hexVal e < 256 := by
  have h1 := (hex_val hd).1
  have h2 := (hex_val he).1
  clear hd he
  omega
theorem call_hex2 {prog : Program} {w : World} {A : Around} {E : Value → Shared → Prop} {s : Shared} {Q : Value → Shared → Prop} {d e : Nat} {u v : Tok} (hd : isHex d = true) (he : isHex e = true)
    (h : Q (.int ((16 * hexVal d + hexVal e : Nat) : Int) s.toks) { s with toks := s.toks + 1 }) : wpAny (model prog w) A (call (.type "int") [.str (S [d, e]) u, .int 16 v]) Q E s := by
  have r := hex_reads hd he
  have h1 : (d != 0) = true := by simpa using (hex_val hd).2
  have h2 : (e != 0) = true := by simpa using (hex_val he).2
  have h4 := hex_lt hd
  have h5 := hex_lt he
  clear hd he
  have h3 : ([d, e] : List Nat).takeWhile (· != 0) = [d, e] := by simp [List.takeWhile, h1, h2]
  refine call_hex (by simp; omega) (by rw [h3]; exact Nat.le_of_ble_eq_true rfl) r (by rw [h3]; simp) h
theorem unq_spec {w : World} {A : Around} {s : Shared} {Q : Value → Shared → Prop} {E : Value → Shared → Prop} {mean : ExcName → Option Value} {mg mb : Str → Option Value} {t : Tok} {a b : Nat}
    (X : (hd.heap_1 w.params).In s.heap) (T : TopH mean mg mb s.heap) (hroom : A.depth + 5 < recursionLimit) (hun : A.units + 20 < cLine) (hh : A.handled = none)
    (ha : isHex a = true) (hb : isHex b = true)
    (h : ∀ h' tk tk', Ext s.heap h' → Q (.str (S [16 * hexVal a + hexVal b]) tk) { s with heap := h', toks := tk' }) :
    wpAny (model pg w) A (call (.ref 58) [.str (S [61, a, b]) t]) Q E s := by
  refine' enter (f := 58) (binds := [(Str.ofString "s", .str (S [61, a, b]) t)]) X T ?r (by k_is) (by k_is) (BindsTo.of_eq rfl) (locs rfl) ?_ rfl rfl rfl (by decide)
  case r => omega
  intro h₁ tk F N
  (repeat' ((fail_if_success (with_reducible show wpAny _ _ (exec (PySem.Stmt.While _ _ _ _) _) _ _ _)); (first | (k_unfold; (try dsimp only)) | walk1 | (dsimp only; walk1) | (leave1; (try dsimp only)) | fail "no step")))
  rename_i h2 t2 k2 F2 N2 hl2
  have e1 : Txt.slice (S [61, a, b]) (some 1) (some 3) = S [a, b] := slice_S (x := [61, a, b]) (i := 1) (j := 3) (by decide) (Nat.le_refl 3)
  rw [e1]
  clear hl2
  refine call_hex2 ha hb ?_
  have hn := hex_bound ha hb
  generalize 16 * hexVal a + hexVal b = n at hn h ⊢
  (repeat' ((fail_if_success (with_reducible show wpAny _ _ (exec (PySem.Stmt.While _ _ _ _) _) _ _ _)); (first | (k_unfold; (try dsimp only)) | walk1 | (dsimp only; walk1) | (leave1; (try dsimp only)) | fail "no step")))
  have e2 : Int.toNat (n : Int) = n := Int.toNat_natCast n
  simp only [e2]
  exact h h2 _ _ F2.keep
end Mine
end
section
open PySem PySem.W PySem.Calls PyProof.Rows
set_option linter.unusedVariables false
namespace Mine
/-- a fact kept out of sight of the arithmetic -/
noncomputable def Keep (p : Prop) : Prop := p
theorem Keep.of {p : Prop} (h : p) : Keep p := h
theorem Keep.out {p : Prop} (h : Keep p) : p := h
theorem item_last {x : List Nat} (h : x ≠ []) : Txt.item (S x) (-1) = S [x.getLast h] := by
  have hp : 0 < x.length := List.length_pos_iff.mpr h
  unfold Txt.item Txt.charAt
  have e : seqIndex? (-1 : Int) (S x).length = some (x.length - 1) := by
    rw [S_len, StrLaws.seqIndex_neg (by omega) (by omega)]
    congr 1
    omega
  rw [e]
  have hl : x.length - 1 < x.length := by omega
  simp [hl, List.getLast_eq_getElem]
theorem crnl_empty (c : Nat) : (Builtin.Str.occurrences (Str.ofString "\x0d\n") (S [c]) 0 (Str.ofString "\x0d\n").length 1).isEmpty = !(decide (c = 13 ∨ c = 10)) := by
  have h := StrLaws.found_one (Str.ofString "\x0d\n") c
  have e : (Str.ofString "\x0d\n").cps.toList = [13, 10] := by rw [S_crnl]
  rw [e] at h
  have h3 : (!(Builtin.Str.occurrences (Str.ofString "\x0d\n") (S [c]) 0 (Str.ofString "\x0d\n").length 1).isEmpty) = decide (c ∈ [13, 10]) := h
  have h2 : decide (c ∈ [13, 10]) = decide (c = 13 ∨ c = 10) := by simp
  rw [← h2, ← h3, Bool.not_not]
theorem endswith_S (d : List Nat) : Txt.endswith (S d) (Str.ofString "\n") = decide (d.getLast? = some 10) := by
  rw [S_nl]
  unfold Txt.endswith
  rw [StrLaws.subAt_eq, S_len, S_len]
  rcases List.eq_nil_or_concat d with rfl | ⟨r, c, rfl⟩
  · rfl
  · simp
    rw [Bool.eq_iff_iff]
    simp
theorem slice_neg1 {x : List Nat} {l : Option Int} (h : x ≠ []) : Txt.slice (S x) l (some (-1)) = Txt.slice (S x) l (some ((x.length - 1 : Nat) : Int)) := by
  have hp : 0 < x.length := List.length_pos_iff.mpr h
  have e : Builtin.Str.strSliceIndices l (some (-1)) 1 (S x).length = Builtin.Str.strSliceIndices l (some ((x.length - 1 : Nat) : Int)) 1 (S x).length := by
    rw [S_len]
    unfold Builtin.Str.strSliceIndices
    have a : (-1 : Int) < 0 := by omega
    have b : ¬ (((x.length - 1 : Nat) : Int) < 0) := by omega
    have c : (-1 : Int) + (x.length : Int) = ((x.length - 1 : Nat) : Int) := by omega
    simp only [a, b, if_true, if_false, c]
  unfold Txt.slice
  rw [e]
theorem slice_lo (x : List Nat) (u : Option Int) : Txt.slice (S x) none u = Txt.slice (S x) (some 0) u := by
  unfold Txt.slice
  rw [StrLaws.sliceIdx_none_lo]
theorem slice_hi (x : List Nat) (l : Option Int) : Txt.slice (S x) l none = Txt.slice (S x) l (some (x.length : Int)) := by
  unfold Txt.slice
  rw [StrLaws.sliceIdx_none_hi, S_len]
theorem slice_from {x : List Nat} {i : Nat} (h : i ≤ x.length) : Txt.slice (S x) (some (i : Int)) none = S (x.drop i) := by
  rw [slice_hi, slice_S h (Nat.le_refl _)]
  congr 1
  rw [List.take_of_length_le]
  simp
theorem slice_dropLast {x : List Nat} (h : x ≠ []) : Txt.slice (S x) none (some (-1)) = S x.dropLast := by
  rw [slice_neg1 h, slice_lo]
  have e := slice_S (x := x) (i := 0) (j := x.length - 1) (by omega) (by omega)
  rw [show ((0 : Nat) : Int) = 0 from rfl] at e
  rw [e]
  congr 1
  simp [List.dropLast_eq_take]
theorem slice_toLast {x : List Nat} {i : Nat} (h : i < x.length) : Txt.slice (S x) (some (i : Int)) (some (-1)) = S ((x.drop i).dropLast) := by
  rw [slice_neg1 (by intro e; rw [e] at h; simp at h), slice_S (by omega) (by omega)]
  congr 1
  rw [List.dropLast_eq_take, List.length_drop]
  congr 1
  omega
end Mine
end
section
open PySem PySem.W PySem.Calls PyProof.Rows
set_option Elab.async false
set_option maxRecDepth 100000
set_option maxHeartbeats 0
set_option pp.maxSteps 30000
set_option linter.unusedVariables false
namespace Mine
noncomputable abbrev mD (x : List Nat) (t : Tok) : PySem.Str → Option Value := fun y => List.lookup y [(Str.ofString "encoded", Value.str (S x) t), (Str.ofString "eol", Value.str (Str.ofString "\n") 212)].reverse
theorem dn1 {k n i j r : Nat} (hk : k = n - i) (hr : r + (i + 1) = n) (hj : i < j) : n - j < k := by omega
theorem la1 {d : List Nat} {c i n : Nat} (h : d.length ≤ 1001 + 2 * i) (hn : 1 ≤ n) : (d ++ [c]).length ≤ 1001 + 2 * (i + n) := by
  rw [List.length_append, List.length_singleton]
  omega
theorem la2 {d : List Nat} {c e i n : Nat} (h : d.length ≤ 1001 + 2 * i) (hn : 1 ≤ n) : (d ++ [c] ++ [e]).length ≤ 1001 + 2 * (i + n) := by
  rw [List.length_append, List.length_append, List.length_singleton, List.length_singleton]
  omega
/-- the inner loop of decode -/
noncomputable def JW (m₀ : PySem.Str → Option Value) (own : List (Addr × Obj)) (L dcd : List Nat) (k : Nat) (m : PySem.Str → Option Value) (nx : List (Addr × Obj)) : Prop :=
  nx = own ∧ ∃ (i : Nat) (d : List Nat) (j : Int) (Y : PySem.Str) (t1 t2 t3 t4 : Tok) (u : Option Value), (∀ y, m y = bmo m₀ [("n", some (.int (L.length : Nat) t1)), ("i", some (.int j t2)), ("line", some (.str (S L) t3)), ("decoded", some (.str Y t4)), ("c", u)] y) ∧ j = (i : Int) ∧ Y = S d ∧ k = L.length - i ∧ d.length ≤ 1001 + 2 * i ∧ ((i < L.length ∧ d ++ dc (L.drop i) = dcd ++ dc L) ∨ (i = L.length ∧ d = dcd ++ dc L))
theorem JW.elim {m₀ : PySem.Str → Option Value} {own : List (Addr × Obj)} {L dcd : List Nat} {k : Nat} {m : PySem.Str → Option Value} {nx : List (Addr × Obj)} {G : Prop} (h : JW m₀ own L dcd k m nx)
    (g : ∀ (i : Nat) (d : List Nat) (t1 t2 t3 t4 : Tok) (u : Option Value), nx = own → (∀ y, m y = bmo m₀ [("n", some (.int (L.length : Nat) t1)), ("i", some (.int (i : Int) t2)), ("line", some (.str (S L) t3)), ("decoded", some (.str (S d) t4)), ("c", u)] y) → k = L.length - i → d.length ≤ 1001 + 2 * i →
      ((i < L.length ∧ d ++ dc (L.drop i) = dcd ++ dc L) ∨ (i = L.length ∧ d = dcd ++ dc L)) → G) : G := by
  obtain ⟨rfl, i, d, j, Y, t1, t2, t3, t4, u, hm, rfl, rfl, hk, hl, hi⟩ := h
  exact g i d t1 t2 t3 t4 u rfl hm hk hl hi
theorem wl {h₀ h : Heap} {L' : Addr} {s : Shared} {Q : Flow → Shared → Prop} {k : Nat} {own : List (Addr × Obj)} {m₀ m : PySem.Str → Option Value} {L dcd : List Nat} {tk : Nat} (i : Nat) (d : List Nat) {j : Int} {Y : PySem.Str} {t1 t2 t3 t4 : Tok} {u : Option Value}
    (F : Fr h₀ L' h m) (N : News h₀ L' h own) (hm : ∀ y, m y = bmo m₀ [("n", some (.int (L.length : Nat) t1)), ("i", some (.int j t2)), ("line", some (.str (S L) t3)), ("decoded", some (.str Y t4)), ("c", u)] y)
    (hj : j = (i : Int)) (hY : Y = S d) (hk : L.length - i < k) (hl : d.length ≤ 1001 + 2 * i) (hi : (i < L.length ∧ d ++ dc (L.drop i) = dcd ++ dc L) ∨ (i = L.length ∧ d = dcd ++ dc L)) : WhileStep2 h₀ L' s (JW m₀ own L dcd) Q k .next { s with heap := h, toks := tk } :=
  ⟨h, tk, m, own, L.length - i, rfl, F, N, hk, rfl, i, d, j, Y, t1, t2, t3, t4, u, hm, hj, hY, rfl, hl, hi⟩
theorem wlc {h₀ h : Heap} {L' : Addr} {s : Shared} {Q : Flow → Shared → Prop} {k : Nat} {own : List (Addr × Obj)} {m₀ m : PySem.Str → Option Value} {L dcd : List Nat} {tk : Nat} (i : Nat) (d : List Nat) {j : Int} {Y : PySem.Str} {t1 t2 t3 t4 : Tok} {u : Option Value}
    (F : Fr h₀ L' h m) (N : News h₀ L' h own) (hm : ∀ y, m y = bmo m₀ [("n", some (.int (L.length : Nat) t1)), ("i", some (.int j t2)), ("line", some (.str (S L) t3)), ("decoded", some (.str Y t4)), ("c", u)] y)
    (hj : j = (i : Int)) (hY : Y = S d) (hk : L.length - i < k) (hl : d.length ≤ 1001 + 2 * i) (hi : (i < L.length ∧ d ++ dc (L.drop i) = dcd ++ dc L) ∨ (i = L.length ∧ d = dcd ++ dc L)) : WhileStep2 h₀ L' s (JW m₀ own L dcd) Q k .cont { s with heap := h, toks := tk } :=
  ⟨h, tk, m, own, L.length - i, rfl, F, N, hk, rfl, i, d, j, Y, t1, t2, t3, t4, u, hm, hj, hY, rfl, hl, hi⟩
noncomputable abbrev wsp : Nat → Bool := Unicode.isSpace
theorem dec_spec {w : World} {A : Around} {s : Shared} {Q : Value → Shared → Prop} {E : Value → Shared → Prop} {mean : ExcName → Option Value} {mg mb : Str → Option Value} {t : Tok} {x : List Nat}
    (X : (hd.heap_1 w.params).In s.heap) (T : TopH mean mg mb s.heap) (hroom : A.depth + 6 < recursionLimit) (hun : A.units + 40 < cLine) (hh : A.handled = none) (hx : x.length ≤ 1000)
    (h : ∀ h' tk tk', Ext s.heap h' → Q (.str (S (decG lb wsp x)) tk) { s with heap := h', toks := tk' }) :
    wpAny (model pg w) A (call (.ref 86) [.str (S x) t]) Q E s := by
  have hxl : (S x).length ≤ 1000 := by rw [S_len]; exact hx
  refine' enter (f := 86) (binds := [(Str.ofString "encoded", .str (S x) t), (Str.ofString "eol", .str (Str.ofString "\n") 212)]) X T ?r (by k_is) (by k_is) (binds_K X rfl (by k_is) rfl rfl rfl) (locs rfl) ?_ rfl rfl rfl (by decide)
  case r => omega
  intro h₁ tk F N
  (repeat' ((fail_if_success (with_reducible show InvPostN _ _ _ _ _ _ _ _ _)); (fail_if_success (with_reducible show WhileStep2 _ _ _ _ _ _ _ _)); (fail_if_success (with_reducible show InvEndN _ _ _ _ _ _ _)); (fail_if_success (with_reducible show wpAny _ _ (exec (PySem.Stmt.While _ _ _ _) _) _ _ _)); (first | (k_unfold; (try dsimp only)) | walk1 | (dsimp only; walk1) | (leave1; (try dsimp only)) | fail "no step")))
  · rename_i hx0 _ _ _ l h2 k2 hl1 hl2 hl3 hl4 F2 N2
    have hxn : x ≠ [] := by intro e; rw [e] at hx0; exact hx0 rfl
    rw [lines_S] at hl1
    have hlen := linesL_len lb x.length x (Nat.le_refl _)
    refine' iterL (fun i m₁ nx => nx = [] ∧ ∃ (dcd : List Nat) (Y : PySem.Str) (tk1 : Tok) (ul u1 u2 u3 : Option Value), (∀ y, m₁ y = bmo (mD x t) [("line", ul), ("decoded", some (.str Y tk1)), ("i", u1), ("n", u2), ("c", u3)] y) ∧ Y = S dcd ∧ dcd = (((linesL lb x).take i).flatMap (decLine wsp)))
      (by exact hh) (N2 _ (List.Mem.head _)).1 (N2 _ (List.Mem.head _)).2.1 F2 News.nil (fun _ hq => nomatch hq) ?m0 ?turn ?done
    case m0 => exact ⟨rfl, [], _, _, none, none, none, none, by (first | (refine bmo_ext2 _ ?_ ?_; (· ((repeat refine And.intro rfl ?_); exact True.intro)); (· (intro y hy; (repeat (refine ite_skip (by first | exact hy.1 | exact hy.2.1 | exact hy.2.2.1 | exact hy.2.2.2.1 | exact hy.2.2.2.2.1 | exact hy.2.2.2.2.2.1) ?_)); rfl))) | (refine bmo_ext _ ?_ ?_; (· ((repeat refine List.forall_mem_cons.mpr ⟨rfl, ?_⟩); exact List.forall_mem_nil _)); (· (intro y hy; (try simp only [List.forall_mem_cons] at hy); (try simp only [hy, ↓reduceIte]))))), S_emp, rfl⟩
    case turn =>
      rintro i v m₁ nx h3 tk3 own hi - hoff ⟨rfl, dcd, Y, tk1, ul, u1, u2, u3, hm, rfl, hd⟩ F3 N3
      obtain ⟨li, tl, rfl, hli⟩ := strValue_at hl1 hi
      have F4 := frAs F3 (m' := bmo (mD x t) [("line", some (.str (S li) tl)), ("decoded", some (.str (S dcd) tk1)), ("i", u1), ("n", u2), ("c", u3)]) (fun y => by
        by_cases hy : y = Str.ofString "line"
        · simp only [bmo, if_pos hy]
        · rw [if_neg hy, hm]; simp only [bmo, if_neg hy])
      dsimp only [bmo] at F4
      rw [List.nil_append] at N3
      clear F3 hm F2 N2 hl2 hl3 hl4
      have hlil : (S li).length ≤ 1000 := by rw [S_len]; exact Nat.le_trans (hlen.2 li (List.mem_of_getElem? hli)) hx
      have hdl : dcd.length ≤ 1001 := by rw [hd]; exact Nat.le_trans (flat_len (decLine_len wsp) _ i) (Nat.le_trans hlen.1 (by omega))
      have hdcl : (S dcd).length ≤ 1001 := by rw [S_len]; exact hdl
      have hL : Txt.rstrip (S li) = S (rstripL wsp li) := rstrip_S li
      have hLl : (rstripL wsp li).length ≤ 1000 := Nat.le_trans (rstripL_len wsp li) (by rw [S_len] at hlil; exact hlil)
      have htk := take_snoc (decLine wsp) hli
      rw [← hd] at htk
      refine postIs ?_
      intro PP hPP
      (repeat' ((fail_if_success (with_reducible show InvPostN _ _ _ _ _ _ _ _ _)); (fail_if_success (with_reducible show WhileStep2 _ _ _ _ _ _ _ _)); (fail_if_success (with_reducible show InvEndN _ _ _ _ _ _ _)); (fail_if_success (with_reducible show wpAny _ _ (exec (PySem.Stmt.While _ _ _ _) _) _ _ _)); (first | (k_unfold; (try dsimp only)) | walk1 | (dsimp only; walk1) | (leave1; (try dsimp only)) | fail "no step")))
      · rename_i t5 k5 hr5 h5 hf5 hn5 tk5 h6 h7 F6 N6
        rw [hL] at F6 hn5
        generalize hLL : rstripL wsp li = L at *
        have hLn : L ≠ [] := by intro e; rw [e] at hn5; exact hn5 rfl
        have hLd : decLine wsp li = dc L := by
          unfold decLine
          rw [hLL, if_neg hLn]
        have hLp : 0 < L.length := List.length_pos_iff.mpr hLn
        refine' While_S (JW (mD x t) own L dcd) (n₀ := L.length) F6 N6 ?a6 ?turn
        case a6 => exact ⟨rfl, 0, dcd, _, _, _, _, _, _, _, by (first | (refine bmo_ext2 _ ?_ ?_; (· ((repeat refine And.intro rfl ?_); exact True.intro)); (· (intro y hy; (repeat (refine ite_skip (by first | exact hy.1 | exact hy.2.1 | exact hy.2.2.1 | exact hy.2.2.2.1 | exact hy.2.2.2.2.1 | exact hy.2.2.2.2.2.1) ?_)); rfl))) | (refine bmo_ext _ ?_ ?_; (· ((repeat refine List.forall_mem_cons.mpr ⟨rfl, ?_⟩); exact List.forall_mem_nil _)); (· (intro y hy; (try simp only [List.forall_mem_cons] at hy); (try simp only [hy, ↓reduceIte]))))), rfl, rfl, by simp, hdl, Or.inl ⟨hLp, rfl⟩⟩
        case turn =>
          intro k m₂ nx₂ h8 tk8 F8 N8 hJ0
          refine postIsW ?_
          intro PW hPW
          refine JW.elim hJ0 ?_
          clear hJ0
          intro i8 d8 t81 t82 t83 t84 u8 hnx8 hm8 hk8 hdl8 hinv
          subst hnx8
          have F9 := frAs F8 hm8
          dsimp only [bmo] at F9
          clear F8 hm8 F6 N6
          have hSL := S_len L
          have hi8 : (i8 : Int) ≤ ((S L).length : Int) := by rw [hSL]; omega
          have hd8 : (S d8).length ≤ 3001 := by rw [S_len]; omega
          replace hinv := Keep.of hinv
          (repeat' ((fail_if_success (with_reducible show InvPostN _ _ _ _ _ _ _ _ _)); (fail_if_success (with_reducible show WhileStep2 _ _ _ _ _ _ _ _)); (fail_if_success (with_reducible show InvEndN _ _ _ _ _ _ _)); (fail_if_success (with_reducible show wpAny _ _ (exec (PySem.Stmt.While _ _ _ _) _) _ _ _)); (first | (k_unfold; (try dsimp only)) | walk1 | (dsimp only; walk1) | (leave1; (try dsimp only)) | fail "no step")))
          · obtain ⟨c, r, hdr, hit, hrr, hrl⟩ := at_drop (L := L) (i := i8) (by omega)
            with_reducible rename ((_ != _) = true) => hc
            rw [hit, S_eq] at hc
            have tn := turn_one (by omega) hdr hrr (dc_ne (item_ne.mp hc) r) hinv.out
            refine PostIs.use hPW ?_
            exact wl (i8 + 1) (d8 ++ [c] ++ [10]) (by assumption) (by assumption) (by (first | (refine bmo_ext2 _ ?_ ?_; (· ((repeat refine And.intro rfl ?_); exact True.intro)); (· (intro y hy; (repeat (refine ite_skip (by first | exact hy.1 | exact hy.2.1 | exact hy.2.2.1 | exact hy.2.2.2.1 | exact hy.2.2.2.2.1 | exact hy.2.2.2.2.2.1) ?_)); rfl))) | (refine bmo_ext _ ?_ ?_; (· ((repeat refine List.forall_mem_cons.mpr ⟨rfl, ?_⟩); exact List.forall_mem_nil _)); (· (intro y hy; (try simp only [List.forall_mem_cons] at hy); (try simp only [hy, ↓reduceIte])))))) rfl (by rw [hit, S_nl, S_app, S_app]) (dn1 hk8 hrl (Nat.lt_add_of_pos_right (by decide))) (la2 hdl8 (by decide)) (Or.inr ⟨by clear tn; omega, tn.2 (by omega)⟩)
          · obtain ⟨c, r, hdr, hit, hrr, hrl⟩ := at_drop (L := L) (i := i8) (by omega)
            with_reducible rename ((_ != _) = true) => hc
            rw [hit, S_eq] at hc
            have tn := turn_one (by omega) hdr hrr (dc_ne (item_ne.mp hc) r) hinv.out
            refine PostIs.use hPW ?_
            exact wl (i8 + 1) (d8 ++ [c]) (by assumption) (by assumption) (by (first | (refine bmo_ext2 _ ?_ ?_; (· ((repeat refine And.intro rfl ?_); exact True.intro)); (· (intro y hy; (repeat (refine ite_skip (by first | exact hy.1 | exact hy.2.1 | exact hy.2.2.1 | exact hy.2.2.2.1 | exact hy.2.2.2.2.1 | exact hy.2.2.2.2.2.1) ?_)); rfl))) | (refine bmo_ext _ ?_ ?_; (· ((repeat refine List.forall_mem_cons.mpr ⟨rfl, ?_⟩); exact List.forall_mem_nil _)); (· (intro y hy; (try simp only [List.forall_mem_cons] at hy); (try simp only [hy, ↓reduceIte])))))) rfl (by rw [hit, S_app]) (dn1 hk8 hrl (Nat.lt_add_of_pos_right (by decide))) (la1 hdl8 (by decide)) (Or.inl (tn.1 (by omega)))
          · obtain ⟨c, r, hdr, hit, hrr, hrl⟩ := at_drop (L := L) (i := i8) (by omega)
            with_reducible rename ((_ != _) = false) => hc
            rw [hit, S_eq] at hc
            have hc' := bne_S hc
            subst hc'
            have hr0 : r = [] := List.length_eq_zero_iff.mp (by omega)
            refine PostIs.use hPW ?_
            exact wlc (i8 + 1) d8 (by assumption) (by assumption) (by (first | (refine bmo_ext2 _ ?_ ?_; (· ((repeat refine And.intro rfl ?_); exact True.intro)); (· (intro y hy; (repeat (refine ite_skip (by first | exact hy.1 | exact hy.2.1 | exact hy.2.2.1 | exact hy.2.2.2.1 | exact hy.2.2.2.2.1 | exact hy.2.2.2.2.2.1) ?_)); rfl))) | (refine bmo_ext _ ?_ ?_; (· ((repeat refine List.forall_mem_cons.mpr ⟨rfl, ?_⟩); exact List.forall_mem_nil _)); (· (intro y hy; (try simp only [List.forall_mem_cons] at hy); (try simp only [hy, ↓reduceIte])))))) rfl rfl (dn1 hk8 hrl (Nat.lt_add_of_pos_right (by decide))) (Nat.le_trans hdl8 (by omega)) (Or.inr ⟨by omega, by
              rcases hinv.out with ⟨_, e⟩ | ⟨e, _⟩
              · rw [hdr, hr0] at e; rw [← e]; simp [dc]
              · omega⟩)
          · omega
          · obtain ⟨c, r, hdr, hit, hrr, hrl⟩ := at_drop (L := L) (i := i8) (by omega)
            with_reducible rename ((_ != _) = false) => hc
            rw [hit, S_eq] at hc
            have hc' := bne_S hc
            subst hc'
            obtain ⟨a, r1, hdr1, hit1, hrr1, hrl1⟩ := at_drop (L := L) (i := i8 + 1) (by omega)
            with_reducible rename (List.isEmpty (Builtin.Str.occurrences _ (Txt.item _ (_ + 1)) _ _ _) = true) => hx1
            rw [show Txt.item (S L) ((i8 : Int) + 1) = S [a] from hit1, hex_empty] at hx1
            have hra : r = a :: r1 := by rw [hrr, hdr1]
            have tn := turn_one (by omega) hdr hrr (dc_other (by rw [hra]; simp) (fun d e l hq => by rw [hra] at hq; injection hq with h1 h2; subst h1; intro hw; rw [hw.1] at hx1; cases hx1)) hinv.out
            refine PostIs.use hPW ?_
            exact wl (i8 + 1) (d8 ++ [61]) (by assumption) (by assumption) (by (first | (refine bmo_ext2 _ ?_ ?_; (· ((repeat refine And.intro rfl ?_); exact True.intro)); (· (intro y hy; (repeat (refine ite_skip (by first | exact hy.1 | exact hy.2.1 | exact hy.2.2.1 | exact hy.2.2.2.1 | exact hy.2.2.2.2.1 | exact hy.2.2.2.2.2.1) ?_)); rfl))) | (refine bmo_ext _ ?_ ?_; (· ((repeat refine List.forall_mem_cons.mpr ⟨rfl, ?_⟩); exact List.forall_mem_nil _)); (· (intro y hy; (try simp only [List.forall_mem_cons] at hy); (try simp only [hy, ↓reduceIte])))))) rfl (by rw [hit, S_app]) (dn1 hk8 hrl (Nat.lt_add_of_pos_right (by decide))) (la1 hdl8 (by decide)) (Or.inl (tn.1 (by omega)))
          · omega
          · obtain ⟨c, r, hdr, hit, hrr, hrl⟩ := at_drop (L := L) (i := i8) (by omega)
            with_reducible rename ((_ != _) = false) => hc
            rw [hit, S_eq] at hc
            have hc' := bne_S hc
            subst hc'
            obtain ⟨a, r1, hdr1, hit1, hrr1, hrl1⟩ := at_drop (L := L) (i := i8 + 1) (by omega)
            obtain ⟨b, r2, hdr2, hit2, hrr2, hrl2⟩ := at_drop (L := L) (i := i8 + 1 + 1) (by omega)
            with_reducible rename (List.isEmpty (Builtin.Str.occurrences _ (Txt.item _ (_ + 2)) _ _ _) = true) => hx2
            rw [show Txt.item (S L) ((i8 : Int) + 2) = S [b] from hit2, hex_empty] at hx2
            have hra : r = a :: b :: r2 := by rw [hrr, hdr1, hrr1, hdr2]
            have tn := turn_one (by omega) hdr hrr (dc_other (by rw [hra]; simp) (fun d e l hq => by rw [hra] at hq; injection hq with h1 h2; injection h2 with h2 h3; subst h2; intro hw; rw [hw.2] at hx2; cases hx2)) hinv.out
            refine PostIs.use hPW ?_
            exact wl (i8 + 1) (d8 ++ [61]) (by assumption) (by assumption) (by (first | (refine bmo_ext2 _ ?_ ?_; (· ((repeat refine And.intro rfl ?_); exact True.intro)); (· (intro y hy; (repeat (refine ite_skip (by first | exact hy.1 | exact hy.2.1 | exact hy.2.2.1 | exact hy.2.2.2.1 | exact hy.2.2.2.2.1 | exact hy.2.2.2.2.2.1) ?_)); rfl))) | (refine bmo_ext _ ?_ ?_; (· ((repeat refine List.forall_mem_cons.mpr ⟨rfl, ?_⟩); exact List.forall_mem_nil _)); (· (intro y hy; (try simp only [List.forall_mem_cons] at hy); (try simp only [hy, ↓reduceIte])))))) rfl (by rw [hit, S_app]) (dn1 hk8 hrl (Nat.lt_add_of_pos_right (by decide))) (la1 hdl8 (by decide)) (Or.inl (tn.1 (by omega)))
          · obtain ⟨c, r, hdr, hit, hrr, hrl⟩ := at_drop (L := L) (i := i8) (by omega)
            with_reducible rename ((_ != _) = false) => hc
            rw [hit, S_eq] at hc
            have hc' := bne_S hc
            subst hc'
            obtain ⟨a, r1, hdr1, hit1, hrr1, hrl1⟩ := at_drop (L := L) (i := i8 + 1) (by omega)
            obtain ⟨b, r2, hdr2, hit2, hrr2, hrl2⟩ := at_drop (L := L) (i := i8 + 1 + 1) (by omega)
            with_reducible rename (List.isEmpty (Builtin.Str.occurrences _ (Txt.item _ (_ + 1)) _ _ _) = false) => hx1
            with_reducible rename (List.isEmpty (Builtin.Str.occurrences _ (Txt.item _ (_ + 2)) _ _ _) = false) => hx2
            rw [show Txt.item (S L) ((i8 : Int) + 1) = S [a] from hit1, hex_empty] at hx1
            rw [show Txt.item (S L) ((i8 : Int) + 2) = S [b] from hit2, hex_empty] at hx2
            have ha : isHex a = true := by simpa using hx1
            have hb : isHex b = true := by simpa using hx2
            have hra : r = a :: b :: r2 := by rw [hrr, hdr1, hrr1, hdr2]
            with_reducible rename Fr _ _ _ _ => F10
            with_reducible rename News _ _ _ _ => N10
            have es : Txt.slice (S L) (some (i8 : Int)) (some ((i8 : Int) + 3)) = S [61, a, b] := by
              have e := slice_S (x := L) (i := i8) (j := i8 + 3) (by omega) (by omega)
              rw [hdr, hra] at e
              have e3 : i8 + 3 - i8 = 3 := by omega
              rw [e3] at e
              exact e
            rw [es]
            refine unq_spec (X.keeps F10.keep) (T.keeps F10.keep) (by show A.depth + 1 + 5 < _; omega) (by show A.units + 3 + 20 < _; omega) hh ha hb ?_
            intro h11 tk11 tk11' hx11
            have F11 := frExt F10 hx11
            have N11 := newsExt N10 hx11
            have hdcx := dc_hex ha hb r2
            have hvl : (S [16 * hexVal a + hexVal b]).length = 1 := S_len _
            generalize 16 * hexVal a + hexVal b = vv at *
            clear F10 N10
            have hinv3 : d8 ++ vv :: dc r2 = dcd ++ dc L := by
              rcases hinv.out with ⟨_, e⟩ | ⟨e, _⟩
              · rw [hdr, hra, hdcx] at e; exact e
              · omega
            dsimp only
            (repeat' ((fail_if_success (with_reducible show InvPostN _ _ _ _ _ _ _ _ _)); (fail_if_success (with_reducible show WhileStep2 _ _ _ _ _ _ _ _)); (fail_if_success (with_reducible show InvEndN _ _ _ _ _ _ _)); (fail_if_success (with_reducible show wpAny _ _ (exec (PySem.Stmt.While _ _ _ _) _) _ _ _)); (first | (k_unfold; (try dsimp only)) | walk1 | (dsimp only; walk1) | (leave1; (try dsimp only)) | fail "no step")))
            · have hr0 : r2 = [] := List.length_eq_zero_iff.mp (by omega)
              refine PostIs.use hPW ?_
              exact wl (i8 + 3) (d8 ++ [vv] ++ [10]) (by assumption) (by assumption) (by (first | (refine bmo_ext2 _ ?_ ?_; (· ((repeat refine And.intro rfl ?_); exact True.intro)); (· (intro y hy; (repeat (refine ite_skip (by first | exact hy.1 | exact hy.2.1 | exact hy.2.2.1 | exact hy.2.2.2.1 | exact hy.2.2.2.2.1 | exact hy.2.2.2.2.2.1) ?_)); rfl))) | (refine bmo_ext _ ?_ ?_; (· ((repeat refine List.forall_mem_cons.mpr ⟨rfl, ?_⟩); exact List.forall_mem_nil _)); (· (intro y hy; (try simp only [List.forall_mem_cons] at hy); (try simp only [hy, ↓reduceIte])))))) rfl (by rw [S_nl, S_app, S_app]) (dn1 hk8 hrl (Nat.lt_add_of_pos_right (by decide))) (la2 hdl8 (by decide)) (Or.inr ⟨by omega, by rw [← hinv3, hr0]; simp [dc]⟩)
            · refine PostIs.use hPW ?_
              exact wl (i8 + 3) (d8 ++ [vv]) (by assumption) (by assumption) (by (first | (refine bmo_ext2 _ ?_ ?_; (· ((repeat refine And.intro rfl ?_); exact True.intro)); (· (intro y hy; (repeat (refine ite_skip (by first | exact hy.1 | exact hy.2.1 | exact hy.2.2.1 | exact hy.2.2.2.1 | exact hy.2.2.2.2.1 | exact hy.2.2.2.2.2.1) ?_)); rfl))) | (refine bmo_ext _ ?_ ?_; (· ((repeat refine List.forall_mem_cons.mpr ⟨rfl, ?_⟩); exact List.forall_mem_nil _)); (· (intro y hy; (try simp only [List.forall_mem_cons] at hy); (try simp only [hy, ↓reduceIte])))))) rfl (by rw [S_app]) (dn1 hk8 hrl (Nat.lt_add_of_pos_right (by decide))) (la1 hdl8 (by decide)) (Or.inl ⟨by omega, by rw [← hinv3, show L.drop (i8 + 3) = r2 from hrr2.symm]; simp⟩)
          · omega
          · obtain ⟨c, r, hdr, hit, hrr, hrl⟩ := at_drop (L := L) (i := i8) (by omega)
            with_reducible rename ((_ != _) = false) => hc
            rw [hit, S_eq] at hc
            have hc' := bne_S hc
            subst hc'
            have tn := turn_one (by omega) hdr hrr (dc_other (by intro e; rw [e] at hrl; simp at hrl; omega) (fun d e l hq => by rw [hq] at hrl; simp at hrl; omega)) hinv.out
            refine PostIs.use hPW ?_
            exact wl (i8 + 1) (d8 ++ [61]) (by assumption) (by assumption) (by (first | (refine bmo_ext2 _ ?_ ?_; (· ((repeat refine And.intro rfl ?_); exact True.intro)); (· (intro y hy; (repeat (refine ite_skip (by first | exact hy.1 | exact hy.2.1 | exact hy.2.2.1 | exact hy.2.2.2.1 | exact hy.2.2.2.2.1 | exact hy.2.2.2.2.2.1) ?_)); rfl))) | (refine bmo_ext _ ?_ ?_; (· ((repeat refine List.forall_mem_cons.mpr ⟨rfl, ?_⟩); exact List.forall_mem_nil _)); (· (intro y hy; (try simp only [List.forall_mem_cons] at hy); (try simp only [hy, ↓reduceIte])))))) rfl (by rw [hit, S_app]) (dn1 hk8 hrl (Nat.lt_add_of_pos_right (by decide))) (la1 hdl8 (by decide)) (Or.inl (tn.1 (by omega)))
          · refine PostIs.use hPP ?_
            exact InvEndN.intro F9 N8 (nx := []) ⟨rfl, d8, _, _, _, _, _, _, by (first | (refine bmo_ext2 _ ?_ ?_; (· ((repeat refine And.intro rfl ?_); exact True.intro)); (· (intro y hy; (repeat (refine ite_skip (by first | exact hy.1 | exact hy.2.1 | exact hy.2.2.1 | exact hy.2.2.2.1 | exact hy.2.2.2.2.1 | exact hy.2.2.2.2.2.1) ?_)); rfl))) | (refine bmo_ext _ ?_ ?_; (· ((repeat refine List.forall_mem_cons.mpr ⟨rfl, ?_⟩); exact List.forall_mem_nil _)); (· (intro y hy; (try simp only [List.forall_mem_cons] at hy); (try simp only [hy, ↓reduceIte]))))), rfl, by
              rcases hinv.out with ⟨e, _⟩ | ⟨_, e⟩
              · omega
              · rw [htk, hLd, e]⟩ rfl (fun _ hp => nomatch hp) (fun _ hp => hp)
      · rename_i F6 N6
        have hLe : rstripL wsp li = [] := by
          rename_i t5 k5 hr5 h5 hz t6 k6 hr6 h6
          have hz' : (Txt.rstrip (S li)).length = 0 := by omega
          rw [hL, S_len] at hz'
          exact List.length_eq_zero_iff.mp hz'
        refine PostIs.use hPP ?_
        exact InvEndN.intro F6 N6 (nx := []) ⟨rfl, dcd ++ [10], _, _, _, _, _, _, by (first | (refine bmo_ext2 _ ?_ ?_; (· ((repeat refine And.intro rfl ?_); exact True.intro)); (· (intro y hy; (repeat (refine ite_skip (by first | exact hy.1 | exact hy.2.1 | exact hy.2.2.1 | exact hy.2.2.2.1 | exact hy.2.2.2.2.1 | exact hy.2.2.2.2.2.1) ?_)); rfl))) | (refine bmo_ext _ ?_ ?_; (· ((repeat refine List.forall_mem_cons.mpr ⟨rfl, ?_⟩); exact List.forall_mem_nil _)); (· (intro y hy; (try simp only [List.forall_mem_cons] at hy); (try simp only [hy, ↓reduceIte]))))), by rw [S_nl, S_app], by rw [htk]; unfold decLine; rw [if_pos hLe]⟩ rfl (fun _ hp => nomatch hp) (fun _ hp => hp)
    case done =>
      rintro m₁ nx h3 tk3 ⟨rfl, dcd, Y, tk1, ul, u1, u2, u3, hm, rfl, hd⟩ F3 N3
      have F4 := frAs F3 hm
      dsimp only [bmo] at F4
      have hdl : dcd.length ≤ 1001 := by rw [hd]; exact Nat.le_trans (flat_len (decLine_len wsp) _ _) (Nat.le_trans hlen.1 (by omega))
      have hdcl : (S dcd).length ≤ 1001 := by rw [S_len]; exact hdl
      clear F3 F2 N2
      have hall : dcd = decBody lb wsp x := by
        have e : (strValues l).length = (linesL lb x).length := by
          have := congrArg List.length hl1
          simpa [strValues] using this
        rw [hd, e, List.take_length]
        rfl
      have hitl := item_last hxn
      have hgl : x.getLast? = some (x.getLast hxn) := List.getLast?_eq_some_getLast hxn
      dsimp only
      (repeat' ((fail_if_success (with_reducible show InvPostN _ _ _ _ _ _ _ _ _)); (fail_if_success (with_reducible show WhileStep2 _ _ _ _ _ _ _ _)); (fail_if_success (with_reducible show InvEndN _ _ _ _ _ _ _)); (fail_if_success (with_reducible show wpAny _ _ (exec (PySem.Stmt.While _ _ _ _) _) _ _ _)); (first | (k_unfold; (try dsimp only)) | walk1 | (dsimp only; walk1) | (leave1; (try dsimp only)) | fail "no step")))
      · with_reducible rename (List.isEmpty _ = true) => hq
        with_reducible rename (Txt.endswith _ _ = true) => he
        with_reducible rename Fr _ _ _ _ => F12
        rw [hitl, crnl_empty] at hq
        rw [endswith_S] at he
        have he' : dcd.getLast? = some 10 := by simpa using he
        have hq' : ¬ (x.getLast hxn = 13 ∨ x.getLast hxn = 10) := by simpa using hq
        have hdn : dcd ≠ [] := by intro e; rw [e] at he'; cases he'
        have eS : Txt.slice (S dcd) none (some (-((1 : Nat) : Int))) = S dcd.dropLast := slice_dropLast hdn
        rw [eS]
        have eG : decG lb wsp x = dcd.dropLast := by
          unfold decG
          rw [if_neg hxn, ← hall, if_pos ⟨by rw [hgl]; constructor <;> (intro e; injection e with e; omega), he'⟩]
        rw [← eG]
        exact h _ _ _ F12.keep
      · with_reducible rename (Txt.endswith _ _ = false) => he
        rw [endswith_S] at he
        have he' : dcd.getLast? ≠ some 10 := by simpa using he
        have eG : decG lb wsp x = dcd := by
          unfold decG
          rw [if_neg hxn, ← hall, if_neg (fun e => he' e.2)]
        rw [← eG]
        exact h _ _ _ F4.keep
      · with_reducible rename (List.isEmpty _ = false) => hq
        rw [hitl, crnl_empty] at hq
        have hq' : x.getLast hxn = 13 ∨ x.getLast hxn = 10 := of_decide_eq_true (by simpa only [Bool.not_eq_false'] using hq)
        have eG : decG lb wsp x = dcd := by
          unfold decG
          rw [if_neg hxn, ← hall, if_neg]
          rw [hgl]
          rintro ⟨⟨e1, e2⟩, _⟩
          rcases hq' with e | e <;> rw [e] at e1 e2 <;> simp at e1 e2
        rw [← eG]
        exact h _ _ _ F4.keep
  · rename_i hx0
    have hxe : x = [] := by
      cases x with
      | nil => rfl
      | cons a r => exact absurd hx0 (by rw [S_len]; simp; omega)
    subst hxe
    exact h h₁ t _ F.keep
end Mine
end
section
open PySem PySem.W PySem.Calls PyProof.Rows
set_option Elab.async false
set_option maxRecDepth 100000
set_option linter.unusedVariables false
namespace Mine
theorem enterP {w : World} {A : Around} {s : Shared} {Q : Value → Shared → Prop} {E : Value → Shared → Prop} {mean : ExcName → Option Value} {mg mb : Str → Option Value} {K : Frag}
    {name qual : Str} {params : Arguments} {body : List Stmt} {scope : Scope} {dV kV doc pm cdv ct oc : Value} {an od : Option Addr} {osl : Array (Option Value)} {f : Addr} {vs : List Value} {binds : List (Str × Value)}
    (X : K.In s.heap) (T : TopH mean mg mb s.heap) (hroom : A.depth < recursionLimit)
    (ho : K.lookup f = some ⟨oc, od, .func (fnOf name qual params body scope dV kV doc pm an cdv ct), osl⟩) (hcd : codeIn K cdv qual = true)
    (hbind : BindsTo s (fnOf name qual params body scope dV kV doc pm an cdv ct) ⟨vs, []⟩ binds) (hloc : ∀ y ∈ binds, scope.names.lookup y.1 = some .local) (hbl : 0 < binds.length)
    (h : ∀ h₁ tk, 0 < tk → Fr s.heap s.heap.objs.size h₁ (fun y => binds.reverse.lookup y) → News s.heap s.heap.objs.size h₁ [] →
      wpAny (model pg w) (A.deeper (envOf qual scope s.heap.objs.size f cdv)) (execs body (envOf qual scope s.heap.objs.size f cdv))
        (fun fl s' => Q (match fl with | .ret v => v | _ => .none) s') No { s with heap := h₁, toks := tk })
    (hco : scope.isCoroutine = false) (hgen : scope.isGenerator = false) (hk : scope.kind = .function)
    (hcell : ∀ x ∈ scope.names, x.2 ≠ .cell) : wpAny (model pg w) A (call (.ref f) vs) Q E s := by
  refine wpAny_call (codeAny_call_def (fd := fnOf name qual params body scope dV kV doc pm an cdv ct) (body := body) (binds := binds) hroom (X _ _ ho) rfl T.nolimit (codeRec_of X hcd) rfl hbind hcell hloc (fun h₁ hns hk₁ => ?_) hco hgen hk)
  exact wpAny_mono (h h₁ _ (by omega) ⟨hns, hk₁, Nat.le_refl _⟩ News.nil) (fun _ _ x => x) fun _ _ x => x.elim
/-- a step with a postcondition of one's own; the tokens grow -/
theorem cut {α : Type} {M : Model} {A : Around} {s : Shared} {t : Sem α} {Q : α → Shared → Prop} {E : Value → Shared → Prop} (P : α → Shared → Prop) (hpos : 0 < s.toks) (hw : wpAny M A t P No s) (h : ∀ a s', 0 < s'.toks → P a s' → Q a s') : wpAny M A t Q E s :=
  wpAny_with_toks (n := 1) hpos (wpAny_mono hw (fun a s' p hp => h a s' hp p) (fun _ _ x => x.elim))
end Mine
end
section
namespace Mine
theorem rep1 (c : Nat) (r : List Nat) : ∀ x, rep [c] r x = x.flatMap (fun d => if d = c then r else [d])
  | [] => by rw [rep_nil]; rfl
  | d :: x => by
    rw [rep_cons, List.flatMap_cons, ← rep1 c r x]
    by_cases h : d = c
    · subst h; simp [List.isPrefixOf]
    · have : ¬ (List.isPrefixOf [c] (d :: x) = true) := by
        simp [List.isPrefixOf]; exact fun e => h e.symm
      rw [if_neg this, if_neg h]; rfl
theorem esc_chain (x : List Nat) : rep [9] tabD (rep [10] lfD (rep [13] crD (rep [34] quotL (rep [62] gtL (rep [60] ltL (rep [38] ampL x)))))) = escL false x := by
  simp only [rep1, List.flatMap_assoc, escL]
  congr 1
  funext d
  by_cases h1 : d = 38
  · subst h1; decide +kernel
  by_cases h2 : d = 60
  · subst h2; decide +kernel
  by_cases h3 : d = 34
  · subst h3; decide +kernel
  by_cases h4 : d = 9
  · subst h4; decide +kernel
  by_cases h5 : d = 10
  · subst h5; decide +kernel
  by_cases h6 : d = 13
  · subst h6; decide +kernel
  by_cases h7 : d = 62
  · subst h7; decide +kernel
  simp [esc, h1, h2, h3, h4, h5, h6, h7]
theorem esc_chainX (x : List Nat) : rep [13] crX (rep [10] lfX (rep [9] tabX (rep [34] quotL (rep [60] ltL (rep [38] ampL x))))) = escL true x := by
  simp only [rep1, List.flatMap_assoc, escL]
  congr 1
  funext d
  by_cases h1 : d = 38
  · subst h1; decide +kernel
  by_cases h2 : d = 60
  · subst h2; decide +kernel
  by_cases h3 : d = 34
  · subst h3; decide +kernel
  by_cases h4 : d = 9
  · subst h4; decide +kernel
  by_cases h5 : d = 10
  · subst h5; decide +kernel
  by_cases h6 : d = 13
  · subst h6; decide +kernel
  by_cases h7 : d = 62
  · subst h7; decide +kernel
  simp [esc, h1, h2, h3, h4, h5, h6, h7]
end Mine
end
section
open PySem PySem.W PySem.Calls PyProof.Rows
set_option Elab.async false
set_option maxRecDepth 100000
set_option maxHeartbeats 0
set_option linter.unusedVariables false
namespace Mine
theorem gen_pos {α : Type} {M : Model} {A : Around} {t : Sem α} {Q : α → Shared → Prop} {E : Value → Shared → Prop} {h : Heap} {g : Array GenState} {d : Drawn} {n : Nat} {os : OsState} (hw : ∀ tk, 0 < tk → wpAny M A t Q E ⟨h, g, d, tk, os⟩) : wpAny M A t Q E ⟨h, g, d, n + 1, os⟩ := hw _ (Nat.succ_pos _)
local macro_rules | `(tactic| walk_at "execs cons") => `(tactic| ((with_reducible refine gen_pos ?_); intro tk hpos))
local macro_rules | `(tactic| walk_at "execs nil") => `(tactic| ((with_reducible refine gen_pos ?_); intro tk hpos))
local macro_rules | `(tactic| walk_at "call builtin:str.replace") => `(tactic| (refine SC.replaceW (by first | omega | ((show @Ne Nat _ _); omega)) (by first | omega | ((show @Ne Nat _ _); omega)) (by first | omega | ((show @Ne Nat _ _); omega)) (by decide +kernel) (by assumption) (by decide +kernel) ?_; intro _ _))
theorem ite_cases {c a b : Prop} [Decidable c] (h1 : c → a) (h2 : ¬ c → b) : if c then a else b := by
  split
  · exact h1 ‹_›
  · exact h2 ‹_›
noncomputable def PostIf (h₀ : Heap) (L : Addr) (m : Str → Option Value) (p r x : List Nat) (s : Shared) : Flow → Shared → Prop := fun fl s' => fl = .next ∧ ∃ h' tk tk', s' = { s with heap := h', toks := tk' } ∧ Fr h₀ L h' (bmo m [("text", some (.str (S (rep p r x)) tk))])
theorem cut_if {prog : Program} {w : World} {A : Around} {s : Shared} {Q : Flow → Shared → Prop} {E : Value → Shared → Prop} {h₀ : Heap} {L : Addr} {env : Env} {m : Str → Option Value} {t : Tok} {x : List Nat} {sp rp : Str}
    {p1 p2 p3 p4 p5 p6 p7 p8 p9 p10 p11 : Pos} {k1 k2 k3 : Nat}
    (hpos : 0 < s.toks) (F : Fr h₀ L s.heap m) (hm : m (Str.ofString "text") = some (.str (S x) t))
    (hw : wpAny (model prog w) A (exec (.If (.Compare (.Constant (.str sp) k1 p1) [.In] [.Name (Str.ofString "text") p2] p3)
      [.Assign [.Name (Str.ofString "text") p4] (.Call (.Attribute (.Name (Str.ofString "text") p5) (Str.ofString "replace") p6) [.Constant (.str sp) k2 p7, .Constant (.str rp) k3 p8] [] p9) p10] [] p11) env) (PostIf h₀ L m sp.cps.toList rp.cps.toList x s) No s)
    (h : ∀ h' tk tk', 0 < tk' → Fr h₀ L h' (bmo m [("text", some (.str (S (rep sp.cps.toList rp.cps.toList x)) tk))]) → Q .next { s with heap := h', toks := tk' }) :
    wpAny (model prog w) A (exec (.If (.Compare (.Constant (.str sp) k1 p1) [.In] [.Name (Str.ofString "text") p2] p3)
      [.Assign [.Name (Str.ofString "text") p4] (.Call (.Attribute (.Name (Str.ofString "text") p5) (Str.ofString "replace") p6) [.Constant (.str sp) k2 p7, .Constant (.str rp) k3 p8] [] p9) p10] [] p11) env) Q E s := by
  refine cut _ hpos hw ?_
  rintro fl s' hp ⟨rfl, h', tk, tk', rfl, F'⟩
  exact h h' tk tk' hp F'
theorem S_cps (x : PySem.Str) : S x.cps.toList = x := S_of x
theorem replace_T {sp rp : PySem.Str} (h : sp.cps.toList ≠ []) (x : List Nat) : Txt.replace (S x) sp rp = S (rep sp.cps.toList rp.cps.toList x) := by
  have := replace_S h x rp.cps.toList
  rw [S_of, S_of] at this
  exact this
theorem rep_noc {c : Nat} {r : List Nat} : ∀ {x : List Nat}, c ∉ x → rep [c] r x = x
  | [], _ => rep_nil _ _
  | d :: x, h => by
    rw [rep_cons, if_neg, rep_noc (fun hh => h (List.mem_cons_of_mem _ hh))]
    intro e
    have : c = d := by simpa [List.isPrefixOf] using e
    exact h (by rw [this]; simp)
theorem post_yes {h₀ h' : Heap} {L : Addr} {m : Str → Option Value} {x : List Nat} {sp rp : PySem.Str} {s : Shared} {tk tk' : Nat} (hsp : sp.cps.toList ≠ []) (F : Fr h₀ L h' (fun y => if y = Str.ofString "text" then some (.str (Txt.replace (S x) sp rp) tk) else m y)) : PostIf h₀ L m sp.cps.toList rp.cps.toList x s .next { s with heap := h', toks := tk' } := by
  rw [replace_T hsp] at F
  exact ⟨rfl, h', tk, tk', rfl, F⟩
theorem post_no {h₀ h' : Heap} {L : Addr} {m : Str → Option Value} {x : List Nat} {sp rp : PySem.Str} {s : Shared} {tk' : Nat} {t : Tok} (c : Nat) (hsp : sp = S [c]) (hq : ¬ ((!(Builtin.Str.occurrences (S x) sp 0 (S x).length 1).isEmpty) = true)) (hm : m (Str.ofString "text") = some (.str (S x) t)) (F : Fr h₀ L h' m) : PostIf h₀ L m sp.cps.toList rp.cps.toList x s .next { s with heap := h', toks := tk' } := by
  subst hsp
  have h2 : (!(Builtin.Str.occurrences (S x) (S [c]) 0 (S x).length 1).isEmpty) = decide (c ∈ x) := contains_one x c
  rw [h2] at hq
  have h3 : c ∉ x := by simpa using hq
  refine ⟨rfl, h', t, tk', rfl, frAs F fun y => ?_⟩
  rw [show (S [c]).cps.toList = [c] from rfl, rep_noc h3]
  simp only [bmo]
  split
  · rename_i e; rw [e, hm]
  · rfl
theorem rep_len6 {p r : List Nat} (hr : r.length ≤ 6) : ∀ (n : Nat) (x : List Nat), x.length ≤ n → (rep p r x).length ≤ 6 * x.length
  | _, [], _ => by rw [rep_nil]; simp
  | n + 1, c :: x, h => by
    simp at h
    rw [rep_cons]
    split
    · have := rep_len6 (p := p) hr n (x.drop (p.length - 1)) (by simp; omega)
      simp at this ⊢
      omega
    · have := rep_len6 (p := p) hr n x h
      simp; omega
theorem rep_lenS {p r x : List Nat} (n : Nat) (hr : r.length ≤ 6) (hx : (S x).length ≤ n) (hn : 6 * n ≤ 1048576) : (S (rep p r x)).length ≤ 6 * n := by
  rw [S_len] at *
  have := rep_len6 (p := p) hr _ x (Nat.le_refl _)
  omega
theorem cpsR0 : (Str.ofString "&amp;").cps.toList = ampL := by decide +kernel
theorem cpsR1 : (Str.ofString "&lt;").cps.toList = ltL := by decide +kernel
theorem cpsR2 : (Str.ofString "&gt;").cps.toList = gtL := by decide +kernel
theorem cpsR3 : (Str.ofString "&quot;").cps.toList = quotL := by decide +kernel
theorem cpsR4 : (Str.ofString "&#13;").cps.toList = crD := by decide +kernel
theorem cpsR5 : (Str.ofString "&#10;").cps.toList = lfD := by decide +kernel
theorem cpsR6 : (Str.ofString "&#09;").cps.toList = tabD := by decide +kernel
theorem cpsR7 : (Str.ofString "&#x9;").cps.toList = tabX := by decide +kernel
theorem cpsR8 : (Str.ofString "&#xA;").cps.toList = lfX := by decide +kernel
theorem cpsR9 : (Str.ofString "&#xD;").cps.toList = crX := by decide +kernel
theorem cpsP38 : (Str.ofString "&").cps.toList = [38] := by decide +kernel
theorem cpsP60 : (Str.ofString "<").cps.toList = [60] := by decide +kernel
theorem cpsP62 : (Str.ofString ">").cps.toList = [62] := by decide +kernel
theorem cpsP34 : (Str.ofString "\"").cps.toList = [34] := by decide +kernel
theorem cpsP13 : (Str.ofString "\x0d").cps.toList = [13] := by decide +kernel
theorem cpsP10 : (Str.ofString "\n").cps.toList = [10] := by decide +kernel
theorem cpsP9 : (Str.ofString "\t").cps.toList = [9] := by decide +kernel
theorem esc_spec {w : World} {A : Around} {s : Shared} {Q : Value → Shared → Prop} {E : Value → Shared → Prop} {mean : ExcName → Option Value} {mg mb : Str → Option Value} {t : Tok} {x : List Nat}
    (X : (hd.heap_1 w.params).In s.heap) (T : TopH mean mg mb s.heap) (hroom : A.depth + 6 < recursionLimit) (hun : A.units + 40 < cLine) (hh : A.handled = none) (hx : x.length ≤ 9)
    (h : ∀ h' tk tk', Ext s.heap h' → Q (.str (S (escL false x)) tk) { s with heap := h', toks := tk' }) :
    wpAny (model pg w) A (call (.ref 28) [.str (S x) t]) Q E s := by
  have hxl : (S x).length ≤ 1048576 := by rw [S_len]; omega
  have hxl' : (S x).length ≤ 9 := by rw [S_len]; omega
  refine' enterP (f := 28) (binds := [(Str.ofString "text", .str (S x) t)]) X T ?r (by k_is) (by k_is) (BindsTo.of_eq rfl) (locs rfl) (by simp) ?_ rfl rfl rfl (by decide)
  case r => omega
  intro h₁ tk hpos F N
  clear N
  (repeat' ((fail_if_success (with_reducible show wpAny _ _ (exec (PySem.Stmt.If _ _ _ _) _) _ _ _)); (first | (k_unfold; (try dsimp only)) | walk1 | (dsimp only; walk1) | (leave1; (try dsimp only)) | fail "no step")))
  refine cut_if hpos F (by rfl) ?w ?n
  case w =>
    refine wpAny_If ?_
    refine wpAny_with_toks (n := 1) hpos ?_
    (repeat' ((fail_if_success (with_reducible show ite _ _ _)); (first | (with_reducible refine fun (hpos : 1 ≤ Shared.toks _) => ?_) | (k_unfold; (try dsimp only)) | walk1 | (dsimp only; walk1) | (leave1; (try dsimp only)) | fail "no step")))
    refine ite_cases (fun hq => ?_) (fun hq => ?_)
    · (repeat' ((fail_if_success (with_reducible show ite _ _ _)); (first | (with_reducible refine fun (hpos : 1 ≤ Shared.toks _) => ?_) | (k_unfold; (try dsimp only)) | walk1 | (dsimp only; walk1) | (leave1; (try dsimp only)) | fail "no step")))
      refine post_yes ?_ (by assumption)
      decide +kernel
    · (repeat' ((fail_if_success (with_reducible show ite _ _ _)); (first | (with_reducible refine fun (hpos : 1 ≤ Shared.toks _) => ?_) | (k_unfold; (try dsimp only)) | walk1 | (dsimp only; walk1) | (leave1; (try dsimp only)) | fail "no step")))
      refine post_no 38 ?_ hq (by rfl) (by assumption)
      decide +kernel
  case n =>
  clear F hpos
  intro h₁ tk tk' hpos F
  replace hxl' := rep_lenS (p := (Str.ofString "&").cps.toList) 9 (by decide +kernel : (Str.ofString "&amp;").cps.toList.length ≤ 6) hxl' (by decide)
  have hxl : (S _).length ≤ 1048576 := Nat.le_trans hxl' (by decide)
  dsimp only
  (repeat' ((fail_if_success (with_reducible show wpAny _ _ (exec (PySem.Stmt.If _ _ _ _) _) _ _ _)); (first | (k_unfold; (try dsimp only)) | walk1 | (dsimp only; walk1) | (leave1; (try dsimp only)) | fail "no step")))
  refine cut_if hpos F (by rfl) ?w ?n
  case w =>
    refine wpAny_If ?_
    refine wpAny_with_toks (n := 1) hpos ?_
    (repeat' ((fail_if_success (with_reducible show ite _ _ _)); (first | (with_reducible refine fun (hpos : 1 ≤ Shared.toks _) => ?_) | (k_unfold; (try dsimp only)) | walk1 | (dsimp only; walk1) | (leave1; (try dsimp only)) | fail "no step")))
    refine ite_cases (fun hq => ?_) (fun hq => ?_)
    · (repeat' ((fail_if_success (with_reducible show ite _ _ _)); (first | (with_reducible refine fun (hpos : 1 ≤ Shared.toks _) => ?_) | (k_unfold; (try dsimp only)) | walk1 | (dsimp only; walk1) | (leave1; (try dsimp only)) | fail "no step")))
      refine post_yes ?_ (by assumption)
      decide +kernel
    · (repeat' ((fail_if_success (with_reducible show ite _ _ _)); (first | (with_reducible refine fun (hpos : 1 ≤ Shared.toks _) => ?_) | (k_unfold; (try dsimp only)) | walk1 | (dsimp only; walk1) | (leave1; (try dsimp only)) | fail "no step")))
      refine post_no 60 ?_ hq (by rfl) (by assumption)
      decide +kernel
  case n =>
  clear F hpos
  intro h₁ tk tk' hpos F
  replace hxl' := rep_lenS (p := (Str.ofString "<").cps.toList) 54 (by decide +kernel : (Str.ofString "&lt;").cps.toList.length ≤ 6) hxl' (by decide)
  have hxl : (S _).length ≤ 1048576 := Nat.le_trans hxl' (by decide)
  dsimp only
  (repeat' ((fail_if_success (with_reducible show wpAny _ _ (exec (PySem.Stmt.If _ _ _ _) _) _ _ _)); (first | (k_unfold; (try dsimp only)) | walk1 | (dsimp only; walk1) | (leave1; (try dsimp only)) | fail "no step")))
  refine cut_if hpos F (by rfl) ?w ?n
  case w =>
    refine wpAny_If ?_
    refine wpAny_with_toks (n := 1) hpos ?_
    (repeat' ((fail_if_success (with_reducible show ite _ _ _)); (first | (with_reducible refine fun (hpos : 1 ≤ Shared.toks _) => ?_) | (k_unfold; (try dsimp only)) | walk1 | (dsimp only; walk1) | (leave1; (try dsimp only)) | fail "no step")))
    refine ite_cases (fun hq => ?_) (fun hq => ?_)
    · (repeat' ((fail_if_success (with_reducible show ite _ _ _)); (first | (with_reducible refine fun (hpos : 1 ≤ Shared.toks _) => ?_) | (k_unfold; (try dsimp only)) | walk1 | (dsimp only; walk1) | (leave1; (try dsimp only)) | fail "no step")))
      refine post_yes ?_ (by assumption)
      decide +kernel
    · (repeat' ((fail_if_success (with_reducible show ite _ _ _)); (first | (with_reducible refine fun (hpos : 1 ≤ Shared.toks _) => ?_) | (k_unfold; (try dsimp only)) | walk1 | (dsimp only; walk1) | (leave1; (try dsimp only)) | fail "no step")))
      refine post_no 62 ?_ hq (by rfl) (by assumption)
      decide +kernel
  case n =>
  clear F hpos
  intro h₁ tk tk' hpos F
  replace hxl' := rep_lenS (p := (Str.ofString ">").cps.toList) 324 (by decide +kernel : (Str.ofString "&gt;").cps.toList.length ≤ 6) hxl' (by decide)
  have hxl : (S _).length ≤ 1048576 := Nat.le_trans hxl' (by decide)
  dsimp only
  (repeat' ((fail_if_success (with_reducible show wpAny _ _ (exec (PySem.Stmt.If _ _ _ _) _) _ _ _)); (first | (k_unfold; (try dsimp only)) | walk1 | (dsimp only; walk1) | (leave1; (try dsimp only)) | fail "no step")))
  refine cut_if hpos F (by rfl) ?w ?n
  case w =>
    refine wpAny_If ?_
    refine wpAny_with_toks (n := 1) hpos ?_
    (repeat' ((fail_if_success (with_reducible show ite _ _ _)); (first | (with_reducible refine fun (hpos : 1 ≤ Shared.toks _) => ?_) | (k_unfold; (try dsimp only)) | walk1 | (dsimp only; walk1) | (leave1; (try dsimp only)) | fail "no step")))
    refine ite_cases (fun hq => ?_) (fun hq => ?_)
    · (repeat' ((fail_if_success (with_reducible show ite _ _ _)); (first | (with_reducible refine fun (hpos : 1 ≤ Shared.toks _) => ?_) | (k_unfold; (try dsimp only)) | walk1 | (dsimp only; walk1) | (leave1; (try dsimp only)) | fail "no step")))
      refine post_yes ?_ (by assumption)
      decide +kernel
    · (repeat' ((fail_if_success (with_reducible show ite _ _ _)); (first | (with_reducible refine fun (hpos : 1 ≤ Shared.toks _) => ?_) | (k_unfold; (try dsimp only)) | walk1 | (dsimp only; walk1) | (leave1; (try dsimp only)) | fail "no step")))
      refine post_no 34 ?_ hq (by rfl) (by assumption)
      decide +kernel
  case n =>
  clear F hpos
  intro h₁ tk tk' hpos F
  replace hxl' := rep_lenS (p := (Str.ofString "\"").cps.toList) 1944 (by decide +kernel : (Str.ofString "&quot;").cps.toList.length ≤ 6) hxl' (by decide)
  have hxl : (S _).length ≤ 1048576 := Nat.le_trans hxl' (by decide)
  dsimp only
  (repeat' ((fail_if_success (with_reducible show wpAny _ _ (exec (PySem.Stmt.If _ _ _ _) _) _ _ _)); (first | (k_unfold; (try dsimp only)) | walk1 | (dsimp only; walk1) | (leave1; (try dsimp only)) | fail "no step")))
  refine cut_if hpos F (by rfl) ?w ?n
  case w =>
    refine wpAny_If ?_
    refine wpAny_with_toks (n := 1) hpos ?_
    (repeat' ((fail_if_success (with_reducible show ite _ _ _)); (first | (with_reducible refine fun (hpos : 1 ≤ Shared.toks _) => ?_) | (k_unfold; (try dsimp only)) | walk1 | (dsimp only; walk1) | (leave1; (try dsimp only)) | fail "no step")))
    refine ite_cases (fun hq => ?_) (fun hq => ?_)
    · (repeat' ((fail_if_success (with_reducible show ite _ _ _)); (first | (with_reducible refine fun (hpos : 1 ≤ Shared.toks _) => ?_) | (k_unfold; (try dsimp only)) | walk1 | (dsimp only; walk1) | (leave1; (try dsimp only)) | fail "no step")))
      refine post_yes ?_ (by assumption)
      decide +kernel
    · (repeat' ((fail_if_success (with_reducible show ite _ _ _)); (first | (with_reducible refine fun (hpos : 1 ≤ Shared.toks _) => ?_) | (k_unfold; (try dsimp only)) | walk1 | (dsimp only; walk1) | (leave1; (try dsimp only)) | fail "no step")))
      refine post_no 13 ?_ hq (by rfl) (by assumption)
      decide +kernel
  case n =>
  clear F hpos
  intro h₁ tk tk' hpos F
  replace hxl' := rep_lenS (p := (Str.ofString "\x0d").cps.toList) 11664 (by decide +kernel : (Str.ofString "&#13;").cps.toList.length ≤ 6) hxl' (by decide)
  have hxl : (S _).length ≤ 1048576 := Nat.le_trans hxl' (by decide)
  dsimp only
  (repeat' ((fail_if_success (with_reducible show wpAny _ _ (exec (PySem.Stmt.If _ _ _ _) _) _ _ _)); (first | (k_unfold; (try dsimp only)) | walk1 | (dsimp only; walk1) | (leave1; (try dsimp only)) | fail "no step")))
  refine cut_if hpos F (by rfl) ?w ?n
  case w =>
    refine wpAny_If ?_
    refine wpAny_with_toks (n := 1) hpos ?_
    (repeat' ((fail_if_success (with_reducible show ite _ _ _)); (first | (with_reducible refine fun (hpos : 1 ≤ Shared.toks _) => ?_) | (k_unfold; (try dsimp only)) | walk1 | (dsimp only; walk1) | (leave1; (try dsimp only)) | fail "no step")))
    refine ite_cases (fun hq => ?_) (fun hq => ?_)
    · (repeat' ((fail_if_success (with_reducible show ite _ _ _)); (first | (with_reducible refine fun (hpos : 1 ≤ Shared.toks _) => ?_) | (k_unfold; (try dsimp only)) | walk1 | (dsimp only; walk1) | (leave1; (try dsimp only)) | fail "no step")))
      refine post_yes ?_ (by assumption)
      decide +kernel
    · (repeat' ((fail_if_success (with_reducible show ite _ _ _)); (first | (with_reducible refine fun (hpos : 1 ≤ Shared.toks _) => ?_) | (k_unfold; (try dsimp only)) | walk1 | (dsimp only; walk1) | (leave1; (try dsimp only)) | fail "no step")))
      refine post_no 10 ?_ hq (by rfl) (by assumption)
      decide +kernel
  case n =>
  clear F hpos
  intro h₁ tk tk' hpos F
  replace hxl' := rep_lenS (p := (Str.ofString "\n").cps.toList) 69984 (by decide +kernel : (Str.ofString "&#10;").cps.toList.length ≤ 6) hxl' (by decide)
  have hxl : (S _).length ≤ 1048576 := Nat.le_trans hxl' (by decide)
  dsimp only
  (repeat' ((fail_if_success (with_reducible show wpAny _ _ (exec (PySem.Stmt.If _ _ _ _) _) _ _ _)); (first | (k_unfold; (try dsimp only)) | walk1 | (dsimp only; walk1) | (leave1; (try dsimp only)) | fail "no step")))
  refine cut_if hpos F (by rfl) ?w ?n
  case w =>
    refine wpAny_If ?_
    refine wpAny_with_toks (n := 1) hpos ?_
    (repeat' ((fail_if_success (with_reducible show ite _ _ _)); (first | (with_reducible refine fun (hpos : 1 ≤ Shared.toks _) => ?_) | (k_unfold; (try dsimp only)) | walk1 | (dsimp only; walk1) | (leave1; (try dsimp only)) | fail "no step")))
    refine ite_cases (fun hq => ?_) (fun hq => ?_)
    · (repeat' ((fail_if_success (with_reducible show ite _ _ _)); (first | (with_reducible refine fun (hpos : 1 ≤ Shared.toks _) => ?_) | (k_unfold; (try dsimp only)) | walk1 | (dsimp only; walk1) | (leave1; (try dsimp only)) | fail "no step")))
      refine post_yes ?_ (by assumption)
      decide +kernel
    · (repeat' ((fail_if_success (with_reducible show ite _ _ _)); (first | (with_reducible refine fun (hpos : 1 ≤ Shared.toks _) => ?_) | (k_unfold; (try dsimp only)) | walk1 | (dsimp only; walk1) | (leave1; (try dsimp only)) | fail "no step")))
      refine post_no 9 ?_ hq (by rfl) (by assumption)
      decide +kernel
  case n =>
  clear F hpos
  intro h₁ tk tk' hpos F
  dsimp only
  (repeat' ((fail_if_success (with_reducible show wpAny _ _ (exec (PySem.Stmt.If _ _ _ _) _) _ _ _)); (first | (k_unfold; (try dsimp only)) | walk1 | (dsimp only; walk1) | (leave1; (try dsimp only)) | fail "no step")))
  simp only [cpsR0, cpsR1, cpsR2, cpsR3, cpsR4, cpsR5, cpsR6, cpsR7, cpsR8, cpsR9, cpsP38, cpsP60, cpsP62, cpsP34, cpsP13, cpsP10, cpsP9, esc_chain] at F ⊢
  exact h _ _ _ F.keep
theorem escX_spec {w : World} {A : Around} {s : Shared} {Q : Value → Shared → Prop} {E : Value → Shared → Prop} {mean : ExcName → Option Value} {mg mb : Str → Option Value} {t : Tok} {x : List Nat}
    (X : (hd.heap_1 w.params).In s.heap) (T : TopH mean mg mb s.heap) (hroom : A.depth + 6 < recursionLimit) (hun : A.units + 40 < cLine) (hh : A.handled = none) (hx : x.length ≤ 9)
    (h : ∀ h' tk tk', Ext s.heap h' → Q (.str (S (escL true x)) tk) { s with heap := h', toks := tk' }) :
    wpAny (model pg w) A (call (.ref 35) [.str (S x) t]) Q E s := by
  have hxl : (S x).length ≤ 1048576 := by rw [S_len]; omega
  have hxl' : (S x).length ≤ 9 := by rw [S_len]; omega
  refine' enterP (f := 35) (binds := [(Str.ofString "text", .str (S x) t)]) X T ?r (by k_is) (by k_is) (BindsTo.of_eq rfl) (locs rfl) (by simp) ?_ rfl rfl rfl (by decide)
  case r => omega
  intro h₁ tk hpos F N
  clear N
  (repeat' ((fail_if_success (with_reducible show wpAny _ _ (exec (PySem.Stmt.If _ _ _ _) _) _ _ _)); (first | (k_unfold; (try dsimp only)) | walk1 | (dsimp only; walk1) | (leave1; (try dsimp only)) | fail "no step")))
  refine cut_if hpos F (by rfl) ?w ?n
  case w =>
    refine wpAny_If ?_
    refine wpAny_with_toks (n := 1) hpos ?_
    (repeat' ((fail_if_success (with_reducible show ite _ _ _)); (first | (with_reducible refine fun (hpos : 1 ≤ Shared.toks _) => ?_) | (k_unfold; (try dsimp only)) | walk1 | (dsimp only; walk1) | (leave1; (try dsimp only)) | fail "no step")))
    refine ite_cases (fun hq => ?_) (fun hq => ?_)
    · (repeat' ((fail_if_success (with_reducible show ite _ _ _)); (first | (with_reducible refine fun (hpos : 1 ≤ Shared.toks _) => ?_) | (k_unfold; (try dsimp only)) | walk1 | (dsimp only; walk1) | (leave1; (try dsimp only)) | fail "no step")))
      refine post_yes ?_ (by assumption)
      decide +kernel
    · (repeat' ((fail_if_success (with_reducible show ite _ _ _)); (first | (with_reducible refine fun (hpos : 1 ≤ Shared.toks _) => ?_) | (k_unfold; (try dsimp only)) | walk1 | (dsimp only; walk1) | (leave1; (try dsimp only)) | fail "no step")))
      refine post_no 38 ?_ hq (by rfl) (by assumption)
      decide +kernel
  case n =>
  clear F hpos
  intro h₁ tk tk' hpos F
  replace hxl' := rep_lenS (p := (Str.ofString "&").cps.toList) 9 (by decide +kernel : (Str.ofString "&amp;").cps.toList.length ≤ 6) hxl' (by decide)
  have hxl : (S _).length ≤ 1048576 := Nat.le_trans hxl' (by decide)
  dsimp only
  (repeat' ((fail_if_success (with_reducible show wpAny _ _ (exec (PySem.Stmt.If _ _ _ _) _) _ _ _)); (first | (k_unfold; (try dsimp only)) | walk1 | (dsimp only; walk1) | (leave1; (try dsimp only)) | fail "no step")))
  refine cut_if hpos F (by rfl) ?w ?n
  case w =>
    refine wpAny_If ?_
    refine wpAny_with_toks (n := 1) hpos ?_
    (repeat' ((fail_if_success (with_reducible show ite _ _ _)); (first | (with_reducible refine fun (hpos : 1 ≤ Shared.toks _) => ?_) | (k_unfold; (try dsimp only)) | walk1 | (dsimp only; walk1) | (leave1; (try dsimp only)) | fail "no step")))
    refine ite_cases (fun hq => ?_) (fun hq => ?_)
    · (repeat' ((fail_if_success (with_reducible show ite _ _ _)); (first | (with_reducible refine fun (hpos : 1 ≤ Shared.toks _) => ?_) | (k_unfold; (try dsimp only)) | walk1 | (dsimp only; walk1) | (leave1; (try dsimp only)) | fail "no step")))
      refine post_yes ?_ (by assumption)
      decide +kernel
    · (repeat' ((fail_if_success (with_reducible show ite _ _ _)); (first | (with_reducible refine fun (hpos : 1 ≤ Shared.toks _) => ?_) | (k_unfold; (try dsimp only)) | walk1 | (dsimp only; walk1) | (leave1; (try dsimp only)) | fail "no step")))
      refine post_no 60 ?_ hq (by rfl) (by assumption)
      decide +kernel
  case n =>
  clear F hpos
  intro h₁ tk tk' hpos F
  replace hxl' := rep_lenS (p := (Str.ofString "<").cps.toList) 54 (by decide +kernel : (Str.ofString "&lt;").cps.toList.length ≤ 6) hxl' (by decide)
  have hxl : (S _).length ≤ 1048576 := Nat.le_trans hxl' (by decide)
  dsimp only
  (repeat' ((fail_if_success (with_reducible show wpAny _ _ (exec (PySem.Stmt.If _ _ _ _) _) _ _ _)); (first | (k_unfold; (try dsimp only)) | walk1 | (dsimp only; walk1) | (leave1; (try dsimp only)) | fail "no step")))
  refine cut_if hpos F (by rfl) ?w ?n
  case w =>
    refine wpAny_If ?_
    refine wpAny_with_toks (n := 1) hpos ?_
    (repeat' ((fail_if_success (with_reducible show ite _ _ _)); (first | (with_reducible refine fun (hpos : 1 ≤ Shared.toks _) => ?_) | (k_unfold; (try dsimp only)) | walk1 | (dsimp only; walk1) | (leave1; (try dsimp only)) | fail "no step")))
    refine ite_cases (fun hq => ?_) (fun hq => ?_)
    · (repeat' ((fail_if_success (with_reducible show ite _ _ _)); (first | (with_reducible refine fun (hpos : 1 ≤ Shared.toks _) => ?_) | (k_unfold; (try dsimp only)) | walk1 | (dsimp only; walk1) | (leave1; (try dsimp only)) | fail "no step")))
      refine post_yes ?_ (by assumption)
      decide +kernel
    · (repeat' ((fail_if_success (with_reducible show ite _ _ _)); (first | (with_reducible refine fun (hpos : 1 ≤ Shared.toks _) => ?_) | (k_unfold; (try dsimp only)) | walk1 | (dsimp only; walk1) | (leave1; (try dsimp only)) | fail "no step")))
      refine post_no 34 ?_ hq (by rfl) (by assumption)
      decide +kernel
  case n =>
  clear F hpos
  intro h₁ tk tk' hpos F
  replace hxl' := rep_lenS (p := (Str.ofString "\"").cps.toList) 324 (by decide +kernel : (Str.ofString "&quot;").cps.toList.length ≤ 6) hxl' (by decide)
  have hxl : (S _).length ≤ 1048576 := Nat.le_trans hxl' (by decide)
  dsimp only
  (repeat' ((fail_if_success (with_reducible show wpAny _ _ (exec (PySem.Stmt.If _ _ _ _) _) _ _ _)); (first | (k_unfold; (try dsimp only)) | walk1 | (dsimp only; walk1) | (leave1; (try dsimp only)) | fail "no step")))
  refine cut_if hpos F (by rfl) ?w ?n
  case w =>
    refine wpAny_If ?_
    refine wpAny_with_toks (n := 1) hpos ?_
    (repeat' ((fail_if_success (with_reducible show ite _ _ _)); (first | (with_reducible refine fun (hpos : 1 ≤ Shared.toks _) => ?_) | (k_unfold; (try dsimp only)) | walk1 | (dsimp only; walk1) | (leave1; (try dsimp only)) | fail "no step")))
    refine ite_cases (fun hq => ?_) (fun hq => ?_)
    · (repeat' ((fail_if_success (with_reducible show ite _ _ _)); (first | (with_reducible refine fun (hpos : 1 ≤ Shared.toks _) => ?_) | (k_unfold; (try dsimp only)) | walk1 | (dsimp only; walk1) | (leave1; (try dsimp only)) | fail "no step")))
      refine post_yes ?_ (by assumption)
      decide +kernel
    · (repeat' ((fail_if_success (with_reducible show ite _ _ _)); (first | (with_reducible refine fun (hpos : 1 ≤ Shared.toks _) => ?_) | (k_unfold; (try dsimp only)) | walk1 | (dsimp only; walk1) | (leave1; (try dsimp only)) | fail "no step")))
      refine post_no 9 ?_ hq (by rfl) (by assumption)
      decide +kernel
  case n =>
  clear F hpos
  intro h₁ tk tk' hpos F
  replace hxl' := rep_lenS (p := (Str.ofString "\t").cps.toList) 1944 (by decide +kernel : (Str.ofString "&#x9;").cps.toList.length ≤ 6) hxl' (by decide)
  have hxl : (S _).length ≤ 1048576 := Nat.le_trans hxl' (by decide)
  dsimp only
  (repeat' ((fail_if_success (with_reducible show wpAny _ _ (exec (PySem.Stmt.If _ _ _ _) _) _ _ _)); (first | (k_unfold; (try dsimp only)) | walk1 | (dsimp only; walk1) | (leave1; (try dsimp only)) | fail "no step")))
  refine cut_if hpos F (by rfl) ?w ?n
  case w =>
    refine wpAny_If ?_
    refine wpAny_with_toks (n := 1) hpos ?_
    (repeat' ((fail_if_success (with_reducible show ite _ _ _)); (first | (with_reducible refine fun (hpos : 1 ≤ Shared.toks _) => ?_) | (k_unfold; (try dsimp only)) | walk1 | (dsimp only; walk1) | (leave1; (try dsimp only)) | fail "no step")))
    refine ite_cases (fun hq => ?_) (fun hq => ?_)
    · (repeat' ((fail_if_success (with_reducible show ite _ _ _)); (first | (with_reducible refine fun (hpos : 1 ≤ Shared.toks _) => ?_) | (k_unfold; (try dsimp only)) | walk1 | (dsimp only; walk1) | (leave1; (try dsimp only)) | fail "no step")))
      refine post_yes ?_ (by assumption)
      decide +kernel
    · (repeat' ((fail_if_success (with_reducible show ite _ _ _)); (first | (with_reducible refine fun (hpos : 1 ≤ Shared.toks _) => ?_) | (k_unfold; (try dsimp only)) | walk1 | (dsimp only; walk1) | (leave1; (try dsimp only)) | fail "no step")))
      refine post_no 10 ?_ hq (by rfl) (by assumption)
      decide +kernel
  case n =>
  clear F hpos
  intro h₁ tk tk' hpos F
  replace hxl' := rep_lenS (p := (Str.ofString "\n").cps.toList) 11664 (by decide +kernel : (Str.ofString "&#xA;").cps.toList.length ≤ 6) hxl' (by decide)
  have hxl : (S _).length ≤ 1048576 := Nat.le_trans hxl' (by decide)
  dsimp only
  (repeat' ((fail_if_success (with_reducible show wpAny _ _ (exec (PySem.Stmt.If _ _ _ _) _) _ _ _)); (first | (k_unfold; (try dsimp only)) | walk1 | (dsimp only; walk1) | (leave1; (try dsimp only)) | fail "no step")))
  refine cut_if hpos F (by rfl) ?w ?n
  case w =>
    refine wpAny_If ?_
    refine wpAny_with_toks (n := 1) hpos ?_
    (repeat' ((fail_if_success (with_reducible show ite _ _ _)); (first | (with_reducible refine fun (hpos : 1 ≤ Shared.toks _) => ?_) | (k_unfold; (try dsimp only)) | walk1 | (dsimp only; walk1) | (leave1; (try dsimp only)) | fail "no step")))
    refine ite_cases (fun hq => ?_) (fun hq => ?_)
    · (repeat' ((fail_if_success (with_reducible show ite _ _ _)); (first | (with_reducible refine fun (hpos : 1 ≤ Shared.toks _) => ?_) | (k_unfold; (try dsimp only)) | walk1 | (dsimp only; walk1) | (leave1; (try dsimp only)) | fail "no step")))
      refine post_yes ?_ (by assumption)
      decide +kernel
    · (repeat' ((fail_if_success (with_reducible show ite _ _ _)); (first | (with_reducible refine fun (hpos : 1 ≤ Shared.toks _) => ?_) | (k_unfold; (try dsimp only)) | walk1 | (dsimp only; walk1) | (leave1; (try dsimp only)) | fail "no step")))
      refine post_no 13 ?_ hq (by rfl) (by assumption)
      decide +kernel
  case n =>
  clear F hpos
  intro h₁ tk tk' hpos F
  replace hxl' := rep_lenS (p := (Str.ofString "\x0d").cps.toList) 69984 (by decide +kernel : (Str.ofString "&#xD;").cps.toList.length ≤ 6) hxl' (by decide)
  have hxl : (S _).length ≤ 1048576 := Nat.le_trans hxl' (by decide)
  dsimp only
  (repeat' ((fail_if_success (with_reducible show wpAny _ _ (exec (PySem.Stmt.If _ _ _ _) _) _ _ _)); (first | (k_unfold; (try dsimp only)) | walk1 | (dsimp only; walk1) | (leave1; (try dsimp only)) | fail "no step")))
  simp only [cpsR0, cpsR1, cpsR2, cpsR3, cpsR4, cpsR5, cpsR6, cpsR7, cpsR8, cpsR9, cpsP38, cpsP60, cpsP62, cpsP34, cpsP13, cpsP10, cpsP9, esc_chainX] at F ⊢
  exact h _ _ _ F.keep
end Mine
end
section
open PySem PySem.W PySem.Calls PyProof.Rows
set_option Elab.async false
set_option maxRecDepth 100000
set_option linter.unusedVariables false
namespace Mine
theorem look_wp {prog : Program} {w : World} {A : Around} {E : Value → Shared → Prop} {h : Heap} {g : Array GenState} {d : Drawn} {tk : Nat} {os : OsState} {l : Addr} {items : Array Value} {c : Nat} {y : PySem.Str} {u : Tok} {Q : Builtin.Str.Mapped → Shared → Prop}
    (hl : h.IsList l items) (hc : c < 2 ^ 31) (hx : items[c]? = some (.str y u)) (hq : Q (.text y) ⟨h, g, d, tk + 1, os⟩) : wpAny (model prog w) A (Builtin.Str.tableLookup (.ref l) c) Q E ⟨h, g, d, tk, os⟩ := by
  unfold Builtin.Str.tableLookup
  refine wpAny_bind (wpAny_attempt (wpAny_bind (wpAny_mkInt (wpAny_getItem_list (items := items) hl (by omega) (by omega) (x := .str y u) (by simpa using hx) ?_))))
  wp_walk
  exact hq
theorem fold_cps : ∀ (ps : List PySem.Str) (a : Array Nat), (ps.foldl (fun acc p => acc ++ p.cps) a).toList = a.toList ++ ps.flatMap (fun p => p.cps.toList)
  | [], a => by simp
  | p :: ps, a => by
    rw [List.foldl_cons, fold_cps ps]
    simp
noncomputable abbrev TrSt := List PySem.Str × Nat × Bool × List (Nat × Option Nat) × Bool
structure TrI (T : Nat → List Nat) (x : List Nat) (pre : List Nat) (b : TrSt) : Prop where
  cat : b.1.reverse.flatMap (fun p => p.cps.toList) = pre.flatMap T
  tot : b.2.1 = (pre.flatMap T).length
  known : ∀ c a, c ∈ x → b.2.2.2.1.lookup c = some a → ∃ v, a = some v ∧ T c = [v]
  drop : b.2.2.2.2 = false
theorem fm_len {T : Nat → List Nat} : ∀ {x : List Nat}, (∀ c ∈ x, (T c).length ≤ 3) → (x.flatMap T).length ≤ 3 * x.length
  | [], _ => by simp
  | c :: x, h => by
    have := fm_len (x := x) fun d hd => h d (List.mem_cons_of_mem _ hd)
    have := h c (by simp)
    simp only [List.flatMap_cons, List.length_append, List.length_cons]
    omega
theorem not_long {n : Nat} (h : n ≤ 400000) : Builtin.Str.tooLong n = false := by
  unfold Builtin.Str.tooLong sizeLine
  exact decide_eq_false (by omega)
theorem tr_next {T : Nat → List Nat} {x pre : List Nat} {c : Nat} {b b' : TrSt} (I : TrI T x pre b) (h1 : b'.1 = S (T c) :: b.1) (h2 : b'.2.1 = b.2.1 + (T c).length) (h3 : ∀ c a, c ∈ x → b'.2.2.2.1.lookup c = some a → ∃ v, a = some v ∧ T c = [v]) (h4 : b'.2.2.2.2 = false) : TrI T x (pre ++ [c]) b' where
  cat := by rw [h1, List.reverse_cons, List.flatMap_append, I.cat]; simp
  tot := by rw [h2, I.tot]; simp
  known := h3
  drop := h4
theorem tr_wp {prog : Program} {w : World} {A : Around} {E : Value → Shared → Prop} {h : Heap} {g : Array GenState} {d : Drawn} {tk : Nat} {os : OsState} {l : Addr} {items : Array Value} {x : List Nat} {t : Tok} {T : Nat → List Nat} {P : PySem.Fin → Shared → Prop}
    (hl : h.IsList l items) (hx : x ≠ []) (hn : x.length ≤ 100000) (htab : ∀ c ∈ x, c < 2 ^ 31 ∧ ∃ u, items[c]? = some (.str (S (T c)) u)) (hT : ∀ c ∈ x, (T c).length ≤ 3)
    (hP : ∀ u k, P (.done (.ret (.str (S (x.flatMap T)) u))) ⟨h, g, d, k, os⟩) : wpAny (model prog w) A (Builtin.«str.translate» ⟨[.str (S x) t, .ref l], []⟩) P E ⟨h, g, d, tk, os⟩ := by
  wp_walk
  have hz : ((S x).length == 0) = false := by
    rw [S_len]; simpa using hx
  rw [if_neg (by rw [hz]; exact Bool.false_ne_true)]
  dsimp only
  refine wpAny_bind (MeetsSeq2.wpAny_forIn_array _ (fun rest b s' => ∃ pre k, x = pre ++ rest ∧ s' = (⟨h, g, d, k, os⟩ : Shared) ∧ TrI T x pre b) _ ?turn ?fin _ _ ?start)
  case start => exact ⟨[], tk, by simp, rfl, ⟨rfl, rfl, fun c a _ e => (nomatch e), rfl⟩⟩
  case fin =>
    rintro ⟨pieces, total, fast, known, ad⟩ s' ⟨pre, k, he, rfl, I⟩
    rw [List.append_nil] at he
    subst he
    have htl := fm_len hT
    have ht := I.tot
    have hc := I.cat
    dsimp only at ht hc ⊢
    rw [if_neg (by rw [not_long (by omega)]; exact Bool.false_ne_true)]
    have e : ({ cps := List.foldl (fun acc p => acc ++ p.cps) #[] pieces.reverse } : PySem.Str) = S (x.flatMap T) := S_ext (by rw [fold_cps, hc]; rfl)
    rw [e]
    refine wpAny_bind (wpAny_mkStr ?_ (by rw [S_len]; unfold sizeLine; omega))
    exact wpAny_pure (hP _ _)
  case turn =>
    rintro c rest ⟨pieces, total, fast, known, ad⟩ s' ⟨pre, k, he, rfl, I⟩
    have hcx : c ∈ x := by rw [he]; simp
    obtain ⟨hc31, u, hu⟩ := htab c hcx
    have hTc := hT c hcx
    have hpre : (pre.flatMap T).length ≤ 300000 := by
      have := fm_len (x := pre) fun e hm => hT e (by rw [he]; simp [hm])
      have : pre.length ≤ x.length := by rw [he]; simp
      omega
    have ht := I.tot
    have hd := I.drop
    have hk := I.known
    dsimp only at ht hd hk ⊢
    subst hd
    rw [if_neg (by rw [not_long (by omega)]; exact Bool.false_ne_true)]
    have slow : ∀ (fast : Bool) (known : List (Nat × Option Nat)) (k : Nat), (∀ c a, c ∈ x → known.lookup c = some a → ∃ v, a = some v ∧ T c = [v]) → wpAny (model prog w) A (do
          let __do_lift ← Builtin.Str.tableLookup (Value.ref l) c
          match __do_lift with
            | Builtin.Str.Mapped.keep => pure (ForInStep.yield ({ cps := #[c] } :: pieces, total + 1, fast, known, false))
            | Builtin.Str.Mapped.drop => pure (ForInStep.yield (pieces, total, fast, known, true))
            | Builtin.Str.Mapped.char d => pure (ForInStep.yield ({ cps := #[d] } :: pieces, total + 1, fast, known, false))
            | Builtin.Str.Mapped.text t => pure (ForInStep.yield (t :: pieces, total + t.length, fast, known, false)))
        (fun r s' => match r with
          | ForInStep.yield b' => ∃ pre k, x = pre ++ rest ∧ s' = (⟨h, g, d, k, os⟩ : Shared) ∧ TrI T x pre b'
          | ForInStep.done b' => False) E ⟨h, g, d, k, os⟩ := by
      intro fast known k hk
      refine wpAny_bind (look_wp hl hc31 hu ?_)
      refine wpAny_pure ?_
      exact ⟨pre ++ [c], _, by rw [he]; simp, rfl, tr_next I rfl (by show total + _ = total + _; rw [S_len]) hk rfl⟩
    cases fast with
    | false =>
      rw [if_neg Bool.false_ne_true, if_neg Bool.false_ne_true]
      refine wpAny_mono (slow false known k hk) (fun r s' hr => ?_) (fun _ _ x => x)
      cases r with
      | yield b => exact hr
      | done b => exact hr.elim
    | true =>
      rw [if_pos rfl]
      cases hlk : known.lookup c with
      | some a =>
        obtain ⟨v, rfl, hv⟩ := hk c a hcx hlk
        refine wpAny_bind (wpAny_pure ?_)
        dsimp only
        refine wpAny_pure ?_
        exact ⟨pre ++ [c], k, by rw [he]; simp, rfl, tr_next I (by rw [hv]) (by rw [hv]; rfl) hk rfl⟩
      | none =>
        refine wpAny_bind (look_wp hl hc31 hu ?_)
        dsimp only
        by_cases hs : ((S (T c)).length == 1 && (S (T c)).cps.all fun x => decide (x < 128)) = true
        · have hv : ∃ v, T c = [v] := by
            rw [S_len] at hs
            simp only [Bool.and_eq_true, beq_iff_eq] at hs
            exact List.length_eq_one_iff.mp hs.1
          obtain ⟨v, hv⟩ := hv
          have h0 : (S (T c)).cps[0]? = some v := by rw [hv]; rfl
          simp only [if_pos hs, h0]
          refine wpAny_bind (wpAny_pure ?_)
          dsimp only
          refine wpAny_pure ?_
          refine ⟨pre ++ [c], _, by rw [he]; simp, rfl, tr_next I (by rw [hv]) (by rw [hv]; rfl) (fun e a hex hel => ?_) rfl⟩
          dsimp only at hel
          rw [List.lookup_cons] at hel
          by_cases hec : e = c
          · subst hec
            simp at hel
            exact ⟨v, hel.symm, hv⟩
          · rw [show (e == c) = false by simpa using hec] at hel
            exact hk e a hex hel
        · simp only [if_neg hs]
          refine wpAny_bind (wpAny_pure ?_)
          dsimp only
          refine wpAny_bind (wpAny_rule ?_)
          rw [if_neg Bool.false_ne_true]
          refine wpAny_mono (slow false known _ hk) (fun r s' hr => ?_) (fun _ _ x => x)
          cases r with
          | yield b => exact hr
          | done b => exact hr.elim
theorem call_translate {prog : Program} {w : World} {A : Around} {E : Value → Shared → Prop} {s : Shared} {Q : Value → Shared → Prop} {l : Addr} {items : Array Value} {x : List Nat} {t : Tok} (T : Nat → List Nat)
    (hl : s.heap.IsList l items) (hx : x ≠ []) (hn : x.length ≤ 100000) (htab : ∀ c ∈ x, c < 2 ^ 31 ∧ ∃ u, items[c]? = some (.str (S (T c)) u)) (hT : ∀ c ∈ x, (T c).length ≤ 3)
    (h : ∀ u k, Q (.str (S (x.flatMap T)) u) { s with toks := k }) : wpAny (model prog w) A (call (.builtin "str.translate") [.str (S x) t, .ref l]) Q E s :=
  wpAny_call_entry F.slot_str_translate (typeIs_str _ _ _) F.entry_str_translate (tr_wp hl hx hn htab hT fun u k => ⟨_, rfl, h u k⟩) (F.args_str_translate_2 _ _)
end Mine
end
section
open PySem PySem.W PySem.Calls PyProof.Rows
set_option Elab.async false
set_option maxRecDepth 100000
set_option maxHeartbeats 0
set_option pp.maxSteps 30000
set_option linter.unusedVariables false
namespace Mine
noncomputable def mapItems (P : Params) : Array Value := match (o67_F pg P).data with
  | .seq xs _ => xs
  | _ => #[]
theorem map_K (P : Params) : List.lookup 67 (hd.heap_1 P) = some ⟨.type "list", none, .seq (mapItems P) 0, #[]⟩ := by kernel_rfl
theorem map_all (P : Params) : ((List.range 256).all fun c => !(decide ((32 ≤ c ∧ c ≤ 126) ∨ c = 233)) || (match (mapItems P)[c]? with | some (.str y _) => y == S (tr c) | _ => false)) = true := by kernel_rfl
theorem map_tab (P : Params) {c : Nat} (h : wch c) : ∃ u, (mapItems P)[c]? = some (.str (S (tr c)) u) := by
  have hc : c < 256 := by unfold wch at h; omega
  have := List.all_eq_true.mp (map_all P) c (List.mem_range.mpr hc)
  rw [decide_eq_true (by exact h), Bool.not_true, Bool.false_or] at this
  split at this
  · rename_i y u e
    exact ⟨u, by rw [e, eq_of_beq this]⟩
  · cases this
theorem map_list {P : Params} {h : Heap} (X : (hd.heap_1 P).In h) : h.IsList 67 (mapItems P) := ⟨_, X _ _ (map_K P), rfl, 0, rfl⟩
theorem quote_spec {w : World} {A : Around} {s : Shared} {Q : Value → Shared → Prop} {E : Value → Shared → Prop} {mean : ExcName → Option Value} {mg mb : Str → Option Value} {t : Tok}
    (X : (hd.heap_1 w.params).In s.heap) (T : TopH mean mg mb s.heap) (hroom : A.depth + 5 < recursionLimit) (hun : A.units + 20 < cLine) (hh : A.handled = none)
    (h : ∀ h' tk tk', Ext s.heap h' → Q (.str (S [61, 50, 48]) tk) { s with heap := h', toks := tk' }) :
    wpAny (model pg w) A (call (.ref 65) [.str (S [32]) t]) Q E s := by
  refine' enterP (f := 65) (binds := [(Str.ofString "c", .str (S [32]) t)]) X T ?r (by k_is) (by k_is) (BindsTo.of_eq rfl) (locs rfl) (by simp) ?_ rfl rfl rfl (by decide)
  case r => omega
  intro h₁ tk hpos F N
  (repeat' ((fail_if_success (with_reducible show wpAny _ _ (exec (PySem.Stmt.While _ _ _ _) _) _ _ _)); (first | (k_unfold; (try dsimp only)) | walk1 | (dsimp only; walk1) | (leave1; (try dsimp only)) | fail "no step")))
  have e : Str.ofString "=20" = S [61, 50, 48] := by decide +kernel
  rw [e]
  exact h h₁ _ _ F.keep
end Mine
end
section
open PySem PySem.W PySem.Calls PyProof.Rows
set_option Elab.async false
set_option maxRecDepth 100000
set_option linter.unusedVariables false
namespace Mine
theorem slot_md_get : Slot "method_descriptor" "__get__" "method_descriptor.__get__" :=
  .of (owner := "method_descriptor") (n := "__get__") (by rw [typeLookup_type, builtinLookup_eq_fast]; kernel_rfl) (by decide +kernel) (by decide +kernel) (by decide +kernel)
    (by first | exact .inl (by decide +kernel) | exact .inr (by decide +kernel)) (by rw [isSubtype_type]; kernel_rfl)
theorem md_set_none : typeLookup (.type "method_descriptor") "__set__" = pure none := by rw [typeLookup_type, builtinLookup_eq_fast]; kernel_rfl
theorem md_del_none : typeLookup (.type "method_descriptor") "__delete__" = pure none := by rw [typeLookup_type, builtinLookup_eq_fast]; kernel_rfl
theorem entry_md_get : entryFor table "method_descriptor.__get__" = some Builtin.«method_descriptor.__get__» := entryFor_of_tree (by kernel_rfl)
theorem args_md_get (a b c : Value) : argsOk "method_descriptor.__get__" ⟨[a, b, c], []⟩ := by unfold argsOk; kernel_rfl
theorem lk_list_append : typeLookup (.type "list") (Str.ofString "append") = pure (some (.builtin "list.append")) := F.slot_list_append.lookup
theorem owner_list_append : (".".intercalate ("list.append".cutAt '.').dropLast) = "list" := by
  have e0 : "list.append".cutAt '.' = ["list", "append"] := by first | rfl | decide +kernel
  rw [e0]; decide +kernel
theorem sub_list_append_owner : isSubtype (.type "list") (.type (".".intercalate ("list.append".cutAt '.').dropLast)) = pure true := by
  rw [owner_list_append, isSubtype_type]; kernel_rfl
noncomputable def bmObj (l : Addr) : Obj := { cls := .type "builtin_function_or_method", data := .fields #[.builtin "list.append", .ref l] }
section
variable {prog : Program} {w : World} {A : Around} {E : Value → Shared → Prop} {h : Heap} {g : Array GenState} {d : Drawn} {t : Nat} {os : OsState} {a : Addr} {xs : Array Value} {n : Nat}
theorem app_get {R : Result → Shared → Prop} (hx : h.get? a = some (listOf xs n)) (hq : R (.ok (.ret (.ref h.objs.size))) ⟨h.push (bmObj a), g, d, t, os⟩) :
    codeAny (model prog w) A (.call (.builtin "method_descriptor.__get__") ⟨[.builtin "list.append", .ref a, .type "list"], []⟩) R ⟨h, g, d, t, os⟩ := by
  have hT : (⟨h, g, d, t, os⟩ : Shared).TypeIs (.ref a) "list" := ⟨_, hx, rfl⟩
  have hT5 : (⟨h, g, d, t, os⟩ : Shared).TypeIs (.builtin "list.append") "method_descriptor" := F.type_list_append
  have f8 := sub_list_append_owner
  refine codeAny_call_builtin slot_md_get.plain entry_md_get (slot_md_get.check _ _ _ _ _ _ _ _ hT5 (args_md_get _ _ _) ?_)
  repeat (any_goals (first | assumption | wp_step))
theorem app_entry {tk : Tok} {Q : PySem.Fin → Shared → Prop} (hx : h.get? a = some (listOf xs n)) (hq : Q (.done (.ret (.ref h.objs.size))) ⟨h.push (bmObj a), g, d, t, os⟩) :
    wpAny (model prog w) A (Builtin.«object.__getattribute__» ⟨[.ref a, .str (Str.ofString "append") tk], []⟩) Q E ⟨h, g, d, t, os⟩ := by
  have hT : (⟨h, g, d, t, os⟩ : Shared).TypeIs (.ref a) "list" := ⟨_, hx, rfl⟩
  have hT5 : (⟨h, g, d, t, os⟩ : Shared).TypeIs (.builtin "list.append") "method_descriptor" := F.type_list_append
  have f4 := lk_list_append
  have f5 := F.type_list_append
  have f6 := slot_md_get.lookup
  have f7 := md_set_none
  have f8 := md_del_none
  repeat (any_goals (first | assumption | wp_step))
  refine app_get hx ?_
  repeat (any_goals (first | assumption | wp_step))
theorem app_attr {Q : Value → Shared → Prop} (hx : h.get? a = some (listOf xs n)) (hq : Q (.ref h.objs.size) ⟨h.push (bmObj a), g, d, t + 1, os⟩) : wpAny (model prog w) A (getAttr (.ref a) (Str.ofString "append") true) Q E ⟨h, g, d, t, os⟩ := by
  have hT : ∀ tk', (⟨h, g, d, tk', os⟩ : Shared).TypeIs (.ref a) "list" := fun _ => ⟨_, hx, rfl⟩
  have f3 := F.slot_list_getattribute.lookup
  have f4 := F.slot_list_getattribute.bind (.ref a)
  unfold getAttr getAttrBy
  repeat (any_goals (first | assumption | exact hT _ | wp_step))
  refine codeAny_call_builtin F.slot_list_getattribute.plain F.entry_list_ga (F.slot_list_getattribute.check _ _ _ _ _ _ _ _ (hT _) (F.args_list_getattribute_2 _ _) (app_entry hx ?_))
  repeat (any_goals (first | assumption | wp_step))
theorem ba_some : (Manifest.signature? "list.append").isSome = true := by kernel_rfl
theorem ba_sig : ∃ sig, Manifest.signature? "list.append" = some sig ∧ ∀ a b : Value, Bind.checkArgs "list.append" { sig with full := s!"{Bind.lastOf "list"}.{Bind.lastOf "list.append"}" } ⟨[a, b], []⟩ = pure () :=
  ⟨(Manifest.signature? "list.append").get ba_some, (Option.some_get _).symm, fun a b => by kernel_rfl⟩
theorem ba_kind : builtinKind "list.append" = some .method := by decide +kernel
theorem ba_module : isSubtype (.type "list") (.type "module") = pure false := by rw [isSubtype_type]; kernel_rfl
theorem ba_type : isSubtype (.type "list") (.type "type") = pure false := by rw [isSubtype_type]; kernel_rfl
theorem ba_var : Manifest.varargsMethods.contains "list.append" = false := by decide +kernel
theorem ba_check {M : Model} {s : Shared} {x : Value} {Q : Unit → Shared → Prop} (hl : s.heap.get? a = some (listOf xs n)) (hq : Q () s) : wpAny M A (checkBoundCall "list.append" ⟨[.ref a, x], []⟩) Q E s := by
  obtain ⟨sig, hs, hc⟩ := ba_sig
  obtain ⟨h, g, d, t, os⟩ := s
  have hT : (⟨h, g, d, t, os⟩ : Shared).TypeIs (.ref a) "list" := ⟨_, hl, rfl⟩
  have f1 := ba_module
  have f2 := ba_type
  unfold checkBoundCall
  simp only [hs, ba_kind]
  rw [if_neg (by decide)]
  refine wpAny_bind (wpAny_isInstance hT ba_module ?_)
  rw [if_neg (by rw [ba_var]; decide)]
  repeat (any_goals (first | assumption | with_reducible refine AutoSeq1.wpAny_loadPart' hl ?_ | wp_step))
  exact wpAny_of_eq (hc _ _) hq
theorem call_bm {s : Shared} {b l : Addr} {its : Array Value} {x : Value} {Q : Value → Shared → Prop} (hb : s.heap.get? b = some (bmObj l)) (hl : s.heap.get? l = some (listOf its n))
    (h : ∀ h', Heap.SameBut l s.heap h' → h'.get? l = some (listOf (its.push x) (n + 1)) → Q .none { s with heap := h' }) (hsz : its.size ≤ sizeLine) : wpAny (model prog w) A (call (.ref b) [x]) Q E s := by
  refine wpAny_call (codeAny_of_tree ?_)
  show wpAny _ A.in1 (callAny (.ref b) ⟨[x], []⟩) _ _ s
  simp only [callAny]
  refine wpAny_bind (wpAny_load hb ?_)
  simp only [bmObj, show (Value.type "builtin_function_or_method" == Value.type "method" || Value.type "builtin_function_or_method" == Value.type "builtin_function_or_method" || Value.type "builtin_function_or_method" == Value.type "method-wrapper") = true by decide, if_true]
  refine wpAny_bind (ba_check hl ?_)
  refine wpAny_bind (wpAny_pure (wpAny_pure ?_))
  refine ⟨Code.quiet_builtin _ (by decide +kernel), codeAny_builtin entry_list_append ?_⟩
  show wpAny _ _ (updateSeq l (·.push x) >>= fun _ => ret .none) _ _ s
  refine wpAny_bind ?_
  refine wpAny_updateSeq hl rfl (wpAny_pure ?_)
  refine h _ (Heap.SameBut.update ..) ?_
  rw [Heap.get?_update_self _ hl (by rw [mapSeq_push]; rfl), mapSeq_push]
end
end Mine
end
section
open PySem PySem.W PySem.Calls PyProof.Rows
open PySem.Builtin PySem.Builtin.Str
set_option linter.unusedVariables false
namespace Mine
theorem linesL_one {k : Nat → Bool} : ∀ {y : List Nat}, y ≠ [] → (∀ c ∈ y, k c = false) → linesL k y = [y]
  | [c], _, h => by rw [linesL_no (h c (by simp))]; simp [linesL]
  | c :: d :: y, _, h => by
    rw [linesL_no (h c (by simp)), linesL_one (y := d :: y) (by simp) (fun e he => h e (List.mem_cons_of_mem _ he))]
theorem rowsOf_le {m f : Nat} {t : List Nat} (h : t.length ≤ m) : rowsOf m f t = [t] := by
  cases f with
  | zero => rfl
  | succ f => rw [rowsOf_succ, if_pos h]
theorem finish_snoc (m : Nat) (r : List Nat) : ∀ R : List (List Nat), finish m (R ++ [r]) = R ++ [lastRow m r]
  | [] => rfl
  | [a] => rfl
  | a :: b :: R => by
    show a :: finish m (b :: R ++ [r]) = _
    rw [finish_snoc m r (b :: R)]; rfl
theorem join_S : ∀ R : List (List Nat), Str.join (S [10]) (R.map S) = S (joinNl R)
  | [] => rfl
  | [a] => rfl
  | a :: b :: R => by
    show S a ++ S [10] ++ Str.join (S [10]) ((b :: R).map S) = _
    rw [join_S (b :: R), S_app, S_app]
    show S (a ++ [10] ++ joinNl (b :: R)) = S (a ++ 10 :: joinNl (b :: R))
    congr 1
    simp
theorem push_sv (ps : List (PySem.Str × Tok)) (x : PySem.Str) (tk : Tok) : (strValues ps).toArray.push (.str x tk) = (strValues (ps ++ [(x, tk)])).toArray := by simp [strValues]
/-- one turn of the loop that cuts rows -/
theorem cut_step {m i f : Nat} {y : List Nat} {R : List (List Nat)} (hm : 4 ≤ m) (hi : i + m < y.length) (hR : R ++ rowsOf m f (y.drop i) = rowsOf m y.length y) (hf : (y.drop i).length ≤ f) (hl : R.length ≤ i) :
    (y[i + m - 3]? = some 61 → (R ++ [(y.drop i).take (m - 2)]) ++ rowsOf m (f - 1) (y.drop (i + (m - 3))) = rowsOf m y.length y) ∧
    (y[i + m - 3]? ≠ some 61 → y[i + m - 2]? = some 61 → (R ++ [(y.drop i).take (m - 1)]) ++ rowsOf m (f - 1) (y.drop (i + (m - 2))) = rowsOf m y.length y) ∧
    (y[i + m - 3]? ≠ some 61 → y[i + m - 2]? ≠ some 61 → (R ++ [(y.drop i).take (m - 1) ++ [61]]) ++ rowsOf m (f - 1) (y.drop (i + (m - 1))) = rowsOf m y.length y) := by
  have hlen : (y.drop i).length = y.length - i := by simp
  obtain ⟨f', rfl⟩ : ∃ f', f = f' + 1 := ⟨f - 1, by omega⟩
  rw [rowsOf_succ, if_neg (by omega)] at hR
  have e3 : (y.drop i)[m - 3]? = y[i + m - 3]? := by rw [List.getElem?_drop, ← Nat.add_sub_assoc (Nat.le_trans (by decide : 3 ≤ 4) hm)]
  have e2 : (y.drop i)[m - 2]? = y[i + m - 2]? := by rw [List.getElem?_drop, ← Nat.add_sub_assoc (Nat.le_trans (by decide : 2 ≤ 4) hm)]
  rw [e3, e2] at hR
  simp only [List.drop_drop] at hR
  rw [Nat.add_sub_cancel]
  refine ⟨fun h => ?_, fun h1 h2 => ?_, fun h1 h2 => ?_⟩
  · rw [if_pos h] at hR
    rw [← hR]; simp
  · rw [if_neg h1, if_pos h2] at hR
    rw [← hR]; simp
  · rw [if_neg h1, if_neg h2] at hR
    rw [← hR]; simp
theorem enc_end {m i f : Nat} {y : List Nat} {R : List (List Nat)} (hi : ¬ (i + m < y.length)) (hy : y ≠ []) (hR : R ++ rowsOf m f (y.drop i) = rowsOf m y.length y) :
    enc m y = joinNl (R ++ [lastRow m (y.drop i)]) := by
  rw [rowsOf_le (by rw [List.length_drop]; omega)] at hR
  unfold enc
  rw [if_neg hy, ← hR, finish_snoc]
theorem drop_last {y : List Nat} {i : Nat} (h : i < y.length) (hy : y ≠ []) : (y.drop i).getLast? = some (y.getLast hy) := by
  rw [List.getLast?_drop, if_neg (by omega), List.getLast?_eq_some_getLast hy]
theorem drop_back {y : List Nat} {i c : Nat} (h : i < y.length) (hy : y ≠ []) (hc : y.getLast hy = c) : (y.drop i).dropLast ++ [c] = y.drop i := by
  have hne : y.drop i ≠ [] := by intro e; have := congrArg List.length e; simp at this; omega
  have h1 := drop_last h hy
  rw [List.getLast?_eq_some_getLast hne] at h1
  have h2 : (y.drop i).getLast hne = c := by rw [← hc]; exact Option.some.inj h1
  rw [← h2]
  exact List.dropLast_concat_getLast hne
end Mine
end
section
open PySem PySem.W PySem.Calls PyProof.Rows
open PySem.Builtin PySem.Builtin.Str
set_option Elab.async false
set_option maxRecDepth 100000
set_option maxHeartbeats 0
set_option linter.unusedVariables false
namespace Mine
theorem gm_translate {M : Model} {A : Around} {E : Value → Shared → Prop} {s : Shared} {x : PySem.Str} {t : Tok} {pl : Sem Bool} {Q : Value × List Value → Shared → Prop} (h : Q (.builtin "str.translate", [.str x t]) s) : wpAny M A (getMethod (.str x t) (Str.ofString "translate") pl) Q E s := by
  with_reducible exact GM.of (.str x t) (typeIs_str _ _ _) F.slot_str_translate F.type_str_translate GM.noRef h
local macro_rules | `(tactic| walk_at "getMethod str") => `(tactic| with_reducible refine gm_translate ?_)
section
variable {prog : Program} {w : World} {A : Around} {E : Value → Shared → Prop} {s : Shared} {h₀ : Heap} {L : Addr} {m : PySem.Str → Option Value} {news news' : List (Addr × Obj)} {a b l : Addr} {xs : Array Value} {n : Nat} {Q : Value → Shared → Prop}
theorem app_K (F : Fr h₀ L s.heap m) (N : News h₀ L s.heap news) (hm : (a, listOf xs n) ∈ news) (hq : ∀ b h' k, Fr h₀ L h' m → News h₀ L h' ((b, bmObj a) :: news) → (∀ p ∈ news, p.1 < b) → Q (.ref b) { s with heap := h', toks := k }) :
    wpAny (model prog w) A (getAttr (.ref a) (Str.ofString "append") true) Q E s := by
  obtain ⟨h, g, d, tk, os⟩ := s
  exact app_attr (N _ hm).1 (hq _ _ _ (F.push _) (N.push F _) fun p hp => Heap.lt_size (N p hp).1)
theorem bm_K {x : Value} (F : Fr h₀ L s.heap m) (N : News h₀ L s.heap news) (hb : (b, bmObj l) ∈ news) (U : Upd l (listOf xs n) (listOf (xs.push x) (n + 1)) news news')
    (h : ∀ h', Fr h₀ L h' m → News h₀ L h' news' → Q .none { s with heap := h' }) (hsz : xs.size ≤ sizeLine) : wpAny (model prog w) A (call (.ref b) [x]) Q E s := by
  obtain ⟨pre, post, rfl, rfl, c, e⟩ := U.split
  have z := N (l, listOf xs n) (List.mem_append.mpr (.inr (.head _)))
  exact call_bm (N _ hb).1 z.1 (fun h' hs ho' => h h' (F.change hs z.2.1 z.2.2) (news_set N c e hs ho')) hsz
end
noncomputable def AtB (b l : Addr) (h : Heap) : Prop := h.get? b = some (bmObj l)
theorem atB {h₀ h : Heap} {L b l : Addr} {news : List (Addr × Obj)} (N : News h₀ L h news) (hm : (b, bmObj l) ∈ news) : AtB b l h := (N _ hm).1
theorem keeps_B {M : Model} {b l : Addr} (h : Heap) (X : AtB b l h) : ∃ k, (k = Keeper.frame ∨ k = Keeper.machine ∨ k = Keeper.boundFrame) ∧ Looks M h (keeperOf (.ref b)) k :=
  ⟨.machine, .inr (.inl rfl), (Looks.ld (part := none) X).andThen .now⟩
theorem callWith_bm {M : Model} {A : Around} {E : Value → Shared → Prop} {s : Shared} {env : Env} {pos : Pos} {first : List Value} {Q : Value → Shared → Prop} {h₀ : Heap} {L b l : Addr} {news : List (Addr × Obj)} {e : PySem.Expr} {rest : List PySem.Expr} (_N : News h₀ L s.heap news) (_hm : (b, bmObj l) ∈ news)
    (h : wpAny M A (spliced (backTo pos (starEach (e :: rest) env))) (fun vs s₁ => AtB b l s₁.heap ∧ wpAny M A (call (.ref b) (first ++ vs)) Q E s₁) E s)
    (he : starEach (e :: rest) env = (false, eval e env) :: starEach rest env := by rfl) (hplain : (backTo pos (starEach rest env)).any (·.1) = false := by rfl) :
    wpAny M A (callWith pos (.ref b) first (backTo pos (starEach (e :: rest) env)) []) Q E s := by
  rw [he] at h ⊢
  exact callWith_of (by show ((false || (backTo pos (starEach rest env)).any (·.1)) || false) = false; rw [hplain]; rfl) keeps_B (evalArgs_plain h)
local macro_rules | `(tactic| walk_at "callWith ref") => `(tactic| ((with_reducible show wpAny _ _ (callWith _ (Value.ref _) _ (backTo _ (starEach (_ :: _) _)) []) _ _ _); (refine' callWith_bm ?N ?m ?_; (case N => k_asm); (case m => exact List.Mem.head _))))
local macro_rules | `(tactic| walk_at "And") => `(tactic| ((with_reducible show AtB _ _ _ ∧ _); (refine' ⟨atB ?N ?m, ?_⟩; (case N => k_asm); (case m => exact List.Mem.head _)); (try dsimp only [List.nil_append, List.cons_append])))
local macro_rules | `(tactic| walk_at "AtB") => `(tactic| ((with_reducible show AtB _ _ _); (refine' atB ?N ?m; (case N => k_asm); (case m => exact List.Mem.head _))))
local macro_rules | `(tactic| walk_at "getAttr ref") => `(tactic| ((with_reducible show wpAny _ _ (getAttr (Value.ref _) (PySem.Str.ofString "append") true) _ _ _); (refine' app_K ?F ?N ?m ?_; (case F => k_asm); (case N => k_asm); (case m => k_mem)); intro b' h' k' F' N' l1; (try k_lt l1); (try k_sweep)))
theorem tr_len3 (c : Nat) : (tr c).length ≤ 3 := by
  unfold tr
  split
  · simp
  · split <;> simp
theorem call_tr {w : World} {A : Around} {E : Value → Shared → Prop} {s : Shared} {Q : Value → Shared → Prop} {t : Tok} {W : List Nat} (X : (hd.heap_1 w.params).In s.heap) (hW : ∀ c ∈ W, wch c) (hl : W.length ≤ 60) (hne : W ≠ [])
    (h : ∀ tk k, Q (.str (S (trL W)) tk) { s with toks := k }) : wpAny (model pg w) A (call (.builtin "str.translate") [.str (S W) t, .ref 67]) Q E s :=
  call_translate tr (map_list X) hne (by omega) (fun c hc => ⟨by have := hW c hc; unfold wch at this; omega, map_tab _ (hW c hc)⟩) (fun c _ => tr_len3 c) h
theorem sptab_empty (c : Nat) : (Builtin.Str.occurrences (Str.ofString " \t") (S [c]) 0 (Str.ofString " \t").length 1).isEmpty = !(decide (c = 32 ∨ c = 9)) := by
  have h := StrLaws.found_one (Str.ofString " \t") c
  have e : (Str.ofString " \t").cps.toList = [32, 9] := by decide +kernel
  rw [e] at h
  have h3 : (!(Builtin.Str.occurrences (Str.ofString " \t") (S [c]) 0 (Str.ofString " \t").length 1).isEmpty) = decide (c ∈ [32, 9]) := h
  have h2 : decide (c ∈ [32, 9]) = decide (c = 32 ∨ c = 9) := by simp
  rw [← h2, ← h3, Bool.not_not]
theorem cut_num {m i n f l k : Nat} (j : Nat) (hm : 4 ≤ m) (hj : j ≤ 3) (h : i + m < n) (hk : k = n - i) (hf : n - i ≤ f) (hl : l ≤ i) :
    (n - (i + (m - j)) < k) ∧ (n - (i + (m - j)) ≤ f - 1) ∧ (i + (m - j) < n) ∧ (l + 1 ≤ i + (m - j)) ∧ (i + m - j - i = m - j) ∧ (i ≤ i + m - j) ∧ (i + m - j ≤ n) ∧ (((i + m - j : Nat) : Int) = ((i + (m - j) : Nat) : Int)) ∧ i + m - j < n := by
  subst hk
  have e : i + m - j = i + (m - j) := by omega
  rw [e]
  refine ⟨?_, ?_, ?_, ?_, ?_, ?_, ?_, rfl, ?_⟩ <;> omega
theorem take_le30 {y : List Nat} {m a : Nat} (hm : m ≤ 23) (ha : a ≤ m) : (y.take a).length ≤ 30 ∧ (y.take a ++ [61]).length ≤ 30 := by
  have : (y.take a).length ≤ a := List.length_take_le _ _
  rw [List.length_append, List.length_singleton]
  omega
/-- the loop that cuts rows -/
noncomputable def JE (m₀ : PySem.Str → Option Value) (own : List (Addr × Obj)) (b l : Addr) (y : List Nat) (m : Nat) (k : Nat) (mm : PySem.Str → Option Value) (nx : List (Addr × Obj)) : Prop :=
  ∃ (i f nn : Nat) (R : List (List Nat)) (ps : List (PySem.Str × Tok)) (j jl : Int) (t1 t2 : Tok) (u : Option Value),
    nx = (b, bmObj l) :: (l, listOf (strValues ps).toArray nn) :: own ∧ ps.map (·.1) = R.map S ∧
    (∀ z, mm z = bmo m₀ [("laststart", some (.int jl t1)), ("start", some (.int j t2)), ("stop", u)] z) ∧ j = (i : Int) ∧ jl = (y.length : Int) - 1 - m ∧ k = y.length - i ∧
    R ++ rowsOf m f (y.drop i) = rowsOf m y.length y ∧ (y.drop i).length ≤ f ∧ i < y.length ∧ R.length ≤ i ∧ ∀ r ∈ R, r.length ≤ 30
theorem JE.elim {m₀ : PySem.Str → Option Value} {own : List (Addr × Obj)} {b l : Addr} {y : List Nat} {m k : Nat} {mm : PySem.Str → Option Value} {nx : List (Addr × Obj)} {G : Prop} (h : JE m₀ own b l y m k mm nx)
    (g : ∀ (i f nn : Nat) (R : List (List Nat)) (ps : List (PySem.Str × Tok)) (t1 t2 : Tok) (u : Option Value),
      nx = (b, bmObj l) :: (l, listOf (strValues ps).toArray nn) :: own → ps.map (·.1) = R.map S →
      (∀ z, mm z = bmo m₀ [("laststart", some (.int ((y.length : Int) - 1 - m) t1)), ("start", some (.int (i : Int) t2)), ("stop", u)] z) → k = y.length - i →
      R ++ rowsOf m f (y.drop i) = rowsOf m y.length y → (y.drop i).length ≤ f → i < y.length → R.length ≤ i → (∀ r ∈ R, r.length ≤ 30) → G) : G := by
  obtain ⟨i, f, nn, R, ps, j, jl, t1, t2, u, hx, hps, hm, rfl, rfl, hk, hR, hf, hi, hRl, hB⟩ := h
  exact g i f nn R ps t1 t2 u hx hps hm hk hR hf hi hRl hB
noncomputable def encPost (m₀ : PySem.Str → Option Value) (b l : Addr) (y : List Nat) (m : Nat) (i : Nat) (mm : PySem.Str → Option Value) (nx : List (Addr × Obj)) : Prop :=
  (i = 0 ∧ nx = [(b, bmObj l), (l, listOf #[] 0)] ∧ mm = m₀) ∨
  (i = 1 ∧ ∃ (nn : Nat) (R : List (List Nat)) (ps : List (PySem.Str × Tok)) (u1 u2 u3 u4 u5 u6 : Option Value), nx = [(b, bmObj l), (l, listOf (strValues ps).toArray nn)] ∧ ps.map (·.1) = R.map S ∧ enc m y = joinNl R ∧ R.length ≤ 1000 ∧ (∀ r ∈ R, r.length ≤ 30) ∧
    ∀ z, mm z = bmo m₀ [("line", u1), ("start", u2), ("laststart", u3), ("stop", u4), ("room", u5), ("q", u6)] z)
noncomputable abbrev mE (W y : List Nat) (m : Nat) (t u tk2 t1 t2 : Tok) (b l : Addr) : PySem.Str → Option Value := bmo (fun z => List.lookup z [(Str.ofString "body", Value.str (S W) t), (Str.ofString "maxlinelen", Value.int (m : Nat) u), (Str.ofString "eol", Value.str (Str.ofString "\n") 212)].reverse)
  [("append", some (.ref b)), ("encoded_body", some (.ref l)), ("maxlinelen1", some (.int ((m : Int) - 1) t1)), ("soft_break", some (.str (Str.ofString "=\n") t2)), ("body", some (.str (S y) tk2))]
local macro_rules | `(tactic| walk_at "call ref") => `(tactic| ((with_reducible show wpAny _ _ (call (Value.ref _) [_]) _ _ _); (refine' bm_K ?F ?N ?b ?U ?_ ?z; (case F => k_asm); (case N => k_asm); (case b => exact List.Mem.head _); (case U => exact Upd.tail (by assumption) (Upd.head (by assumption))); (case z => assumption)); intro h' F' N'; (try k_sweep)))
theorem we {h₀ h : Heap} {L' b l : Addr} {s : Shared} {Q : Flow → Shared → Prop} {k m : Nat} {own : List (Addr × Obj)} {m₀ mm : PySem.Str → Option Value} {y : List Nat} {tk : Nat} (i' f : Nat) (r : List Nat) {nn : Nat} {R : List (List Nat)} {ps : List (PySem.Str × Tok)} {j jl : Int} {Y : PySem.Str} {t1 t2 tx : Tok} {u : Option Value}
    (F : Fr h₀ L' h mm) (N : News h₀ L' h ((b, bmObj l) :: (l, listOf ((strValues ps).toArray.push (.str Y tx)) nn) :: own)) (hm : ∀ z, mm z = bmo m₀ [("laststart", some (.int jl t1)), ("start", some (.int j t2)), ("stop", u)] z)
    (hps : ps.map (·.1) = R.map S) (hY : Y = S r) (hj : j = (i' : Int)) (hjl : jl = (y.length : Int) - 1 - m) (hk : y.length - i' < k) (hR : (R ++ [r]) ++ rowsOf m f (y.drop i') = rowsOf m y.length y) (hf : (y.drop i').length ≤ f) (hi : i' < y.length) (hRl : R.length + 1 ≤ i') (hB : ∀ r ∈ R, r.length ≤ 30) (hr : r.length ≤ 30) : WhileStep2 h₀ L' s (JE m₀ own b l y m) Q k .next { s with heap := h, toks := tk } := by
  subst hY
  rw [push_sv] at N
  exact ⟨h, tk, mm, _, y.length - i', rfl, F, N, hk, i', f, nn, R ++ [r], ps ++ [(S r, tx)], j, jl, t1, t2, u, rfl, by simp [hps], hm, hj, hjl, rfl, hR, hf, hi, by simpa using hRl, fun q hq => by rcases List.mem_append.mp hq with h | h; exact hB q h; rw [List.mem_singleton.mp h]; exact hr⟩
theorem ee {h₀ h : Heap} {L' b l : Addr} {s : Shared} {m : Nat} {own : List (Addr × Obj)} {m₀ mm : PySem.Str → Option Value} {y : List Nat} {tk : Nat} (r : List Nat) {nn n0 : Nat} {its : Array Value} {R : List (List Nat)} {ps : List (PySem.Str × Tok)} {Y : PySem.Str} {tx : Tok} {u1 u2 u3 u4 u5 u6 : Option Value}
    (F : Fr h₀ L' h mm) (N : News h₀ L' h ((b, bmObj l) :: (l, listOf ((strValues ps).toArray.push (.str Y tx)) nn) :: own)) (hm : ∀ z, mm z = bmo m₀ [("line", u1), ("start", u2), ("laststart", u3), ("stop", u4), ("room", u5), ("q", u6)] z)
    (hps : ps.map (·.1) = R.map S) (hY : Y = S r) (he : enc m y = joinNl (R ++ [r])) (hRl : R.length ≤ 900) (hB : ∀ r ∈ R, r.length ≤ 30) (hr : r.length ≤ 30) : InvEndN h₀ L' (encPost m₀ b l y m (0 + 1)) own (List.map (fun x => x.fst) [(b, bmObj l), (l, listOf its n0)]) s { s with heap := h, toks := tk } := by
  subst hY
  rw [push_sv] at N
  exact InvEndN.intro F N (nx := [(b, bmObj l), (l, listOf (strValues (ps ++ [(S r, tx)])).toArray nn)]) (Or.inr ⟨rfl, nn, R ++ [r], _, u1, u2, u3, u4, u5, u6, rfl, by simp [hps], he, by simp; omega, fun q hq => by rcases List.mem_append.mp hq with h | h; exact hB q h; rw [List.mem_singleton.mp h]; exact hr, hm⟩) rfl (fun p hp => by
    simp only [List.mem_cons, List.not_mem_nil, or_false] at hp ⊢
    rcases hp with hp | hp <;> simp [hp]) (fun p hp => List.mem_cons_of_mem _ (List.mem_cons_of_mem _ hp))
theorem txtjoin_S (R : List (List Nat)) : Txt.join (S [10]) (R.map S) = S (joinNl R) := by
  show glued _ _ = _
  rw [PySem.StrLaws.glued_eq_join]
  exact join_S R
theorem strsAre_sv : ∀ ps : List (PySem.Str × Tok), StrsAre (strValues ps) (ps.map (·.1))
  | [] => .nil
  | p :: ps => .cons _ _ (strsAre_sv ps)
theorem sum30 : ∀ R : List (List Nat), (∀ r ∈ R, r.length ≤ 30) → (R.map List.length).sum ≤ 30 * R.length
  | [], _ => by simp
  | r :: R, h => by
    have h1 := sum30 R fun q hq => h q (List.mem_cons_of_mem _ hq)
    have h2 := h r (by simp)
    simp only [List.map_cons, List.sum_cons, List.length_cons]
    omega
theorem item_is {y : List Nat} {i : Nat} (h : i < y.length) : (Txt.item (S y) (i : Int) == Str.ofString "=") = decide (y[i]? = some 61) := by
  rw [item_S h, S_eq, Bool.eq_iff_iff, beq_iff_eq, decide_eq_true_iff, List.getElem?_eq_getElem h]
  constructor
  · intro e
    have := S_inj e
    simpa using this
  · intro e
    rw [Option.some.inj e]
theorem enc_spec {w : World} {A : Around} {s : Shared} {Q : Value → Shared → Prop} {E : Value → Shared → Prop} {mean : ExcName → Option Value} {mg mb : Str → Option Value} {t u : Tok} {W : List Nat} {m : Nat}
    (X : (hd.heap_1 w.params).In s.heap) (T : TopH mean mg mb s.heap) (hroom : A.depth + 7 < recursionLimit) (hun : A.units + 60 < cLine) (hh : A.handled = none) (hW : ∀ c ∈ W, wch c) (hl : W.length ≤ 60) (hm : 4 ≤ m) (hm2 : m ≤ 23)
    (h : ∀ h' tk tk', Ext s.heap h' → Q (.str (S (enc m (trL W))) tk) { s with heap := h', toks := tk' }) :
    wpAny (model pg w) A (call (.ref 78) [.str (S W) t, .int (m : Nat) u]) Q E s := by
  have hWl : (S W).length ≤ 60 := by rw [S_len]; exact hl
  refine' enterP (f := 78) (binds := [(Str.ofString "body", .str (S W) t), (Str.ofString "maxlinelen", .int (m : Nat) u), (Str.ofString "eol", .str (Str.ofString "\n") 212)]) X T ?r (by k_is) (by k_is) (binds_K X rfl (by k_is) rfl rfl rfl) (locs rfl) (by simp) ?_ rfl rfl rfl (by decide)
  case r => omega
  intro h₁ tk hpos F N
  (repeat' ((fail_if_success (with_reducible show wpAny _ _ (call (Value.builtin "str.translate") _) _ _ _)); (first | (k_unfold; (try dsimp only)) | walk1 | (dsimp only; walk1) | (leave1; (try dsimp only)) | fail "no step")))
  · have hne : W ≠ [] := by intro e; subst e; simp_all [PySem.Str.length]
    have hne0 : 0 < W.length := List.length_pos_iff.mpr hne
    have hyl : (trL W).length ≤ 180 := by
      have := fm_len (T := tr) (x := W) fun c _ => tr_len3 c
      have e : trL W = W.flatMap tr := rfl
      rw [e]; omega
    have hyl' : (S (trL W)).length ≤ 180 := by rw [S_len]; exact hyl
    have hyn : trL W ≠ [] := trL_ne hne
    have hyf : ∀ c ∈ trL W, ech c ∧ c ≠ 10 ∧ c ≠ 13 ∧ c ≠ 9 := by
      intro c hc
      obtain ⟨d, hd, hcd⟩ := List.mem_flatMap.mp hc
      have hdw := hW d hd
      unfold wch at hdw
      unfold ech
      unfold tr at hcd
      split at hcd
      · simp only [List.mem_cons, List.not_mem_nil, or_false] at hcd
        rcases hcd with rfl | rfl | rfl <;> decide
      · split at hcd
        · simp only [List.mem_cons, List.not_mem_nil, or_false] at hcd
          rcases hcd with rfl | rfl | rfl <;> decide
        · rw [List.mem_singleton] at hcd
          subst hcd
          rcases hdw with hdw | hdw
          · exact ⟨Or.inr (Or.inr (Or.inr hdw)), by have := hdw.1; clear hdw; omega, by have := hdw.1; clear hdw; omega, by have := hdw.1; clear hdw; omega⟩
          · contradiction
    have hlin : linesL lb (trL W) = [trL W] := linesL_one hyn fun c hc => by
      have h1 := hyf c hc
      have h2 := lb_ech c h1.1
      by_cases h3 : lb c = true
      · have := h2.mp h3; omega
      · simpa using h3
    refine call_tr (X.keeps F.keep) hW hl hne ?_
    intro tk2 k2
    have hyp : 0 < (trL W).length := List.length_pos_iff.mpr hyn
    generalize trL W = y at *
    dsimp only
    (repeat' ((fail_if_success (with_reducible show InvPostN _ _ _ _ _ _ _ _ _)); (fail_if_success (with_reducible show WhileStep2 _ _ _ _ _ _ _ _)); (fail_if_success (with_reducible show InvEndN _ _ _ _ _ _ _)); (fail_if_success (with_reducible show wpAny _ _ (exec (PySem.Stmt.While _ _ _ _) _) _ _ _)); (first | (k_unfold; (try dsimp only)) | walk1 | (dsimp only; walk1) | (leave1; (try dsimp only)) | fail "no step")))
    · rename_i lA _ _ _ bA _ _ hbl _ _ hN l0 h2 k4 hl1 hl2 hl3 hl4 F2 N2
      rw [lines_S, hlin] at hl1
      have F3 := frAs F2 (m' := mE W y m t u tk2 _ _ bA lA) (fun _ => rfl)
      have NL := (N2 _ (List.Mem.head _)).1
      have NL2 := (N2 _ (List.Mem.head _)).2.1
      have N3 := newsSub N2 (b := [(bA, bmObj lA), (lA, listOf #[] 0)]) (fun p hp => List.mem_cons_of_mem _ hp)
      have hl0 : ∀ q ∈ [(bA, bmObj lA), (lA, listOf #[] 0)], q.1 ≠ _ := fun q hq => Nat.ne_of_lt (Heap.lt_size (hN q hq).1)
      clear hN
      clear F2 N2
      dsimp only at F3 N3 NL NL2 hl0 ⊢
      generalize hmm : mE W y m t u tk2 _ _ bA lA = m₀ at F3
      refine' iterL (encPost m₀ bA lA y m) (by exact hh) NL NL2 F3 N3 hl0 (Or.inl ⟨rfl, rfl, rfl⟩) ?turn ?done
      case turn =>
        rintro i v m₁ nx h3 tk3 own hi - hoff (⟨rfl, rfl, rfl⟩ | ⟨rfl, _⟩) F3 N3
        · subst hmm
          obtain ⟨li, tl, rfl, hli⟩ := strValue_at (ls := [y]) hl1 hi
          obtain rfl : y = li := by simpa using hli
          have hbne : bA ≠ lA := Nat.ne_of_gt hbl
          have hown : ∀ p ∈ own, p.1 ≠ lA := fun p hp => hoff p hp lA (by simp)
          clear hl1 hl2 hl3 hl4 hli hi hl0
          have F4 := frAs F3 (m' := bmo (mE W y m t u tk2 _ _ bA lA) [("line", some (.str (S y) tl))]) (fun _ => rfl)
          dsimp only [bmo] at F4
          clear F3
          have N4 : News s.heap (envOf (Str.ofString "body_encode") _ s.heap.objs.size 78 (Value.ref 77)).locals h3 ((bA, bmObj lA) :: (lA, listOf (strValues []).toArray 0) :: own) := N3
          clear N3
          refine postIs ?_
          intro PP hPP
          (repeat' ((fail_if_success (with_reducible show InvPostN _ _ _ _ _ _ _ _ _)); (fail_if_success (with_reducible show WhileStep2 _ _ _ _ _ _ _ _)); (fail_if_success (with_reducible show InvEndN _ _ _ _ _ _ _)); (fail_if_success (with_reducible show wpAny _ _ (exec (PySem.Stmt.While _ _ _ _) _) _ _ _)); (first | (k_unfold; (try dsimp only)) | walk1 | (dsimp only; walk1) | (leave1; (try dsimp only)) | fail "no step")))
          rename_i F6 N6
          have hSL := S_len y
          refine' While_S (JE (bmo (mE W y m t u tk2 _ _ bA lA) [("line", some (.str (S y) tl))]) own bA lA y m) (n₀ := y.length) F6 N6 ?a6 ?wturn
          case a6 => exact ⟨0, y.length, 0, [], [], _, _, _, _, none, rfl, rfl, by (first | (refine bmo_ext2 _ ?_ ?_; (· ((repeat refine And.intro rfl ?_); exact True.intro)); (· (intro y hy; (repeat (refine ite_skip (by first | exact hy.1 | exact hy.2.1 | exact hy.2.2.1 | exact hy.2.2.2.1 | exact hy.2.2.2.2.1 | exact hy.2.2.2.2.2.1) ?_)); rfl))) | (refine bmo_ext _ ?_ ?_; (· ((repeat refine List.forall_mem_cons.mpr ⟨rfl, ?_⟩); exact List.forall_mem_nil _)); (· (intro y hy; (try simp only [List.forall_mem_cons] at hy); (try simp only [hy, ↓reduceIte]); (try rfl))))), rfl, by rw [hSL], by simp, rfl, by simp, hyp, by simp, by simp⟩
          case wturn =>
            intro k m₂ nx₂ h8 tk8 F8 N8 hJ0
            refine postIsW ?_
            intro PW hPW
            refine JE.elim hJ0 ?_
            clear hJ0
            intro i f nn R ps t1 t2 u2 hnx8 hps hm8 hk8 hR hf hi hRl hB
            subst hnx8
            have F9 := frAs F8 hm8
            dsimp only [bmo] at F9
            clear F8 hm8
            have hpl : ps.length = R.length := by have := congrArg List.length hps; simpa using this
            have hsz : (strValues ps).toArray.size ≤ sizeLine := by
              have : (strValues ps).toArray.size = ps.length := by simp [strValues]
              rw [this]; unfold sizeLine; omega
            have hitl := item_last hyn
            have hq3 : (S [61, 50, 48]).length = 3 := S_len _
            have e3 := Keep.of (show ((i : Int) + ((m : Int) - 1) - 2) = ((i + m - 3 : Nat) : Int) by omega)
            have e2 := Keep.of (show ((i : Int) + ((m : Int) - 1) - 1) = ((i + m - 2 : Nat) : Int) by omega)
            have e1 := Keep.of (show ((i : Int) + ((m : Int) - 1)) = ((i + m - 1 : Nat) : Int) by omega)
            have hdl : (y.drop i).length = y.length - i := List.length_drop
            (repeat' ((fail_if_success (with_reducible show InvPostN _ _ _ _ _ _ _ _ _)); (fail_if_success (with_reducible show WhileStep2 _ _ _ _ _ _ _ _)); (fail_if_success (with_reducible show InvEndN _ _ _ _ _ _ _)); (fail_if_success (with_reducible show wpAny _ _ (exec (PySem.Stmt.While _ _ _ _) _) _ _ _)); (first | (k_unfold; (try dsimp only)) | walk1 | (dsimp only; walk1) | (leave1; (try dsimp only)) | fail "no step")))
            ·
                have him : i + m < y.length := by clear hk8 hf hdl hRl; omega
                have hf' : y.length - i ≤ f := hdl ▸ hf
                have hc := cut_step hm him hR hf hRl
                have n3 := cut_num 3 hm (by decide) him hk8 hf' hRl
                have n2 := cut_num 2 hm (by decide) him hk8 hf' hRl
                have n1 := cut_num 1 hm (by decide) him hk8 hf' hRl
                with_reducible rename ((_ == _) = true) => hx
                rw [e3.out, item_is n3.2.2.2.2.2.2.2.2] at hx
                refine PostIs.use hPW ?_
                exact we (i + (m - 3)) (f - 1) ((y.drop i).take (m - 2)) (by assumption) (by assumption) (by (first | (refine bmo_ext2 _ ?_ ?_; (· ((repeat refine And.intro rfl ?_); exact True.intro)); (· (intro y hy; (repeat (refine ite_skip (by first | exact hy.1 | exact hy.2.1 | exact hy.2.2.1 | exact hy.2.2.2.1 | exact hy.2.2.2.2.1 | exact hy.2.2.2.2.2.1) ?_)); rfl))) | (refine bmo_ext _ ?_ ?_; (· ((repeat refine List.forall_mem_cons.mpr ⟨rfl, ?_⟩); exact List.forall_mem_nil _)); (· (intro y hy; (try simp only [List.forall_mem_cons] at hy); (try simp only [hy, ↓reduceIte]); (try rfl)))))) hps (by rw [e2.out, slice_S n2.2.2.2.2.2.1 n2.2.2.2.2.2.2.1, n2.2.2.2.2.1]) (e3.out.trans n3.2.2.2.2.2.2.2.1) rfl n3.1 (hc.1 (of_decide_eq_true hx)) (by rw [List.length_drop]; exact n3.2.1) n3.2.2.1 n3.2.2.2.1 hB (take_le30 hm2 (Nat.sub_le _ _)).1
            ·
                have him : i + m < y.length := by clear hk8 hf hdl hRl; omega
                have hf' : y.length - i ≤ f := hdl ▸ hf
                have hc := cut_step hm him hR hf hRl
                have n3 := cut_num 3 hm (by decide) him hk8 hf' hRl
                have n2 := cut_num 2 hm (by decide) him hk8 hf' hRl
                have n1 := cut_num 1 hm (by decide) him hk8 hf' hRl
                with_reducible rename ((Txt.item _ (_ - 2) == _) = false) => hx
                with_reducible rename ((Txt.item _ (_ - 1) == _) = true) => hx2
                rw [e3.out, item_is n3.2.2.2.2.2.2.2.2] at hx
                rw [e2.out, item_is n2.2.2.2.2.2.2.2.2] at hx2
                refine PostIs.use hPW ?_
                exact we (i + (m - 2)) (f - 1) ((y.drop i).take (m - 1)) (by assumption) (by assumption) (by (first | (refine bmo_ext2 _ ?_ ?_; (· ((repeat refine And.intro rfl ?_); exact True.intro)); (· (intro y hy; (repeat (refine ite_skip (by first | exact hy.1 | exact hy.2.1 | exact hy.2.2.1 | exact hy.2.2.2.1 | exact hy.2.2.2.2.1 | exact hy.2.2.2.2.2.1) ?_)); rfl))) | (refine bmo_ext _ ?_ ?_; (· ((repeat refine List.forall_mem_cons.mpr ⟨rfl, ?_⟩); exact List.forall_mem_nil _)); (· (intro y hy; (try simp only [List.forall_mem_cons] at hy); (try simp only [hy, ↓reduceIte]); (try rfl)))))) hps (by rw [e1.out, slice_S n1.2.2.2.2.2.1 n1.2.2.2.2.2.2.1, n1.2.2.2.2.1]) (e2.out.trans n2.2.2.2.2.2.2.2.1) rfl n2.1 (hc.2.1 (of_decide_eq_false hx) (of_decide_eq_true hx2)) (by rw [List.length_drop]; exact n2.2.1) n2.2.2.1 n2.2.2.2.1 hB (take_le30 hm2 (Nat.sub_le _ _)).1
            ·
                have him : i + m < y.length := by clear hk8 hf hdl hRl; omega
                have hf' : y.length - i ≤ f := hdl ▸ hf
                have hc := cut_step hm him hR hf hRl
                have n3 := cut_num 3 hm (by decide) him hk8 hf' hRl
                have n2 := cut_num 2 hm (by decide) him hk8 hf' hRl
                have n1 := cut_num 1 hm (by decide) him hk8 hf' hRl
                with_reducible rename ((Txt.item _ (_ - 2) == _) = false) => hx
                with_reducible rename ((Txt.item _ (_ - 1) == _) = false) => hx2
                rw [e3.out, item_is n3.2.2.2.2.2.2.2.2] at hx
                rw [e2.out, item_is n2.2.2.2.2.2.2.2.2] at hx2
                refine PostIs.use hPW ?_
                exact we (i + (m - 1)) (f - 1) ((y.drop i).take (m - 1) ++ [61]) (by assumption) (by assumption) (by (first | (refine bmo_ext2 _ ?_ ?_; (· ((repeat refine And.intro rfl ?_); exact True.intro)); (· (intro y hy; (repeat (refine ite_skip (by first | exact hy.1 | exact hy.2.1 | exact hy.2.2.1 | exact hy.2.2.2.1 | exact hy.2.2.2.2.1 | exact hy.2.2.2.2.2.1) ?_)); rfl))) | (refine bmo_ext _ ?_ ?_; (· ((repeat refine List.forall_mem_cons.mpr ⟨rfl, ?_⟩); exact List.forall_mem_nil _)); (· (intro y hy; (try simp only [List.forall_mem_cons] at hy); (try simp only [hy, ↓reduceIte]); (try rfl)))))) hps (by rw [e1.out, slice_S n1.2.2.2.2.2.1 n1.2.2.2.2.2.2.1, S_eq, S_app, n1.2.2.2.2.1]) (e1.out.trans n1.2.2.2.2.2.2.2.1) rfl n1.1 (hc.2.2 (of_decide_eq_false hx) (of_decide_eq_false hx2)) (by rw [List.length_drop]; exact n1.2.1) n1.2.2.1 n1.2.2.2.1 hB (take_le30 hm2 (Nat.sub_le _ _)).2
            ·
                with_reducible rename (List.isEmpty _ = true) => hx
                rw [hitl, sptab_empty] at hx
                have hnb : ¬ (y.getLast hyn = 32 ∨ y.getLast hyn = 9) := by simpa using hx
                have hdr := drop_last hi hyn
                refine PostIs.use hPP ?_
                exact ee (y.drop i) (by assumption) (by assumption) (by (first | (refine bmo_ext2 _ ?_ ?_; (· ((repeat refine And.intro rfl ?_); exact True.intro)); (· (intro y hy; (repeat (refine ite_skip (by first | exact hy.1 | exact hy.2.1 | exact hy.2.2.1 | exact hy.2.2.2.1 | exact hy.2.2.2.2.1 | exact hy.2.2.2.2.2.1) ?_)); rfl))) | (refine bmo_ext _ ?_ ?_; (· ((repeat refine List.forall_mem_cons.mpr ⟨rfl, ?_⟩); exact List.forall_mem_nil _)); (· (intro y hy; (try simp only [List.forall_mem_cons] at hy); (try simp only [hy, ↓reduceIte]); (try rfl)))))) hps (slice_from (by omega)) (by
                  rw [enc_end (by omega) hyn hR]
                  unfold lastRow
                  rw [if_neg (by rw [hdr]; intro e; exact hnb (Or.inl (Option.some.inj e)))]) (by omega) hB (by omega)
            ·
                with_reducible rename (List.isEmpty _ = false) => hx
                rw [hitl, sptab_empty] at hx
                have hl32 : y.getLast hyn = 32 := by
                  have h1 : y.getLast hyn = 32 ∨ y.getLast hyn = 9 := of_decide_eq_true (by simpa only [Bool.not_eq_false'] using hx)
                  have h2 := (hyf _ (List.getLast_mem hyn)).2.2.2
                  omega
                have hdr := drop_last hi hyn
                rw [hl32] at hdr
                with_reducible rename Fr _ _ _ _ => F10
                with_reducible rename News _ _ _ _ => N10
                rw [hitl, hl32]
                refine quote_spec (X.keeps F10.keep) (T.keeps F10.keep) (by show A.depth + 1 + 5 < _; omega) (by show A.units + 3 + 20 < _; omega) hh ?_
                intro h11 tk11 tk11' hx11
                have F11 := frExt F10 hx11
                have N11 := newsExt N10 hx11
                clear F10 N10
                dsimp only
                (repeat' ((fail_if_success (with_reducible show InvPostN _ _ _ _ _ _ _ _ _)); (fail_if_success (with_reducible show WhileStep2 _ _ _ _ _ _ _ _)); (fail_if_success (with_reducible show InvEndN _ _ _ _ _ _ _)); (fail_if_success (with_reducible show wpAny _ _ (exec (PySem.Stmt.While _ _ _ _) _) _ _ _)); (first | (k_unfold; (try dsimp only)) | walk1 | (dsimp only; walk1) | (leave1; (try dsimp only)) | fail "no step")))
                refine PostIs.use hPP ?_
                exact ee ((y.drop i).dropLast ++ [61, 50, 48]) (by assumption) (by assumption) (by (first | (refine bmo_ext2 _ ?_ ?_; (· ((repeat refine And.intro rfl ?_); exact True.intro)); (· (intro y hy; (repeat (refine ite_skip (by first | exact hy.1 | exact hy.2.1 | exact hy.2.2.1 | exact hy.2.2.2.1 | exact hy.2.2.2.2.1 | exact hy.2.2.2.2.2.1) ?_)); rfl))) | (refine bmo_ext _ ?_ ?_; (· ((repeat refine List.forall_mem_cons.mpr ⟨rfl, ?_⟩); exact List.forall_mem_nil _)); (· (intro y hy; (try simp only [List.forall_mem_cons] at hy); (try simp only [hy, ↓reduceIte]); (try rfl)))))) hps (by rw [slice_toLast hi, S_app]) (by
                  rw [enc_end (by omega) hyn hR]
                  unfold lastRow
                  rw [if_pos hdr, if_pos (by omega)]) (by omega) hB (by simp; omega)
            ·
                with_reducible rename (List.isEmpty _ = false) => hx
                rw [hitl, sptab_empty] at hx
                have hl32 : y.getLast hyn = 32 := by
                  have h1 : y.getLast hyn = 32 ∨ y.getLast hyn = 9 := of_decide_eq_true (by simpa only [Bool.not_eq_false'] using hx)
                  have h2 := (hyf _ (List.getLast_mem hyn)).2.2.2
                  omega
                have hdr := drop_last hi hyn
                rw [hl32] at hdr
                have e10 : Str.ofString "=\n" = S [61, 10] := by decide +kernel
                refine PostIs.use hPP ?_
                exact ee (y.drop i ++ [61, 10]) (by assumption) (by assumption) (by (first | (refine bmo_ext2 _ ?_ ?_; (· ((repeat refine And.intro rfl ?_); exact True.intro)); (· (intro y hy; (repeat (refine ite_skip (by first | exact hy.1 | exact hy.2.1 | exact hy.2.2.1 | exact hy.2.2.2.1 | exact hy.2.2.2.2.1 | exact hy.2.2.2.2.2.1) ?_)); rfl))) | (refine bmo_ext _ ?_ ?_; (· ((repeat refine List.forall_mem_cons.mpr ⟨rfl, ?_⟩); exact List.forall_mem_nil _)); (· (intro y hy; (try simp only [List.forall_mem_cons] at hy); (try simp only [hy, ↓reduceIte]); (try rfl)))))) hps (by
                  rw [slice_toLast hi, hitl, hl32, e10, S_app, S_app, ← drop_back hi hyn hl32]
                  simp) (by
                  rw [enc_end (by omega) hyn hR]
                  unfold lastRow
                  rw [if_pos hdr, if_neg (by omega), if_pos (by omega)]) (by omega) hB (by simp; omega)
            ·
                with_reducible rename (List.isEmpty _ = false) => hx
                rw [hitl, sptab_empty] at hx
                have hl32 : y.getLast hyn = 32 := by
                  have h1 : y.getLast hyn = 32 ∨ y.getLast hyn = 9 := of_decide_eq_true (by simpa only [Bool.not_eq_false'] using hx)
                  have h2 := (hyf _ (List.getLast_mem hyn)).2.2.2
                  omega
                have hdr := drop_last hi hyn
                rw [hl32] at hdr
                have e10 : Str.ofString "=\n=20" = S [61, 10, 61, 50, 48] := by decide +kernel
                with_reducible rename Fr _ _ _ _ => F10
                with_reducible rename News _ _ _ _ => N10
                rw [hitl, hl32]
                refine quote_spec (X.keeps F10.keep) (T.keeps F10.keep) (by show A.depth + 1 + 5 < _; omega) (by show A.units + 3 + 20 < _; omega) hh ?_
                intro h11 tk11 tk11' hx11
                have F11 := frExt F10 hx11
                have N11 := newsExt N10 hx11
                clear F10 N10
                dsimp only
                (repeat' ((fail_if_success (with_reducible show InvPostN _ _ _ _ _ _ _ _ _)); (fail_if_success (with_reducible show WhileStep2 _ _ _ _ _ _ _ _)); (fail_if_success (with_reducible show InvEndN _ _ _ _ _ _ _)); (fail_if_success (with_reducible show wpAny _ _ (exec (PySem.Stmt.While _ _ _ _) _) _ _ _)); (first | (k_unfold; (try dsimp only)) | walk1 | (dsimp only; walk1) | (leave1; (try dsimp only)) | fail "no step")))
                refine PostIs.use hPP ?_
                exact ee ((y.drop i).dropLast ++ [61, 10, 61, 50, 48]) (by assumption) (by assumption) (by (first | (refine bmo_ext2 _ ?_ ?_; (· ((repeat refine And.intro rfl ?_); exact True.intro)); (· (intro y hy; (repeat (refine ite_skip (by first | exact hy.1 | exact hy.2.1 | exact hy.2.2.1 | exact hy.2.2.2.1 | exact hy.2.2.2.2.1 | exact hy.2.2.2.2.2.1) ?_)); rfl))) | (refine bmo_ext _ ?_ ?_; (· ((repeat refine List.forall_mem_cons.mpr ⟨rfl, ?_⟩); exact List.forall_mem_nil _)); (· (intro y hy; (try simp only [List.forall_mem_cons] at hy); (try simp only [hy, ↓reduceIte]); (try rfl)))))) hps (by rw [slice_toLast hi, e10, S_app]) (by
                  rw [enc_end (by omega) hyn hR]
                  unfold lastRow
                  rw [if_pos hdr, if_neg (by omega), if_neg (by omega)]) (by omega) hB (by simp; omega)
            · exfalso
              clear hk8 hf hdl
              omega
        · exfalso
          have := List.getElem?_eq_some_iff.mp hi
          obtain ⟨hlt, _⟩ := this
          have hll : (strValues l0).length = 1 := by
            have := congrArg List.length hl1
            simpa [strValues] using this
          omega
      case done =>
          have hll : (strValues l0).length = 1 := by
            have := congrArg List.length hl1
            simpa [strValues] using this
          rintro m₁ nx h3 tk3 hJ FD ND
          rw [hll] at hJ
          rcases hJ with ⟨h0, _⟩ | ⟨_, nn, R, ps, u1, u2, u3, u4, u5, u6, rfl, hps, he, hRl, hB, hm1⟩
          · cases h0
          · subst hmm
            have F4 := frAs FD hm1
            dsimp only [bmo] at F4
            clear FD hm1 F3 N3
            have hitl := item_last hyn
            dsimp only
            (repeat' ((fail_if_success (with_reducible show InvPostN _ _ _ _ _ _ _ _ _)); (fail_if_success (with_reducible show WhileStep2 _ _ _ _ _ _ _ _)); (fail_if_success (with_reducible show InvEndN _ _ _ _ _ _ _)); (fail_if_success (with_reducible show wpAny _ _ (exec (PySem.Stmt.While _ _ _ _) _) _ _ _)); (first | (k_unfold; (try dsimp only)) | walk1 | (dsimp only; walk1) | (leave1; (try dsimp only)) | fail "no step")))
            · have hL : _ = _ := (ND _ (List.Mem.tail _ (List.Mem.head _))).1
              refine join_listW (items := (strValues ps).toArray) (ys := ps.map (·.1)) ⟨_, hL, rfl, nn, rfl⟩ (by simpa using strsAre_sv ps) (by decide +kernel) (by
                rw [hps]
                have hs := sum30 R hB
                rw [List.map_map, List.length_map]
                have e : (PySem.Str.length ∘ S) = List.length := by funext r; exact S_len r
                rw [e]; omega) ?_
              intro t9 k9
              have e : Txt.join (Str.ofString "\n") (ps.map (·.1)) = S (enc m y) := by rw [hps, S_nl, he]; exact txtjoin_S R
              rw [e]
              exact h _ _ _ F4.keep
            · exfalso
              with_reducible rename (List.isEmpty _ = false) => hx
              rw [hitl, crnl_empty] at hx
              have h1 : y.getLast hyn = 13 ∨ y.getLast hyn = 10 := of_decide_eq_true (by simpa only [Bool.not_eq_false'] using hx)
              have h2 := hyf _ (List.getLast_mem hyn)
              omega
  · have hz : (S W).length = 0 := by omega
    rw [S_len] at hz
    have hxe : W = [] := List.length_eq_zero_iff.mp hz
    subst hxe
    exact h h₁ t _ F.keep
end Mine
end
section
open PySem PySem.W PySem.Calls PyProof.Rows
set_option Elab.async false
set_option maxRecDepth 100000
set_option linter.unusedVariables false
namespace Mine
/-! dicts with str keys, their keys' tokens told -/
noncomputable abbrev KV := (PySem.Str × Tok) × Value
noncomputable def pairV (p : KV) : Value × Value := (.str p.1.1 p.1.2, p.2)
noncomputable def DXo (w : World) (o : Obj) (kvs : List KV) : Prop :=
  ∃ es ep, o.ExactDict ∧ o.data = .dict es ep ∧ KeysOf (strKind pg w) es ∧ es.toList.map (fun e => (e.key, e.val)) = kvs.map pairV ∧ (kvs.map (·.1.1)).Nodup
noncomputable def DX (w : World) (h : Heap) (d : Addr) (kvs : List KV) : Prop := ∃ o, h.get? d = some o ∧ DXo w o kvs
theorem DX.pairs {w : World} : ∀ {es : List DictEntry} {kvs : List KV}, es.map (fun e => (e.key, e.val)) = kvs.map pairV → Pairs (strKind pg w) es (kvs.map fun p => (p.1.1, p.2))
  | [], [], _ => .nil
  | [], _ :: _, h => by cases h
  | _ :: _, [], h => by cases h
  | e :: es, p :: kvs, h => by
    have h' : (e.key, e.val) = pairV p ∧ es.map (fun e => (e.key, e.val)) = kvs.map pairV := by simpa using h
    have h1 : e.key = .str p.1.1 p.1.2 := congrArg Prod.fst h'.1
    have h2 : e.val = p.2 := congrArg Prod.snd h'.1
    exact .cons (by rw [h1]; exact strKind_is _ _ _ _) h2 (DX.pairs h'.2)
theorem DXo.isDict {w : World} {o : Obj} {kvs : List KV} (x : DXo w o kvs) : o.IsDictOf (strKind pg w) (kvs.map fun p => (p.1.1, p.2)) := by
  obtain ⟨es, ep, hc, hd, hk, hp, hn⟩ := x
  exact ⟨es, ep, hc, hd, hk, DX.pairs hp, by rw [List.map_map]; exact hn⟩
theorem DX.dictOf {w : World} {h : Heap} {d : Addr} {kvs : List KV} (x : DX w h d kvs) : h.DictOf (strKind pg w) d (kvs.map fun p => (p.1.1, p.2)) := by
  obtain ⟨o, ho, x⟩ := x
  obtain ⟨es, ep, r⟩ := x.isDict
  exact ⟨o, es, ep, ho, r⟩
section
variable {w : World} {A : Around} {E : Value → Shared → Prop} {s : Shared}
theorem dx_set {d : Addr} {kvs : List KV} {x : PySem.Str} {t : Tok} {v : Value} {Q : Unit → Shared → Prop} (hm : DX w s.heap d kvs) (hnew : x ∉ kvs.map (·.1.1)) (hsz : kvs.length ≤ 1000)
    (hQ : ∀ h', DX w h' d (kvs ++ [((x, t), v)]) → Heap.SameBut d s.heap h' → Q () { s with heap := h', toks := s.toks + 1 }) :
    wpAny (model pg w) A (dictSet d (.str x t) v) Q E s := by
  obtain ⟨o, ho, es, ep, hc, hd, hk, hp, hn⟩ := hm
  have hkey := strKind_is pg w x t
  have hes : es.size ≤ sizeLine := by
    have e1 := congrArg List.length hp
    simp at e1
    rw [sizeLine_eq]; omega
  unfold dictSet
  try with_reducible refine wpAny_holding ?_
  refine wpAny_bind ((strKind pg w).pyHash hkey ?_)
  unfold dictSetHashed
  try with_reducible refine wpAny_holding ?_
  refine wpAny_bind (wpAny_dictFind_of (s := { s with toks := s.toks + 1 }) hkey ho hd hk ?_)
  have hnone : (es.findIdx? fun e => (strKind pg w).is x e.key) = none := by
    have hP := DX.pairs (w := w) hp
    have hidx : (es.findIdx? fun e => (strKind pg w).is x e.key) = (kvs.map fun p => (p.1.1, p.2)).findIdx? fun kv => decide (kv.1 = x) := by
      rw [← hP.findIdx x]; obtain ⟨l⟩ := es; simp
    rw [hidx, List.findIdx?_eq_none_iff]
    intro kv hkv
    obtain ⟨p, hp', rfl⟩ := List.mem_map.mp hkv
    have : p.1.1 ≠ x := fun e => hnew (List.mem_map.mpr ⟨p, hp', e⟩)
    simpa using this
  rw [hnone]
  refine wpAny_bind (wpAny_rule (wpAny_updateDictKeys (hz := hes) (s := { s with toks := s.toks + 1 }) ho hd (hQ _ ⟨_, Heap.get?_update_self _ ho (Obj.isFreed_of_dict (Obj.data_mapDictKeys hd _)), _, ep + 1,
      hc.mapDictKeys _, Obj.data_mapDictKeys hd _, hk.push hkey _, ?_, ?_⟩ (Heap.SameBut.update ..))))
  · rw [Array.toList_push, List.map_append, hp, List.map_append]; rfl
  · rw [List.map_append, List.nodup_append]
    refine ⟨hn, by simp, ?_⟩
    intro a ha b hb e
    simp at hb
    subst hb
    exact hnew (e ▸ ha)
noncomputable def emptyD : Obj := { cls := .type "dict", data := .dict #[] }
theorem DX.nil {w : World} {h : Heap} {d : Addr} (ho : h.get? d = some emptyD) : DX w h d [] :=
  ⟨_, ho, #[], 0, ⟨rfl, rfl, rfl⟩, rfl, fun e he => by simp at he, rfl, by simp⟩
theorem dx_storeAll {d : Addr} : ∀ (kvs acc : List KV) (s : Shared) (Q : PUnit → Shared → Prop), DX w s.heap d acc → ((acc ++ kvs).map (·.1.1)).Nodup → acc.length + kvs.length ≤ 1000 →
    (∀ h', DX w h' d (acc ++ kvs) → Heap.SameBut d s.heap h' → Q PUnit.unit { s with heap := h', toks := s.toks + kvs.length }) →
    wpAny (model pg w) A (forIn (kvs.map pairV) PUnit.unit fun (x : Value × Value) (_ : PUnit) => (do dictSet d x.1 x.2; pure (ForInStep.yield PUnit.unit) : Sem (ForInStep PUnit))) Q E s
  | [], acc, s, Q, hm, _, _, hQ => by
    rw [List.map_nil, List.forIn_nil]
    exact wpAny_pure (by simpa using hQ s.heap (by simpa using hm) (Heap.SameBut.refl _ _))
  | ((x, t), v) :: kvs, acc, s, Q, hm, hn, hsz, hQ => by
    rw [List.length_cons] at hsz
    rw [List.map_cons, List.forIn_cons]
    have hnew : x ∉ acc.map (·.1.1) := by
      intro hx
      rw [List.map_append, List.nodup_append] at hn
      exact hn.2.2 x hx x (by simp) rfl
    refine wpAny_bind (wpAny_bind (dx_set hm hnew (by omega) fun h₁ hm₁ hs₁ => wpAny_pure ?_))
    refine dx_storeAll kvs (acc ++ [((x, t), v)]) _ Q hm₁ (by simpa using hn) (by simp; omega) fun h' hm' hs' => ?_
    have := hQ h' (by simpa using hm') (hs₁.trans hs')
    simpa [Nat.add_assoc, Nat.add_comm 1] using this
theorem dx_subDict {pairs : List (Sem Value × Sem Value)} {Q : Addr → Shared → Prop} (hlen : pairs.length ≤ 15)
    (h : wpAny (model pg w) A (evalPairs pairs) (fun vs s₁ => ∃ kvs : List KV, vs = kvs.map pairV ∧ (kvs.map (·.1.1)).Nodup ∧ s₁.heap.get? s.heap.objs.size = some emptyD ∧
      ∀ h', DX w h' s.heap.objs.size kvs → Heap.SameBut s.heap.objs.size s₁.heap h' → Q s.heap.objs.size { s₁ with heap := h', toks := s₁.toks + kvs.length }) E { s with heap := s.heap.push emptyD }) :
    wpAny (model pg w) A (subDict pairs) Q E s := by
  unfold subDict
  refine wpAny_bind (wpAny_alloc ?_)
  refine wpAny_bind (wpAny_holding ?_)
  rw [if_pos hlen]
  refine wpAny_bind (wpAny_mono (wpAny_evalPairs_len h) (fun vs s₁ h₁ => ?_) fun _ _ e => e)
  obtain ⟨hvl, kvs, rfl, hn, hm, hQ⟩ := h₁
  rw [List.length_map] at hvl
  refine wpAny_holding ?_
  refine wpAny_bind (dx_storeAll kvs [] s₁ _ (DX.nil hm) (by simpa using hn) (by simp; omega) fun h' hm' hs' => wpAny_pure (wpAny_pure (hQ h' (by simpa using hm') hs')))
theorem dx_Dict {env : Env} {keys : List (Option PySem.Expr)} {values : List PySem.Expr} {pos : Pos} {Q : Value → Shared → Prop} (hall : keys.all (·.isSome) = true) (hl : keys.length = values.length) (h0 : keys ≠ []) (hlen : keys.length ≤ 15)
    (h : wpAny (model pg w) A (evalPairs (pairTrees keys values env pos)) (fun vs s₁ => ∃ kvs : List KV, vs = kvs.map pairV ∧ (kvs.map (·.1.1)).Nodup ∧ s₁.heap.get? s.heap.objs.size = some emptyD ∧
      ∀ h', DX w h' s.heap.objs.size kvs → Heap.SameBut s.heap.objs.size s₁.heap h' → Q (.ref s.heap.objs.size) { s₁ with heap := h', toks := s₁.toks + kvs.length }) E { s with heap := s.heap.push emptyD }) :
    wpAny (model pg w) A (eval (.Dict keys values pos) env) Q E s := by
  have hn := pairTrees_length keys values env pos hall hl
  have h0' : pairTrees keys values env pos ≠ [] := by
    intro he
    rw [he] at hn
    exact h0 (List.length_eq_zero_iff.mp hn.symm)
  rw [arm_eval_Dict, zip_pairTrees keys values env pos hall hl, dictDisplay_pairs _ h0' (by omega)]
  exact wpAny_bind (wpAny_standAt (wpAny_bind (dx_subDict (Q := fun d s' => wpAny (model pg w) A (pure (Value.ref d)) Q E s') (by omega)
    (wpAny_mono h (fun vs s₁ h₁ => by obtain ⟨kvs, hc, hn, hm, hq⟩ := h₁; exact ⟨kvs, hc, hn, hm, fun h' a b => wpAny_pure (hq h' a b)⟩) fun _ _ e => e))))
/-! its keys, one by one -/
theorem dx_next {it d : Addr} {i ep : Nat} {kvs : List KV} {o : Obj} {es : Array DictEntry} {x : PySem.Str} {t : Tok} {v : Value} {Q : Option Value → Shared → Prop} (hit : s.heap.IsKeyIter it d i kvs.length ep)
    (hod : s.heap.get? d = some o) (hdd : o.data = .dict es ep) (hp : es.toList.map (fun e => (e.key, e.val)) = kvs.map pairV) (hx : kvs[i]? = some ((x, t), v))
    (hQ : ∀ h', h'.IsKeyIter it d (i + 1) kvs.length ep → Heap.SameBut it s.heap h' → Q (some (.str x t)) { s with heap := h' }) :
    wpAny (model pg w) A (pyNext (.ref it)) Q E s := by
  obtain ⟨oi, ho, hc, hd⟩ := id hit
  unfold pyNext
  refine wpAny_bind (wpAny_attempt (wpAny_callSpecial?_slot (name := Str.ofString "__next__") hit.typeIs F.slot_dict_keyiterator_next
    (wpAny_call_entry F.slot_dict_keyiterator_next hit.typeIs F.entry_dict_keyiterator_next ?_ (F.args_dict_keyiterator_next_1 _))))
  refine wpAny_bind (wpAny_pure ?_)
  refine wpAny_bind ?_
  refine wpAny_bind ?_
  first | refine wpAny_bind (wpAny_typeNameOfWhole_keyiter hit.typeIs (wpAny_pure ?_)) | refine wpAny_bind (wpAny_typeNameOf_keyiter hit.typeIs (wpAny_pure ?_))
  refine wpAny_bind (wpAny_fieldsOf ho hd ?_)
  have hown : Builtin.Dict_items.ownsTuple "dict_keyiterator" = false := by decide
  simp only [hown, Bool.false_eq_true, if_false]
  show wpAny _ _ (if (Value.ref d == Value.none) = true then _ else _) _ _ s
  rw [if_neg (show ¬ ((Value.ref d == Value.none) = true) from Bool.false_ne_true)]
  refine wpAny_bind (wpAny_pure ?_)
  refine wpAny_bind (wpAny_dictEntries hod hdd ?_)
  have hsz : es.size = kvs.length := by
    have := congrArg List.length hp
    simpa using this
  rw [if_neg (by rw [hsz]; simp)]
  refine wpAny_bind (wpAny_pure ?_)
  refine wpAny_bind (wpAny_dictEpoch hod hdd ?_)
  rw [if_neg (by simp)]
  refine wpAny_pure ?_
  have hlt : i < kvs.length := (List.getElem?_eq_some_iff.mp hx).1
  have hlt' : i < es.size := by rw [hsz]; exact hlt
  have hkey : es[i].key = .str x t := by
    have h1 : (es.toList.map (fun e => (e.key, e.val)))[i]? = (kvs.map pairV)[i]? := by rw [hp]
    rw [List.getElem?_map, List.getElem?_map, hx, Array.getElem?_toList, Array.getElem?_eq_getElem hlt'] at h1
    exact congrArg Prod.fst (Option.some.inj h1)
  simp only [show ¬ ((i : Int) < 0) from by omega, if_false, Int.toNat_natCast, Array.getElem?_eq_getElem hlt']
  refine wpAny_bind ?_
  first | refine wpAny_bind (wpAny_typeNameOfWhole_keyiter hit.typeIs (wpAny_pure ?_)) | refine wpAny_bind (wpAny_typeNameOf_keyiter hit.typeIs (wpAny_pure ?_))
  refine wpAny_bind (wpAny_isOneOf_keyiter hit.typeIs ?_)
  show wpAny _ _ (setField (.ref it) 1 (rawInt ((i : Int) + 1)) >>= _) _ _ s
  refine wpAny_bind (wpAny_setField ho hd (by simp) ?_)
  have hit' : (s.heap.update it (Obj.mapFields (·.setIfInBounds 1 (rawInt ((i : Int) + 1))))).IsKeyIter it d (i + 1) kvs.length ep :=
    ⟨_, Heap.get?_update_self _ ho (Obj.isFreed_of_fields (Obj.data_mapFields hd _)), (Obj.cls_mapFields ..).trans hc, by rw [Obj.data_mapFields hd]; simp [rawInt]⟩
  refine wpAny_bind (wpAny_holding ?_)
  refine wpAny_bind (wpAny_isOneOf_keyiter (s := { s with heap := s.heap.update it (Obj.mapFields (·.setIfInBounds 1 (rawInt ((i : Int) + 1)))) }) hit'.typeIs ?_)
  show wpAny _ _ (pure es[i].key) _ _ _
  rw [hkey]
  exact wpAny_pure (wpAny_pure ⟨_, rfl, wpAny_pure (hQ _ hit' (Heap.SameBut.update ..))⟩)
/-- the walk over the keys -/
theorem Walks.dx (hh : A.handled = none) (I d : Addr) (hne : d ≠ I) (kvs : List KV) (o : Obj) (es : Array DictEntry) (ep : Nat) (hc : o.ExactDict) (hdd : o.data = .dict es ep) (hk : KeysOf (strKind pg w) es) (hp : es.toList.map (fun e => (e.key, e.val)) = kvs.map pairV) (hn : (kvs.map (·.1.1)).Nodup) :
    Walks pg w A I [I, d] [I] kvs.length (fun i v => ∃ x t y, kvs[i]? = some ((x, t), y) ∧ v = .str x t) (fun i h => h.IsKeyIter I d i kvs.length ep ∧ h.get? d = some o) where
  sub := fun b hb => by simp at hb; simp [hb]
  frame := fun _ _ _ st hk => ⟨st.1.at fun o e => hk I (by simp) o e, hk d (by simp) o st.2⟩
  item := fun i s Q E hi st hQ => by
    obtain ⟨⟨⟨x, t⟩, y⟩, hx⟩ : ∃ p, kvs[i]? = some p := ⟨kvs[i], by simp [hi]⟩
    refine dx_next st.1 st.2 hdd hp hx fun h' hit' hs' => ?_
    exact hQ (.str x t) h' s.toks ⟨x, t, y, hx, rfl⟩ ⟨hit', (hs'.2 d hne).trans st.2⟩ fun b o hb e => hs'.extBut b o (fun h => hb (by simp [h])) e
  done := fun s Q E st hQ => by
    have hm : s.heap.DictAt (strKind pg w) d (kvs.map fun p => (p.1.1, p.2)) ep := ⟨o, es, st.2, hc, hdd, hk, DX.pairs hp, by rw [List.map_map]; exact hn⟩
    have hl : (kvs.map fun p => (p.1.1, p.2)).length = kvs.length := by simp
    exact wpAny_pyNext_dict_end hh (i := kvs.length) (by rw [hl]; exact st.1) hm (by simp) fun h' he' => hQ h' s.toks fun b o hb e => he' b o (fun h => hb (by simp [h])) e
  self := fun _ _ _ _ st hQ => wpAny_pyIter_keyiter st.1 hQ
end
end Mine
end
section
open PySem PySem.W PySem.Calls PyProof.Rows
local macro_rules | `(tactic| walk_at "ite") => `(tactic| first | with_reducible refine ite_tt ?_ | with_reducible refine ite_ff ?_)
section
open PySem PySem.W PySem.Calls PyProof.Rows
set_option Elab.async false
set_option maxRecDepth 100000
set_option maxHeartbeats 0
set_option linter.unusedVariables false
namespace Mine
noncomputable def namesT : Bool → List (Nat × List Nat)
  | true => [(38, ampL), (60, ltL), (34, quotL), (9, tabX), (10, lfX), (13, crX)]
  | false => [(38, ampL), (60, ltL), (62, gtL), (34, quotL), (13, crD), (10, lfD), (9, tabD)]
inductive NK : List KV → List (Nat × List Nat) → Prop
  | nil : NK [] []
  | cons {c : Nat} {r : List Nat} {t u : Tok} {kvs : List KV} {tb : List (Nat × List Nat)} : 0 < t → 0 < u → t ≠ u → NK kvs tb → NK (((S [c], t), .str (S r) u) :: kvs) ((c, r) :: tb)
theorem NK.put {c : Nat} {r : List Nat} {x y : PySem.Str} {t u : Tok} {kvs : List KV} {tb : List (Nat × List Nat)} (hx : x = S [c]) (hy : y = S r) (ht : 0 < t) (hu : 0 < u) (hn : t ≠ u) (h : NK kvs tb) : NK (((x, t), .str y u) :: kvs) ((c, r) :: tb) := by
  subst hx hy; exact .cons ht hu hn h
theorem nm_key {h₀ h₁ h' : Heap} {L : Addr} {m : PySem.Str → Option Value} (F : Fr h₀ L h₁ m) (hs : Heap.SameBut h₁.objs.size (h₁.push emptyD) h') : Ext h₀ h' := fun b o e =>
    (hs.2 b (Nat.ne_of_lt (Heap.lt_size (F.keep b o e)))).trans (Heap.get?_push_of_some _ (F.keep b o e))
theorem nm_spec {w : World} {A : Around} {s : Shared} {Q : Value → Shared → Prop} {E : Value → Shared → Prop} {mean : ExcName → Option Value} {mg mb : Str → Option Value} {b : Bool}
    (X : (hd.heap_1 w.params).In s.heap) (T : TopH mean mg mb s.heap) (hroom : A.depth + 7 < recursionLimit) (hun : A.units + 60 < cLine) (hh : A.handled = none)
    (h : ∀ d h' tk' kvs, Ext s.heap h' → DX w h' d kvs → NK kvs (namesT b) → s.heap.objs.size ≤ d → Q (.ref d) { s with heap := h', toks := tk' }) :
    wpAny (model pg w) A (call (.ref 93) [.bool b]) Q E s := by
  refine' enterP (f := 93) (binds := [(Str.ofString "canonical", .bool b)]) X T ?r (by k_is) (by k_is) (BindsTo.of_eq rfl) (locs rfl) (by simp) ?_ rfl rfl rfl (by decide)
  case r => omega
  intro h₁ tk hpos F N
  cases b
  · (repeat' ((fail_if_success (with_reducible show wpAny _ _ (eval (PySem.Expr.Dict _ _ _) _) _ _ _)); (fail_if_success (with_reducible show wpAny _ _ (evalPairs (pairTrees [] [] _ _)) _ _ _)); (first | (k_unfold; (try dsimp only)) | walk1 | (dsimp only; walk1) | (leave1; (try dsimp only)) | fail "no step")))
    refine' dx_Dict ?a ?b ?c ?d ?_
    case a => rfl
    case b => rfl
    case c => exact List.cons_ne_nil _ _
    case d => exact Nat.le_of_ble_eq_true rfl
    dsimp only
    (repeat' ((fail_if_success (with_reducible show wpAny _ _ (eval (PySem.Expr.Dict _ _ _) _) _ _ _)); (fail_if_success (with_reducible show wpAny _ _ (evalPairs (pairTrees [] [] _ _)) _ _ _)); (first | (k_unfold; (try dsimp only)) | walk1 | (dsimp only; walk1) | (leave1; (try dsimp only)) | fail "no step")))
    refine pairTrees_nil_walk ?_
    dsimp only
    refine ⟨[((Str.ofString "&", _), .str (Str.ofString "&amp;") _), ((Str.ofString "<", _), .str (Str.ofString "&lt;") _), ((Str.ofString ">", _), .str (Str.ofString "&gt;") _), ((Str.ofString "\"", _), .str (Str.ofString "&quot;") _), ((Str.ofString "\x0d", _), .str (Str.ofString "&#13;") _), ((Str.ofString "\n", _), .str (Str.ofString "&#10;") _), ((Str.ofString "\t", _), .str (Str.ofString "&#09;") _)], rfl, ?_, Heap.get?_push_size _ rfl, fun h' hx hs => ?_⟩
    · dsimp only [List.map]
      decide +kernel
    try dsimp only at hx hs
    (repeat' ((fail_if_success (with_reducible show wpAny _ _ (eval (PySem.Expr.Dict _ _ _) _) _ _ _)); (fail_if_success (with_reducible show wpAny _ _ (evalPairs (pairTrees [] [] _ _)) _ _ _)); (first | (k_unfold; (try dsimp only)) | walk1 | (dsimp only; walk1) | (leave1; (try dsimp only)) | fail "no step")))
    refine' h _ h' _ _ (nm_key F hs) hx ?nk (Nat.le_of_lt F.ns.lt)
    case nk =>
      refine' (NK.put ?_ ?_ ?_ ?_ ?_ (NK.put ?_ ?_ ?_ ?_ ?_ (NK.put ?_ ?_ ?_ ?_ ?_ (NK.put ?_ ?_ ?_ ?_ ?_ (NK.put ?_ ?_ ?_ ?_ ?_ (NK.put ?_ ?_ ?_ ?_ ?_ (NK.put ?_ ?_ ?_ ?_ ?_ NK.nil)))))))
      all_goals first | exact Nat.succ_pos _ | assumption | exact Nat.ne_of_lt (Nat.lt_succ_self _) | decide +kernel
  · (repeat' ((fail_if_success (with_reducible show wpAny _ _ (eval (PySem.Expr.Dict _ _ _) _) _ _ _)); (fail_if_success (with_reducible show wpAny _ _ (evalPairs (pairTrees [] [] _ _)) _ _ _)); (first | (k_unfold; (try dsimp only)) | walk1 | (dsimp only; walk1) | (leave1; (try dsimp only)) | fail "no step")))
    refine' dx_Dict ?a ?b ?c ?d ?_
    case a => rfl
    case b => rfl
    case c => exact List.cons_ne_nil _ _
    case d => exact Nat.le_of_ble_eq_true rfl
    dsimp only
    (repeat' ((fail_if_success (with_reducible show wpAny _ _ (eval (PySem.Expr.Dict _ _ _) _) _ _ _)); (fail_if_success (with_reducible show wpAny _ _ (evalPairs (pairTrees [] [] _ _)) _ _ _)); (first | (k_unfold; (try dsimp only)) | walk1 | (dsimp only; walk1) | (leave1; (try dsimp only)) | fail "no step")))
    refine pairTrees_nil_walk ?_
    dsimp only
    refine ⟨[((Str.ofString "&", _), .str (Str.ofString "&amp;") _), ((Str.ofString "<", _), .str (Str.ofString "&lt;") _), ((Str.ofString "\"", _), .str (Str.ofString "&quot;") _), ((Str.ofString "\t", _), .str (Str.ofString "&#x9;") _), ((Str.ofString "\n", _), .str (Str.ofString "&#xA;") _), ((Str.ofString "\x0d", _), .str (Str.ofString "&#xD;") _)], rfl, ?_, Heap.get?_push_size _ rfl, fun h' hx hs => ?_⟩
    · dsimp only [List.map]
      decide +kernel
    try dsimp only at hx hs
    (repeat' ((fail_if_success (with_reducible show wpAny _ _ (eval (PySem.Expr.Dict _ _ _) _) _ _ _)); (fail_if_success (with_reducible show wpAny _ _ (evalPairs (pairTrees [] [] _ _)) _ _ _)); (first | (k_unfold; (try dsimp only)) | walk1 | (dsimp only; walk1) | (leave1; (try dsimp only)) | fail "no step")))
    refine' h _ h' _ _ (nm_key F hs) hx ?nk (Nat.le_of_lt F.ns.lt)
    case nk =>
      refine' (NK.put ?_ ?_ ?_ ?_ ?_ (NK.put ?_ ?_ ?_ ?_ ?_ (NK.put ?_ ?_ ?_ ?_ ?_ (NK.put ?_ ?_ ?_ ?_ ?_ (NK.put ?_ ?_ ?_ ?_ ?_ (NK.put ?_ ?_ ?_ ?_ ?_ NK.nil))))))
      all_goals first | exact Nat.succ_pos _ | assumption | exact Nat.ne_of_lt (Nat.lt_succ_self _) | decide +kernel
end Mine
end
section
open PySem PySem.W PySem.Calls PyProof.Rows
set_option Elab.async false
set_option maxRecDepth 100000
set_option maxHeartbeats 0
set_option linter.unusedVariables false
namespace Mine
section
variable {w : World} {A : Around} {E : Value → Shared → Prop} {s : Shared} {env : Env} {h₀ : Heap} {x : PySem.Str} {body : List Stmt} {Q : Flow → Shared → Prop}
theorem iterX {d : Addr} {kvs : List KV} {m₀ : PySem.Str → Option Value} {news : List (Addr × Obj)} (J : Nat → (PySem.Str → Option Value) → List (Addr × Obj) → Prop)
    (hh : A.handled = none) (hd : DX w s.heap d kvs) (hds : (d == sysModules) = false) (hL : d ≠ env.locals) (F : Fr h₀ env.locals s.heap m₀) (N : News h₀ env.locals s.heap news) (hnl : ∀ q ∈ news, q.1 ≠ d) (hj : J 0 m₀ news)
    (turn : ∀ i y t v m₁ news₁ h tk own, kvs[i]? = some ((y, t), v) → news₁.map (·.1) = news.map (·.1) → OwnOff own (news.map (·.1)) → J i m₁ news₁ → Fr h₀ env.locals h (fun z => if z = x then some (.str y t) else m₁ z) → News h₀ env.locals h (news₁ ++ own) →
      wpAny (model pg w) A (execs body env) (InvPostN h₀ env.locals (J (i + 1)) own (news.map (·.1)) { s with heap := h, toks := tk } NoF) E { s with heap := h, toks := tk })
    (done : ∀ m₁ news₁ h tk, J kvs.length m₁ news₁ → Fr h₀ env.locals h m₁ → News h₀ env.locals h news₁ → Q .next { s with heap := h, toks := tk }) :
    wpAny (model pg w) A (pyIter (.ref d)) (fun it s₂ => LoopAtV pg w A h₀ env x body Q E it s₂) E s := by
  obtain ⟨o, ho, es, ep, hc, hdd, hk, hp, hn⟩ := hd
  have hm : s.heap.DictAt (strKind pg w) d (kvs.map fun p => (p.1.1, p.2)) ep := ⟨o, es, ho, hc, hdd, hk, DX.pairs hp, by rw [List.map_map]; exact hn⟩
  refine wpAny_pyIter_dict hds hm ?_
  have hl : (kvs.map fun p => (p.1.1, p.2)).length = kvs.length := by simp
  have hlt : d < s.heap.objs.size := Heap.lt_size ho
  have W := Walks.dx (w := w) hh s.heap.objs.size d (Nat.ne_of_lt hlt) kvs o es ep hc hdd hk hp hn
  refine loop_invN (s := { s with heap := _ }) J W ?_ ?_ ?_ ?_ ⟨⟨_, Heap.get?_push_size _ rfl, rfl, by rw [hl]; rfl⟩, Heap.get?_push_of_some _ ho⟩ (F.push _) (fun p hp => ⟨Heap.get?_push_of_some _ (N p hp).1, (N p hp).2⟩) hj ?_ done
  · intro hm
    rcases List.mem_cons.mp hm with e | hm
    · exact absurd F.ns.lt (e ▸ Nat.lt_irrefl _)
    · exact hL (List.mem_singleton.mp hm).symm
  · intro b hb
    rw [List.mem_singleton.mp hb]
    exact next_is_new F
  · intro p hp hI
    exact absurd (Heap.lt_size (N p hp).1) ((List.mem_singleton.mp hI) ▸ Nat.lt_irrefl _)
  · intro p hp hI
    rcases List.mem_cons.mp hI with e | hm
    · exact absurd (Heap.lt_size (N p hp).1) (e ▸ Nat.lt_irrefl _)
    · exact hnl p hp (List.mem_singleton.mp hm)
  · rintro i v m₁ news₁ h tk own hi ⟨y, t, z, hx, rfl⟩ ha hoff hJ F₁ N₁
    exact wpAny_mono (turn i y t z m₁ news₁ h tk own hx ha hoff hJ F₁ N₁) (fun _ _ z => invPost_of z) fun _ _ z => z
end
theorem valueAt_at : ∀ {kvs : List KV} {i : Nat} {x : PySem.Str} {t : Tok} {v : Value}, (kvs.map (·.1.1)).Nodup → kvs[i]? = some ((x, t), v) → valueAt (kvs.map fun p => (p.1.1, p.2)) x = some v
  | [], i, _, _, _, _, h => by simp at h
  | p :: kvs, 0, x, t, v, hn, h => by
    have e : p = ((x, t), v) := by simpa using h
    subst e
    simp [valueAt]
  | p :: kvs, i + 1, x, t, v, hn, h => by
    have hi : kvs[i]? = some ((x, t), v) := by simpa using h
    have hn' : p.1.1 ∉ kvs.map (·.1.1) ∧ (kvs.map (·.1.1)).Nodup := by simpa using hn
    have hne : p.1.1 ≠ x := fun e => hn'.1 (e ▸ List.mem_map.mpr ⟨_, List.mem_of_getElem? hi, rfl⟩)
    have ih := valueAt_at hn'.2 hi
    unfold valueAt at ih ⊢
    rw [List.map_cons, List.find?_cons]
    simp only [show decide (p.1.1 = x) = false from decide_eq_false hne]
    exact ih
theorem dx_item {w : World} {A : Around} {E : Value → Shared → Prop} {s : Shared} {value slice : PySem.Expr} {d : Addr} {kvs : List KV} {i : Nat} {x y : PySem.Str} {t u : Tok} {Q : Value → Shared → Prop} (hd : DX w s.heap d kvs) (hx : kvs[i]? = some ((x, t), .str y u))
    (h : Q (.str y u) { s with toks := s.toks + 1 })
    (hs : subscripted slice false (.ref d) (.str x t) = operate [.ref d, .str x t] (getItem (.ref d) (.str x t)) := by with_unfolding_all rfl) :
    wpAny (model pg w) A (subscriptTail value slice (.ref d) (.str x t)) Q E s := by
  have hD := hd.dictOf
  obtain ⟨o, ho, es, ep, hc, hdd, hk, hp, hn⟩ := hd
  exact subscriptTail_builtin_flat hD.typeIs slot_dict_getitem.lookup (wpAny_getItem_of (strKind_is pg w x t) hD.mapOf (valueAt_at hn hx) ⟨fun a => by simp, h⟩) hs
theorem NK.at : ∀ {kvs : List KV} {tb : List (Nat × List Nat)} {i : Nat} {y : PySem.Str} {t : Tok} {v : Value}, NK kvs tb → kvs[i]? = some ((y, t), v) → ∃ c r u, tb[i]? = some (c, r) ∧ y = S [c] ∧ v = .str (S r) u ∧ 0 < t ∧ 0 < u ∧ t ≠ u
  | _, _, i, _, _, _, .nil, h => by simp at h
  | _, _, 0, y, t, v, .cons (c := c) (r := r) (u := u) h1 h2 h3 _, h => by
    simp at h
    obtain ⟨⟨rfl, rfl⟩, rfl⟩ := h
    exact ⟨c, r, u, rfl, rfl, rfl, h1, h2, h3⟩
  | _, _, i + 1, y, t, v, .cons _ _ _ hn, h => by
    have := NK.at hn (i := i) (by simpa using h)
    simpa using this
theorem NK.len : ∀ {kvs : List KV} {tb : List (Nat × List Nat)}, NK kvs tb → kvs.length = tb.length
  | _, _, .nil => rfl
  | _, _, .cons _ _ _ h => by simp [NK.len h]
/-- the references but the first -/
noncomputable def refsGo : List (Nat × List Nat) → List Nat → List Nat
  | [], x => x
  | (c, r) :: tb, x => refsGo tb (if c = 38 then x else rep r [c] x)
theorem refs_unref (b : Bool) (x : List Nat) : rep ampL [38] (refsGo (namesT b) x) = unref b x := by cases b <;> rfl
theorem rep_len_le {p z : List Nat} (hp : 0 < p.length) (hz : z.length ≤ p.length) : ∀ (n : Nat) (x : List Nat), x.length ≤ n → (rep p z x).length ≤ x.length
  | _, [], _ => by rw [rep_nil]; simp
  | n + 1, c :: x, h => by
    simp at h
    rw [rep_cons]
    split
    · rename_i hpre
      have hle : p.length ≤ (c :: x).length := List.IsPrefix.length_le (List.isPrefixOf_iff_prefix.mp hpre)
      have := rep_len_le (p := p) hp hz n (x.drop (p.length - 1)) (by simp; omega)
      simp at this hle ⊢
      omega
    · have := rep_len_le (p := p) hp hz n x h
      simp; omega
theorem namesT_at {b : Bool} {i c : Nat} {r : List Nat} (h : (namesT b)[i]? = some (c, r)) : 4 ≤ r.length ∧ r.length ≤ 6 := by
  have := List.mem_of_getElem? h
  cases b
  · simp [namesT] at this
    rcases this with ⟨_, rfl⟩ | ⟨_, rfl⟩ | ⟨_, rfl⟩ | ⟨_, rfl⟩ | ⟨_, rfl⟩ | ⟨_, rfl⟩ | ⟨_, rfl⟩ <;> decide
  · simp [namesT] at this
    rcases this with ⟨_, rfl⟩ | ⟨_, rfl⟩ | ⟨_, rfl⟩ | ⟨_, rfl⟩ | ⟨_, rfl⟩ | ⟨_, rfl⟩ <;> decide
end Mine
end
section
open PySem PySem.W PySem.Calls PyProof.Rows
set_option Elab.async false
set_option maxRecDepth 100000
set_option maxHeartbeats 0
set_option linter.unusedVariables false
namespace Mine
local macro_rules | `(tactic| walk_at "call builtin:str.replace") => `(tactic| (refine SC.replaceW (by first | assumption | exact Nat.ne_of_gt (by assumption) | exact Nat.succ_ne_zero _) (by first | assumption | exact Nat.ne_of_gt (by assumption) | exact Nat.succ_ne_zero _) (by first | assumption | exact Nat.ne_of_lt (Nat.lt_succ_self _)) (by first | assumption | decide +kernel) (by assumption) (by first | assumption | decide +kernel) ?_; intro _ _))
theorem toksN {α : Type} {M : Model} {A : Around} {s : Shared} {t : Sem α} {Q : α → Shared → Prop} {E : Value → Shared → Prop} {n : Nat} (hn : n ≤ s.toks) (h : wpAny M A t (fun a s' => n ≤ s'.toks → Q a s') No s) : wpAny M A t Q E s :=
  wpAny_with_toks hn (wpAny_mono h (fun _ _ x => x) (fun _ _ x => x.elim))
noncomputable abbrev mR (x : List Nat) (d : Addr) (t : Tok) : PySem.Str → Option Value := fun y => List.lookup y [(Str.ofString "text", Value.str (S x) t), (Str.ofString "names", .ref d)].reverse
theorem refs_spec {w : World} {A : Around} {s : Shared} {Q : Value → Shared → Prop} {E : Value → Shared → Prop} {mean : ExcName → Option Value} {mg mb : Str → Option Value} {t : Tok} {x : List Nat} {d : Addr} {kvs : List KV} {b : Bool}
    (X : (hd.heap_1 w.params).In s.heap) (T : TopH mean mg mb s.heap) (hroom : A.depth + 6 < recursionLimit) (hun : A.units + 40 < cLine) (hh : A.handled = none) (hx : x.length ≤ 1000)
    (hD : DX w s.heap d kvs) (hK : NK kvs (namesT b)) (hds : (d == sysModules) = false)
    (h : ∀ h' tk tk', Ext s.heap h' → Q (.str (S (unref b x)) tk) { s with heap := h', toks := tk' }) :
    wpAny (model pg w) A (call (.ref 100) [.str (S x) t, .ref d]) Q E s := by
  refine' enterP (f := 100) (binds := [(Str.ofString "text", .str (S x) t), (Str.ofString "names", .ref d)]) X T ?r (by k_is) (by k_is) (BindsTo.of_eq rfl) (locs rfl) (by simp) ?_ rfl rfl rfl (by decide)
  case r => omega
  intro h₁ tk hpos F N
  (repeat' ((fail_if_success (with_reducible show InvPostN _ _ _ _ _ _ _ _ _)); (fail_if_success (with_reducible show WhileStep2 _ _ _ _ _ _ _ _)); (fail_if_success (with_reducible show InvEndN _ _ _ _ _ _ _)); (fail_if_success (with_reducible show wpAny _ _ (exec (PySem.Stmt.For _ _ _ _ _) _) _ _ _)); (fail_if_success (with_reducible show wpAny _ _ (subscriptTail _ _ (Value.ref _) (Value.str _ _)) _ _ _)); (first | (with_reducible refine fun (hpos : 1 ≤ Shared.toks _) => ?_) | (k_unfold; (try dsimp only)) | walk1 | (dsimp only; walk1) | (leave1; (try dsimp only)) | fail "no step")))
  refine toksN (n := 1) hpos ?_
  refine For_invV s.heap rfl rfl ?_
  walk1
  have hD1 : DX w h₁ d kvs := by
    obtain ⟨o, ho, r⟩ := hD
    exact ⟨o, F.keep d o ho, r⟩
  have hdL : d ≠ s.heap.objs.size := by
    obtain ⟨o, ho, r⟩ := hD
    exact Nat.ne_of_lt (Heap.lt_size ho)
  refine' iterX (fun i m₁ nx => nx = [] ∧ ∃ (cur : List Nat) (Y : PySem.Str) (tk1 : Tok) (us : Option Value), (∀ y, m₁ y = bmo (mR x d t) [("sign", us), ("text", some (.str Y tk1))] y) ∧ Y = S cur ∧ cur.length ≤ x.length ∧ refsGo ((namesT b).drop i) cur = refsGo (namesT b) x) (by exact hh) hD1 hds hdL F N (fun _ hq => nomatch hq) ?m0 ?turn ?done
  case m0 => exact ⟨rfl, x, _, _, none, by (first | (refine bmo_ext2 _ ?_ ?_; (· ((repeat refine And.intro rfl ?_); exact True.intro)); (· (intro y hy; (repeat (refine ite_skip (by first | exact hy.1 | exact hy.2.1 | exact hy.2.2.1 | exact hy.2.2.2.1 | exact hy.2.2.2.2.1 | exact hy.2.2.2.2.2.1) ?_)); rfl))) | (refine bmo_ext _ ?_ ?_; (· ((repeat refine List.forall_mem_cons.mpr ⟨rfl, ?_⟩); exact List.forall_mem_nil _)); (· (intro y hy; (try simp only [List.forall_mem_cons] at hy); (try simp only [hy, ↓reduceIte]); (try rfl))))), rfl, Nat.le_refl _, rfl⟩
  case turn =>
    rintro i y tt v m₁ nx h3 tk3 own hi - hoff ⟨rfl, cur, Y, tk1, us, hm, rfl, hcl, hgo⟩ F3 N3
    obtain ⟨c, r, u, htb, rfl, rfl, ht0, hu0, htu⟩ := hK.at hi
    have hrl := namesT_at htb
    have F4 := frAs F3 (m' := bmo (mR x d t) [("sign", some (.str (S [c]) tt)), ("text", some (.str (S cur) tk1))]) (fun y => by
      by_cases hy : y = Str.ofString "sign"
      · simp only [bmo, if_pos hy]
      · rw [if_neg hy, hm]; simp only [bmo, if_neg hy])
    dsimp only [bmo] at F4
    rw [List.nil_append] at N3
    clear F3 hm
    have hdrop : (namesT b).drop i = (c, r) :: (namesT b).drop (i + 1) := by
      have := List.getElem?_eq_some_iff.mp htb
      obtain ⟨hlt, he⟩ := this
      rw [List.drop_eq_getElem_cons hlt, he]
    rw [hdrop] at hgo
    have hS38 : Str.ofString "&" = S [38] := by decide +kernel
    have hul : (S cur).length ≤ 1048576 := by rw [S_len]; omega
    have hrne : (S r == S [c]) = false := by
      apply beq_eq_false_iff_ne.mpr
      intro e
      have := congrArg List.length (S_inj e)
      simp at this; omega
    have hz : (S [c]).length ≤ 14 := by rw [S_len]; simp
    have hrn : r ≠ [] := by intro e; rw [e] at hrl; simp at hrl
    have hu0' : u ≠ 0 := Nat.ne_of_gt hu0
    have ht0' : tt ≠ 0 := Nat.ne_of_gt ht0
    have htu' : u ≠ tt := fun e => htu e.symm
    have hrep := rep_len_le (p := r) (z := [c]) (by omega) (by simp; omega) _ cur (Nat.le_refl _)
    refine postIs ?_
    intro PP hPP
    (repeat' ((fail_if_success (with_reducible show InvPostN _ _ _ _ _ _ _ _ _)); (fail_if_success (with_reducible show WhileStep2 _ _ _ _ _ _ _ _)); (fail_if_success (with_reducible show InvEndN _ _ _ _ _ _ _)); (fail_if_success (with_reducible show wpAny _ _ (exec (PySem.Stmt.For _ _ _ _ _) _) _ _ _)); (fail_if_success (with_reducible show wpAny _ _ (subscriptTail _ _ (Value.ref _) (Value.str _ _)) _ _ _)); (first | (with_reducible refine fun (hpos : 1 ≤ Shared.toks _) => ?_) | (k_unfold; (try dsimp only)) | walk1 | (dsimp only; walk1) | (leave1; (try dsimp only)) | fail "no step")))
    ·
        with_reducible rename ((_ != _) = true) => hc
        rw [hS38] at hc
        have hc38 := item_ne.mp hc
        with_reducible rename Fr _ _ _ _ => F5
        have hD3 : DX w h3 d kvs := by
          obtain ⟨o, ho, r⟩ := hD
          exact ⟨o, F5.keep d o ho, r⟩
        refine dx_item hD3 hi ?_
        dsimp only
        (repeat' ((fail_if_success (with_reducible show InvPostN _ _ _ _ _ _ _ _ _)); (fail_if_success (with_reducible show WhileStep2 _ _ _ _ _ _ _ _)); (fail_if_success (with_reducible show InvEndN _ _ _ _ _ _ _)); (fail_if_success (with_reducible show wpAny _ _ (exec (PySem.Stmt.For _ _ _ _ _) _) _ _ _)); (fail_if_success (with_reducible show wpAny _ _ (subscriptTail _ _ (Value.ref _) (Value.str _ _)) _ _ _)); (first | (with_reducible refine fun (hpos : 1 ≤ Shared.toks _) => ?_) | (k_unfold; (try dsimp only)) | walk1 | (dsimp only; walk1) | (leave1; (try dsimp only)) | fail "no step")))
        rename_i F6 N6
        rw [replace_S hrn] at F6
        refine PostIs.use hPP ?_
        exact InvEndN.intro F6 N6 (nx := []) ⟨rfl, rep r [c] cur, _, _, _, by (first | (refine bmo_ext2 _ ?_ ?_; (· ((repeat refine And.intro rfl ?_); exact True.intro)); (· (intro y hy; (repeat (refine ite_skip (by first | exact hy.1 | exact hy.2.1 | exact hy.2.2.1 | exact hy.2.2.2.1 | exact hy.2.2.2.2.1 | exact hy.2.2.2.2.2.1) ?_)); rfl))) | (refine bmo_ext _ ?_ ?_; (· ((repeat refine List.forall_mem_cons.mpr ⟨rfl, ?_⟩); exact List.forall_mem_nil _)); (· (intro y hy; (try simp only [List.forall_mem_cons] at hy); (try simp only [hy, ↓reduceIte]); (try rfl))))), rfl, by omega, by
          rw [← hgo]; simp only [refsGo, if_neg hc38]⟩ rfl (fun _ hp => nomatch hp) (fun _ hp => hp)
    ·
        with_reducible rename ((_ != _) = false) => hc
        rw [hS38] at hc
        have hc38 := bne_S hc
        refine PostIs.use hPP ?_
        exact InvEndN.intro F4 N3 (nx := []) ⟨rfl, cur, _, _, _, by (first | (refine bmo_ext2 _ ?_ ?_; (· ((repeat refine And.intro rfl ?_); exact True.intro)); (· (intro y hy; (repeat (refine ite_skip (by first | exact hy.1 | exact hy.2.1 | exact hy.2.2.1 | exact hy.2.2.2.1 | exact hy.2.2.2.2.1 | exact hy.2.2.2.2.2.1) ?_)); rfl))) | (refine bmo_ext _ ?_ ?_; (· ((repeat refine List.forall_mem_cons.mpr ⟨rfl, ?_⟩); exact List.forall_mem_nil _)); (· (intro y hy; (try simp only [List.forall_mem_cons] at hy); (try simp only [hy, ↓reduceIte]); (try rfl))))), rfl, hcl, by
          rw [← hgo]; simp only [refsGo, if_pos hc38]⟩ rfl (fun _ hp => nomatch hp) (fun _ hp => hp)
  case done =>
      rintro m₁ nx h3 tk3 ⟨rfl, cur, Y, tk1, us, hm, rfl, hcl, hgo⟩ F3 N3
      have F4 := frAs F3 hm
      dsimp only [bmo] at F4
      clear F3
      rw [NK.len hK, List.drop_length] at hgo
      have hgo' : cur = refsGo (namesT b) x := hgo
      have hul : (S cur).length ≤ 1048576 := by rw [S_len]; omega
      intro hp1
      have hp2 : 0 < tk3 := hp1
      have hz38 : (Str.ofString "&").length ≤ 14 := by decide +kernel
      dsimp only
      (repeat' ((fail_if_success (with_reducible show InvPostN _ _ _ _ _ _ _ _ _)); (fail_if_success (with_reducible show WhileStep2 _ _ _ _ _ _ _ _)); (fail_if_success (with_reducible show InvEndN _ _ _ _ _ _ _)); (fail_if_success (with_reducible show wpAny _ _ (exec (PySem.Stmt.For _ _ _ _ _) _) _ _ _)); (fail_if_success (with_reducible show wpAny _ _ (subscriptTail _ _ (Value.ref _) (Value.str _ _)) _ _ _)); (first | (with_reducible refine fun (hpos : 1 ≤ Shared.toks _) => ?_) | (k_unfold; (try dsimp only)) | walk1 | (dsimp only; walk1) | (leave1; (try dsimp only)) | fail "no step")))
      rename_i t9 k9
      have e1 : Str.ofString "&amp;" = S ampL := by decide +kernel
      have e2 : Str.ofString "&" = S [38] := by decide +kernel
      rw [e1, e2, replace_S (by decide), hgo', refs_unref]
      exact h _ _ _ F4.keep
end Mine
end
end
section
open PySem PySem.W PySem.Calls PyProof.Rows
set_option Elab.async false
set_option maxRecDepth 100000
set_option maxHeartbeats 0
set_option linter.unusedVariables false
namespace Mine
local macro_rules | `(tactic| walk_at "call builtin:sum") => `(tactic| ((with_reducible show wpAny _ _ (call (Value.builtin "sum") [Value.ref _]) _ _ _); (refine' sumK ?k0 ?k1 ?k2 ?k3 ?k4 ?_; (case k0 => assumption); (case k1 => k_asm); (case k2 => k_asm); (case k3 => is_list); (case k4 => assumption)); intro h' t' k' F' N'))
noncomputable def szS (y : PySem.Str) : Int := if y.cps.toList < (Str.ofString " ").cps.toList then 3 else if (Str.ofString "~").cps.toList < y.cps.toList then 3 else if (y != Str.ofString "=") = true then 1 else 3
theorem szS_S (c : Nat) : szS (S [c]) = sz c := by
  have e1 : (Str.ofString " ").cps.toList = [32] := by decide +kernel
  have e2 : (Str.ofString "~").cps.toList = [126] := by decide +kernel
  unfold szS sz
  rw [e1, e2, S_eq]
  have h1 : ((S [c]).cps.toList < [32]) ↔ c < 32 := by
    show [c] < [32] ↔ _
    simp [List.cons_lt_cons_iff]
  have h2 : ([126] < (S [c]).cps.toList) ↔ 126 < c := by
    show [126] < [c] ↔ _
    simp [List.cons_lt_cons_iff]
  simp only [h1, h2, item_ne]
  split
  · rw [if_neg (by omega)]
  · split
    · rw [if_neg (by omega)]
    · split
      · rw [if_pos (by omega)]
      · rw [if_neg (by omega)]
theorem sleaf {a : PySem.Str} {i : Int} {t : Tok} {s₂ : Shared} {h : Heap} {k : Nat} (hz : szS a = i) (hh : h = s₂.heap) : SeqLeaf (Carried (.int i t) (PyData.int (szS a)) ∧ Keeps s₂ { s₂ with heap := h, toks := k }) := by
  subst hh
  exact ⟨by rw [hz]; exact .int _ _, s₂.heap, k, rfl, fun _ _ e => e⟩
theorem signs_S (W : List Nat) : (signs (S W)).map szS = W.map sz := by
  unfold signs
  rw [List.map_map]
  apply List.map_congr_left
  intro c _
  exact szS_S c
theorem ints_snoc : ∀ {vs : List Value} {ns : List Int} (n : Int) (t : Tok), IntsAre vs ns → IntsAre (vs ++ [.int n t]) (ns ++ [n])
  | _, _, n, t, .nil => .cons n t .nil
  | _, _, n, t, .cons a b h => .cons a b (ints_snoc n t h)
theorem ints_at : ∀ {vs : List Value} {ns : List Int} {i : Nat} {v : Value}, IntsAre vs ns → vs[i]? = some v → ∃ n t, v = .int n t ∧ ns[i]? = some n
  | _, _, i, v, .nil, h => by simp at h
  | _, _, 0, v, .cons n t _, h => by
    simp at h
    exact ⟨n, t, h.symm, rfl⟩
  | _, _, i + 1, v, .cons n t r, h => by
    have := ints_at r (i := i) (by simpa using h)
    simpa using this
noncomputable abbrev mW (W : List Nat) (m : Nat) (t u : Tok) (D R : Addr) : PySem.Str → Option Value := bmo (fun z => List.lookup z [(Str.ofString "written", Value.str (S W) t), (Str.ofString "width", Value.int (m : Nat) u)].reverse) [("rows", some (.ref R)), ("sizes", some (.ref D))]
theorem sumI_sum : ∀ l : List Int, l.sum = sumI l
  | [] => rfl
  | a :: l => by rw [List.sum_cons, sumI_sum l]; rfl
noncomputable def JRow (m₀ : PySem.Str → Option Value) (R : Addr) (W : List Nat) (m : Nat) (i : Nat) (mm : PySem.Str → Option Value) (nx : List (Addr × Obj)) : Prop :=
  ∃ (vs : Array Value) (nn : Nat) (rr : List Int) (row room left : Int) (rest : Bool) (t1 t2 t3 : Tok) (us : Option Value), nx = [(R, listOf vs nn)] ∧ IntsAre vs.toList rr ∧ vs.size ≤ i ∧
    (∀ z, mm z = bmo m₀ [("size", us), ("row", some (.int row t1)), ("room", some (.int room t2)), ("left", some (.int left t3)), ("rest", some (.bool rest))] z) ∧
    rr ++ rowsGo (m : Int) ((W.map sz).drop i) row room left rest = lawRows (m : Int) W
theorem JRow.elim {m₀ : PySem.Str → Option Value} {R : Addr} {W : List Nat} {m i : Nat} {mm : PySem.Str → Option Value} {nx : List (Addr × Obj)} {G : List (Addr × Obj) → Prop} (h : JRow m₀ R W m i mm nx)
    (k : ∀ (vs : Array Value) (nn : Nat) (rr : List Int) (row room left : Int) (rest : Bool) (t1 t2 t3 : Tok) (us : Option Value), IntsAre vs.toList rr → vs.size ≤ i →
      (∀ z, mm z = bmo m₀ [("size", us), ("row", some (.int row t1)), ("room", some (.int room t2)), ("left", some (.int left t3)), ("rest", some (.bool rest))] z) →
      (rr ++ rowsGo (m : Int) ((W.map sz).drop i) row room left rest = lawRows (m : Int) W) → G [(R, listOf vs nn)]) : G nx := by
  obtain ⟨vs, nn, rr, row, room, left, rest, t1, t2, t3, us, rfl, z0, z1, z2, z3⟩ := h
  exact k vs nn rr row room left rest t1 t2 t3 us z0 z1 z2 z3
theorem er {h₀ h : Heap} {L' R : Addr} {s : Shared} {own : List (Addr × Obj)} {m₀ mm : PySem.Str → Option Value} {tk : Nat} {W : List Nat} {m i nn n0 : Nat} {vs its : Array Value} {rr : List Int} {r0 row room left : Int} {rest : Bool} {tx t1 t2 t3 : Tok} {us : Option Value}
    (F : Fr h₀ L' h mm) (N : News h₀ L' h ((R, listOf (vs.push (.int r0 tx)) nn) :: own)) (hm : ∀ z, mm z = bmo m₀ [("size", us), ("row", some (.int row t1)), ("room", some (.int room t2)), ("left", some (.int left t3)), ("rest", some (.bool rest))] z)
    (hvr : IntsAre vs.toList rr) (hvs : vs.size ≤ i) (hgo : (rr ++ [r0]) ++ rowsGo (m : Int) ((W.map sz).drop (i + 1)) row room left rest = lawRows (m : Int) W) :
    InvEndN h₀ L' (JRow m₀ R W m (i + 1)) own (List.map (fun x => x.fst) [(R, listOf its n0)]) s { s with heap := h, toks := tk } :=
  InvEndN.intro F N (nx := [(R, listOf (vs.push (.int r0 tx)) nn)]) ⟨_, nn, rr ++ [r0], row, room, left, rest, t1, t2, t3, us, rfl, by rw [Array.toList_push]; exact ints_snoc _ _ hvr, by rw [Array.size_push]; omega, hm, hgo⟩ rfl
    (fun p hp => by rw [List.mem_singleton.mp hp]; exact List.Mem.head _) (fun p hp => List.mem_cons_of_mem _ hp)
theorem rowsGo_keep {m s row room left : Int} {l : List Int} {rest : Bool} (h : ¬ (rest = false ∧ room < s)) : rowsGo m (s :: l) row room left rest = row :: rowsGo m l row (room - s) (left - s) rest := by
  show (if rest = false ∧ room < s then _ else _) = _
  rw [if_neg h]
theorem rowsGo_new {m s row room left : Int} {l : List Int} {rest : Bool} (h : rest = false ∧ room < s) : rowsGo m (s :: l) row room left rest = (row + 1) :: rowsGo m l (row + 1) (m - 1 - s) (left - s) (decide (left ≤ m)) := by
  show (if rest = false ∧ room < s then _ else _) = _
  rw [if_pos h]
theorem rows_spec {w : World} {A : Around} {s : Shared} {Q : Value → Shared → Prop} {E : Value → Shared → Prop} {mean : ExcName → Option Value} {mg mb : Str → Option Value} {t u : Tok} {W : List Nat} {m : Nat}
    (X : (hd.heap_1 w.params).In s.heap) (T : TopH mean mg mb s.heap) (hroom : A.depth + 6 < recursionLimit) (hun : A.units + 40 < cLine) (hh : A.handled = none) (hl : W.length ≤ 60) (hm : m ≤ 23)
    (h : ∀ r vs n h' tk', Ext s.heap h' → h'.get? r = some (listOf vs n) → IntsAre vs.toList (lawRows (m : Int) W) → s.heap.get? r = none → Q (.ref r) { s with heap := h', toks := tk' }) :
    wpAny (model pg w) A (call (.ref 105) [.str (S W) t, .int (m : Nat) u]) Q E s := by
  have hWl : (S W).length ≤ 60 := by rw [S_len]; exact hl
  refine' enterP (f := 105) (binds := [(Str.ofString "written", .str (S W) t), (Str.ofString "width", .int (m : Nat) u)]) X T ?r (by k_is) (by k_is) (BindsTo.of_eq rfl) (locs rfl) (by simp) ?_ rfl rfl rfl (by decide)
  case r => omega
  intro h₁ tk hpos F N
  (repeat' ((fail_if_success (with_reducible show InvPostN _ _ _ _ _ _ _ _ _)); (fail_if_success (with_reducible show WhileStep2 _ _ _ _ _ _ _ _)); (fail_if_success (with_reducible show InvEndN _ _ _ _ _ _ _)); (fail_if_success (with_reducible show wpAny _ _ (exec (PySem.Stmt.For _ _ _ _ _) _) _ _ _)); (first | (k_unfold; (try dsimp only)) | walk1 | (dsimp only; walk1) | (leave1; (try dsimp only)) | fail "no step")))
  have hWs : (S W).length ≤ sizeLine := by unfold sizeLine; omega
  refine' srcA_signsD (pz := fun _ => true) (d := fun y => PyData.int (szS y)) (by exact hh) F N ?g1 ?g2 ?g3 hWs
  case g1 =>
    intro C a v s₂ m₂ E' hi hns hm htk
    rw [List.forIn_nil]
    exact wpAny_pure ⟨rfl, s₂.heap, s₂.toks, rfl, fun _ _ e => e⟩
  case g2 =>
    intro C a v s₂ m₂ E' hi hp hns hm htk
    obtain ⟨ta, rfl⟩ := ItemKind.str_is hi
    refine wpAny_leafK ?_
    (repeat' ((fail_if_success (with_reducible show InvPostN _ _ _ _ _ _ _ _ _)); (fail_if_success (with_reducible show WhileStep2 _ _ _ _ _ _ _ _)); (fail_if_success (with_reducible show InvEndN _ _ _ _ _ _ _)); (fail_if_success (with_reducible show wpAny _ _ (exec (PySem.Stmt.For _ _ _ _ _) _) _ _ _)); (first | (k_unfold; (try dsimp only)) | walk1 | (dsimp only; walk1) | (leave1; (try dsimp only)) | fail "no step")))
    · exact sleaf (by unfold szS; rw [if_pos (by assumption)]) rfl
    · exact sleaf (by unfold szS; rw [if_neg (by assumption), if_pos (by assumption)]) rfl
    · exact sleaf (by unfold szS; rw [if_neg (by assumption), if_neg (by assumption), if_pos (by assumption)]) rfl
    · exact sleaf (by unfold szS; rw [if_neg (by assumption), if_neg (by assumption), if_neg (by rw [‹(_ != _) = false›]; exact Bool.false_ne_true)]) rfl
  case g3 =>
    intro D ys h' tk' F' N' hD hlD hnp hc
    have hI := CarriedAll.intsOf hc
    rw [List.filter_eq_self.mpr (fun _ _ => rfl), signs_S] at hI
    have hDL := hnp.ne_locals F'
    obtain ⟨⟨nD, hDg⟩, _⟩ := hnp
    have N2 : News s.heap s.heap.objs.size h' [(D, listOf ys.toArray nD)] := fun p hp => by
      rw [List.mem_singleton.mp hp]
      exact ⟨hDg, hDL, hD⟩
    clear N' hlD hDg hc
    dsimp only
    (repeat' ((fail_if_success (with_reducible show InvPostN _ _ _ _ _ _ _ _ _)); (fail_if_success (with_reducible show WhileStep2 _ _ _ _ _ _ _ _)); (fail_if_success (with_reducible show InvEndN _ _ _ _ _ _ _)); (fail_if_success (with_reducible show wpAny _ _ (exec (PySem.Stmt.For _ _ _ _ _) _) _ _ _)); (first | (k_unfold; (try dsimp only)) | walk1 | (dsimp only; walk1) | (leave1; (try dsimp only)) | fail "no step")))
    rename_i R _ hDR _ _ _ _ F3 N3
    have hys : ys.length = W.length := by
      have := IntsAre.length hI
      simpa using this
    have NL := (N3 (D, listOf ys.toArray nD) (List.Mem.tail _ (List.Mem.head _))).1
    have N4 := newsSub N3 (b := [(R, listOf #[] 0)]) (fun p hp => by rw [List.mem_singleton.mp hp]; exact List.Mem.head _)
    refine For_invV s.heap rfl rfl ?_
    walk1
    refine' iterL (JRow (mW W m t u D R) R W m) (by exact hh) NL hDL F3 N4 (fun q hq => by rw [List.mem_singleton.mp hq]; exact Nat.ne_of_gt hDR) ?j0 ?turn ?done
    case j0 => exact ⟨#[], 0, [], 0, _, _, _, _, _, _, none, rfl, .nil, by simp, by (first | (refine bmo_ext2 _ ?_ ?_; (· ((repeat refine And.intro rfl ?_); exact True.intro)); (· (intro y hy; (repeat (refine ite_skip (by first | exact hy.1 | exact hy.2.1 | exact hy.2.2.1 | exact hy.2.2.2.1 | exact hy.2.2.2.2.1 | exact hy.2.2.2.2.2.1) ?_)); rfl))) | (refine bmo_ext _ ?_ ?_; (· ((repeat refine List.forall_mem_cons.mpr ⟨rfl, ?_⟩); exact List.forall_mem_nil _)); (· (intro y hy; (try simp only [List.forall_mem_cons] at hy); (try simp only [hy, ↓reduceIte]); (try rfl))))), by rw [sumI_sum]; rfl⟩
    case turn =>
      intro i v m₁ nx h3 tk3 own hi hadr hoff hJ0
      clear hadr
      refine JRow.elim (G := fun z => Fr _ _ _ _ → News _ _ _ (z ++ own) → _) hJ0 ?_
      clear hJ0
      intro vs nn rr row room left rest t1 t2 t3 us hvr hvs hm1 hgo F5 N5
      obtain ⟨n, tn, rfl, hin⟩ := ints_at hI hi
      have hiW : i < W.length := by
        have := (List.getElem?_eq_some_iff.mp hin).1
        simpa using this
      have hdrop : (W.map sz).drop i = n :: (W.map sz).drop (i + 1) := by
        obtain ⟨hlt, he⟩ := List.getElem?_eq_some_iff.mp hin
        rw [List.drop_eq_getElem_cons hlt, he]
      rw [hdrop] at hgo
      have F6 := frAs F5 (m' := bmo (mW W m t u D R) [("size", some (.int n tn)), ("row", some (.int row t1)), ("room", some (.int room t2)), ("left", some (.int left t3)), ("rest", some (.bool rest))]) (fun y => by
        by_cases hy : y = Str.ofString "size"
        · simp only [bmo, if_pos hy]
        · rw [if_neg hy, hm1]; simp only [bmo, if_neg hy])
      dsimp only [bmo] at F6
      clear F5 hm1
      have hsz : vs.size ≤ sizeLine := by unfold sizeLine; omega
      have hown : ∀ p ∈ own, p.1 ≠ R := fun p hp => hoff p hp R (by simp)
      have N6 : News s.heap (envOf (Str.ofString "_law_rows") _ s.heap.objs.size 105 (Value.ref 104)).locals h3 ((R, listOf vs nn) :: own) := N5
      clear N5
      refine postIs ?_
      intro PP hPP
      (repeat' ((fail_if_success (with_reducible show InvPostN _ _ _ _ _ _ _ _ _)); (fail_if_success (with_reducible show WhileStep2 _ _ _ _ _ _ _ _)); (fail_if_success (with_reducible show InvEndN _ _ _ _ _ _ _)); (fail_if_success (with_reducible show wpAny _ _ (exec (PySem.Stmt.For _ _ _ _ _) _) _ _ _)); (first | (k_unfold; (try dsimp only)) | walk1 | (dsimp only; walk1) | (leave1; (try dsimp only)) | fail "no step")))
      ·
          rw [rowsGo_keep (by rw [‹rest = true›]; simp)] at hgo
          refine PostIs.use hPP ?_
          exact er (by assumption) (by assumption) (by (first | (refine bmo_ext2 _ ?_ ?_; (· ((repeat refine And.intro rfl ?_); exact True.intro)); (· (intro y hy; (repeat (refine ite_skip (by first | exact hy.1 | exact hy.2.1 | exact hy.2.2.1 | exact hy.2.2.2.1 | exact hy.2.2.2.2.1 | exact hy.2.2.2.2.2.1) ?_)); rfl))) | (refine bmo_ext _ ?_ ?_; (· ((repeat refine List.forall_mem_cons.mpr ⟨rfl, ?_⟩); exact List.forall_mem_nil _)); (· (intro y hy; (try simp only [List.forall_mem_cons] at hy); (try simp only [hy, ↓reduceIte]); (try rfl)))))) hvr hvs (by rw [← hgo]; simp)
      ·
          rw [rowsGo_new ⟨by assumption, by assumption⟩] at hgo
          refine PostIs.use hPP ?_
          exact er (by assumption) (by assumption) (by (first | (refine bmo_ext2 _ ?_ ?_; (· ((repeat refine And.intro rfl ?_); exact True.intro)); (· (intro y hy; (repeat (refine ite_skip (by first | exact hy.1 | exact hy.2.1 | exact hy.2.2.1 | exact hy.2.2.2.1 | exact hy.2.2.2.2.1 | exact hy.2.2.2.2.2.1) ?_)); rfl))) | (refine bmo_ext _ ?_ ?_; (· ((repeat refine List.forall_mem_cons.mpr ⟨rfl, ?_⟩); exact List.forall_mem_nil _)); (· (intro y hy; (try simp only [List.forall_mem_cons] at hy); (try simp only [hy, ↓reduceIte]); (try rfl)))))) hvr hvs (by rw [← hgo]; simp)
      ·
          rw [rowsGo_keep (fun e => absurd e.2 (by assumption))] at hgo
          refine PostIs.use hPP ?_
          exact er (by assumption) (by assumption) (by (first | (refine bmo_ext2 _ ?_ ?_; (· ((repeat refine And.intro rfl ?_); exact True.intro)); (· (intro y hy; (repeat (refine ite_skip (by first | exact hy.1 | exact hy.2.1 | exact hy.2.2.1 | exact hy.2.2.2.1 | exact hy.2.2.2.2.1 | exact hy.2.2.2.2.2.1) ?_)); rfl))) | (refine bmo_ext _ ?_ ?_; (· ((repeat refine List.forall_mem_cons.mpr ⟨rfl, ?_⟩); exact List.forall_mem_nil _)); (· (intro y hy; (try simp only [List.forall_mem_cons] at hy); (try simp only [hy, ↓reduceIte]); (try rfl)))))) hvr hvs (by rw [← hgo]; simp)
    case done =>
        intro m₁ nx h3 tk3 hJ0
        refine JRow.elim (G := fun z => Fr _ _ _ _ → News _ _ _ z → _) hJ0 ?_
        clear hJ0
        intro vs nn rr row room left rest t1 t2 t3 us hvr hvs hm1 hgo F5 N5
        have F6 := frAs F5 hm1
        dsimp only [bmo] at F6
        clear F5 hm1
        have hnil : (W.map sz).drop ys.length = [] := List.drop_eq_nil_of_le (by simp; omega)
        rw [hnil] at hgo
        have hgo' : rr = lawRows (m : Int) W := by
          have : rowsGo (m : Int) [] row room left rest = [] := rfl
          rw [this, List.append_nil] at hgo
          exact hgo
        subst hgo'
        dsimp only
        (repeat' ((fail_if_success (with_reducible show InvPostN _ _ _ _ _ _ _ _ _)); (fail_if_success (with_reducible show WhileStep2 _ _ _ _ _ _ _ _)); (fail_if_success (with_reducible show InvEndN _ _ _ _ _ _ _)); (fail_if_success (with_reducible show wpAny _ _ (exec (PySem.Stmt.For _ _ _ _ _) _) _ _ _)); (first | (k_unfold; (try dsimp only)) | walk1 | (dsimp only; walk1) | (leave1; (try dsimp only)) | fail "no step")))
        have hR := N5 _ (List.Mem.head _)
        exact h R vs nn h3 _ F6.keep hR.1 hvr hR.2.2
end Mine
end
section
open PySem PySem.W PySem.Calls PyProof.Rows
set_option Elab.async false
set_option maxRecDepth 100000
set_option linter.unusedVariables false
namespace Mine
theorem enterC {w : World} {A : Around} {s : Shared} {Q : Value → Shared → Prop} {E : Value → Shared → Prop} {mean : ExcName → Option Value} {mg mb : Str → Option Value} {K : Frag}
    {name qual : Str} {params : Arguments} {body : List Stmt} {scope : Scope} {dV kV doc pm cdv ct oc : Value} {an od : Option Addr} {osl : Array (Option Value)} {f : Addr} {vs : List Value} {binds : List (Str × Value)}
    (X : K.In s.heap) (T : TopH mean mg mb s.heap) (hroom : A.depth < recursionLimit)
    (ho : K.lookup f = some ⟨oc, od, .func (fnOf name qual params body scope dV kV doc pm an cdv ct), osl⟩) (hcd : codeIn K cdv qual = true)
    (hbind : BindsTo s (fnOf name qual params body scope dV kV doc pm an cdv ct) ⟨vs, []⟩ binds)
    (hkind : ∀ n, ∀ x ∈ binds, scope.names.lookup x.1 = some .local ∨ (scope.names.lookup x.1 = some .cell ∧ ((cellsFrom n scope.names []).lookup x.1).isSome = true))
    (hnd : ((cellsFrom 0 scope.names []).map (·.1)).Nodup) (hpos : 0 < s.toks)
    (h : ∀ h₁ tk cells, 0 < tk → Fr s.heap s.heap.objs.size h₁ (bindL (envOfC qual scope s.heap.objs.size f cdv).kindOf binds fun _ => none) → News s.heap s.heap.objs.size h₁ cells →
      CellsAre (bindC (envOfC qual scope s.heap.objs.size f cdv).kindOf binds fun _ => none) (cellsFrom (s.heap.objs.size + 1) scope.names []) cells →
      wpAny (model pg w) (A.deeper (envOfC qual scope s.heap.objs.size f cdv)) (execs body (envOfC qual scope s.heap.objs.size f cdv))
        (fun fl s' => Q (match fl with | .ret v => v | _ => .none) s') No { s with heap := h₁, toks := tk })
    (hco : scope.isCoroutine = false) (hgen : scope.isGenerator = false) (hk : scope.kind = .function) : wpAny (model pg w) A (call (.ref f) vs) Q E s := by
  refine wpAny_call (codeAny_call_function hroom (X _ _ ho) rfl hco hgen rfl (codeRec_of X hcd) (hbind _ _ _ _ ?_))
  refine wpAny_with_toks (n := 1) hpos ?_
  refine wpAny_newFunctionEnv_cells hk (hkind _) fun env' he s' x => ?_
  subst he
  intro hp1
  refine ⟨T.nolimit.keeps x.toInCall.keep, codeAny_func ?_⟩
  obtain ⟨h₁, tk, rfl, _⟩ := x.done
  obtain ⟨cells, NC, Y⟩ := Cl.news (h₀ := s.heap) (Nat.le_refl _) fun n c hm => ⟨x.cell n c (lookup_of_mem_nodup (cellsFrom_names scope.names 0 (s.heap.objs.size + 1) [] [] rfl ▸ hnd) hm), x.above n c hm⟩
  exact wpAny_mono (h h₁ tk cells hp1 ⟨x.toInCall.ns, x.toInCall.keep, Nat.le_refl _⟩ NC Y) (fun _ _ z => z) (fun _ _ z => z.elim)
end Mine
end
section
open PySem PySem.W PySem.Calls PyProof.Rows
set_option Elab.async false
set_option maxRecDepth 100000
set_option linter.unusedVariables false
namespace Mine
open LCg
section
variable {prog : Program} {w : World} {A : Around} {E : Value → Shared → Prop} {s : Shared} {h₀ : Heap} {L : Addr} {m : PySem.Str → Option Value} {env : Env}
/-- a block whose turns keep the ledger -/
theorem rest_all {elt : PySem.Expr} {x : PySem.Str} {scope : Scope} {cl : List (PySem.Str × Addr)} {S : List (Addr × Obj) → Prop} {P : Nat → Value → Prop} {Fin : List Value → List (Addr × Obj) → Prop} {news : List (Addr × Obj)} (R : Nat → List Value → Prop) {n : Nat}
    (hstep : ∀ i v I oI C oC D m₂ h tk (E' : Value → Shared → Prop) ys, i < n → P i v → NsObj oC m₂ → m₂ x = some v → Fr h₀ L h m → News h₀ L h ((I, oI) :: (C, oC) :: (D, lst ys) :: news) → Off3 I C D news → R i ys →
      wpAny (model prog w) A (eval elt (compEnvC scope cl C env)) (fun y s₂ => ∃ h' tk', s₂ = { s with heap := h', toks := tk' } ∧ Fr h₀ L h' m ∧ News h₀ L h' ((I, oI) :: (C, oC) :: (D, lst ys) :: news) ∧ R (i + 1) (ys ++ [y])) E' { s with heap := h, toks := tk })
    (hS : S news) (hfin : ∀ ys, R n ys → Fin ys news) : ∀ k i ys, i + k = n → R i ys → CompRest prog w A h₀ L m env elt x scope cl s S P Fin k i ys news
  | 0, i, ys, e, r => CompRest.zero (hfin ys (by rw [Nat.add_zero] at e; exact e ▸ r))
  | k + 1, i, ys, e, r => CompRest.succ fun v I oI C oC D m₂ h tk E' hP hn hm F N off ne =>
      wpAny_mono (hstep i v I oI C oC D m₂ h tk E' ys (by omega) hP hn hm F N off r) (fun y s₂ q => by
        obtain ⟨h', tk', rfl, F', N', r'⟩ := q
        exact ⟨h', tk', news, rfl, F', N', off, hS, rest_all R hstep hS hfin k (i + 1) (ys ++ [y]) (by omega) r'⟩) fun _ _ z => z
theorem str_st {I : Addr} {T : String} {X : PySem.Str} {t : Tok} : ∀ i (h h' : Heap) (o : Obj) (nw : List (Addr × Obj)), h.IsStrIter I T X t i → h.get? I = some o → h'.get? I = some o → (∀ b o, h₀.get? b = some o → h'.get? b = some o) → News h₀ L h' nw → True → h'.IsStrIter I T X t i :=
  fun i h h' o nw st e e' k N _ => by obtain ⟨o', q, r⟩ := st; rw [e] at q; cases q; exact ⟨o, e', r⟩
/-- the source is a text -/
noncomputable def SrcS (prog : Program) (w : World) (A : Around) (h₀ : Heap) (L : Addr) (m : PySem.Str → Option Value) (env : Env) (elt : PySem.Expr) (x : PySem.Str) (scope : Scope) (cl : List (PySem.Str × Addr)) (Fin : Shared → List Value → List (Addr × Obj) → Prop) (xv : Value) (s₁ : Shared) : Prop :=
  ∃ X t news, xv = .str X t ∧ A.handled = none ∧ Fr h₀ L s₁.heap m ∧ News h₀ L s₁.heap news ∧ X.length ≤ sizeLine ∧
    ∀ s₂ : Shared, (∃ h, s₂ = { s₁ with heap := h }) → CompRest prog w A h₀ L m env elt x scope cl s₂ (fun _ => True) (SignAt X) (Fin s₂) X.cps.size 0 [] news
theorem pyIter_S {x : PySem.Str} {t : Tok} {Q : Value → Shared → Prop}
    (hQ : ∀ (o : Obj) (T : String), (∀ A' : Around, A'.handled = none → Walks prog w A' s.heap.objs.size [s.heap.objs.size] [s.heap.objs.size] x.cps.size (SignAt x) (fun i h => h.IsStrIter s.heap.objs.size T x t i)) → (s.heap.push o).IsStrIter s.heap.objs.size T x t 0 →
      Q (.ref s.heap.objs.size) { s with heap := s.heap.push o }) : wpAny (model prog w) A (pyIter (.str x t)) Q E s := by
  cases ha : x.cps.all (· < 128)
  · exact wpAny_pyIter_wide ha (hQ _ _ (fun A' hA => Walks.strWide hA _ x t) ⟨_, Heap.get?_push_size _ rfl, rfl, rfl⟩)
  · exact wpAny_pyIter_ascii ha (hQ _ _ (fun A' hA => Walks.strAscii hA _ x t) ⟨_, Heap.get?_push_size _ rfl, rfl, rfl⟩)
theorem ListComp_S {elt iter : PySem.Expr} {x : PySem.Str} {px : Pos} {scope : Scope} {cl : List (PySem.Str × Addr)} {pos : Pos} {Q : Value → Shared → Prop} (F₀ : Fr h₀ L s.heap m)
    (hclos : closureFor scope env = pure cl) (hcell : ∀ y ∈ scope.names, y.2 ≠ .cell) (hkind : scope.kind = .function)
    (hnames : ∀ y ∈ scope.names, y.2 = .local → scope.names.lookup y.1 = some .local) (hx : scope.names.lookup x = some .local)
    (h : wpAny (model prog w) A (eval iter env) (SrcS prog w A h₀ L m env elt x scope cl (fun s₂ => FinE h₀ L m s₂ Q)) E s)
    (hs : ∀ x, foldedSetIterable iter env x = pure x := by intro _; rfl) :
    wpAny (model prog w) A (eval (.ListComp elt [⟨.Name x px, iter, [], 0⟩] scope pos) env) Q E s := by
  rw [eval_ListComp]
  refine wpAny_comprehension_free (use := none) rfl hs hclos hkind hnames (wpAny_mono h (fun xv s₁ h₁ => ?_) fun _ _ e => e)
  obtain ⟨X, t, news, rfl, hh, F, N, hsz, R⟩ := h₁
  refine pyIter_S fun o T W hst => ?_
  refine block_U (W A hh) hsz (fun i h st => by obtain ⟨o, e, _⟩ := st; exact ⟨o, e⟩) str_st hcell hkind hx hst (fun b hb => ?_)
    (F.keeps fun _ _ e => Heap.get?_push_of_some _ e) (N.grown fun _ _ e => Heap.get?_push_of_some _ e) (Nat.ne_of_lt F.ns.lt) (next_is_new F) (fun p hp => Nat.ne_of_lt (Heap.lt_size (N p hp).1)) trivial (R _ ⟨_, rfl⟩) ?_
  · rw [List.mem_singleton.mp hb]
    show s₁.heap.objs.size < (s₁.heap.push _).objs.size
    rw [Heap.size_push]; exact Nat.lt_succ_self _
  · intro D C h tk m' ys news' F' N' o1 hn hC₀ hD₀ hCL hDL hCD offC fin
    refine ⟨m', hn, fun h'' hs'' => fin D h'' tk (F'.change hs'' hCL hC₀) (fun p hp => ?_) o1⟩
    refine ⟨hs''.extBut _ _ ?_ (N' p hp).1, (N' p hp).2⟩
    rcases List.mem_cons.mp hp with rfl | hp
    · exact Ne.symm hCD
    · exact offC p hp
theorem Assign_ListComp_S {elt iter : PySem.Expr} {x y : PySem.Str} {px py : Pos} {scope : Scope} {cl : List (PySem.Str × Addr)} {pos spos : Pos} {Q : Flow → Shared → Prop} (F₀ : Fr h₀ L s.heap m) (hLe : env.locals = L)
    (hsw : swapsWith (.ListComp elt [⟨.Name x px, iter, [], 0⟩] scope pos) (some (.Name y py)) spos.line env = pure true)
    (hclos : closureFor scope env = pure cl) (hcell : ∀ z ∈ scope.names, z.2 ≠ .cell) (hkind : scope.kind = .function)
    (hnames : ∀ z ∈ scope.names, z.2 = .local → scope.names.lookup z.1 = some .local) (hx : scope.names.lookup x = some .local)
    (hy : env.kindOf y = some .local) (hp : (env.scope.kind == .class || (env.scope.kind == .module && env.locals != env.globals)) = false)
    (h : wpAny (model prog w) A (eval iter env) (SrcS prog w A h₀ L m env elt x scope cl (fun s₂ => FinA h₀ L m s₂ y Q)) E s)
    (hs : ∀ x, foldedSetIterable iter env x = pure x := by intro _; rfl) :
    wpAny (model prog w) A (exec (.Assign [.Name y py] (.ListComp elt [⟨.Name x px, iter, [], 0⟩] scope pos) spos) env) Q E s := by
  subst hLe
  rw [exec_Assign_Name_used _ _ _ _ hsw]
  refine wpAny_bind (wpAny_standAt (wpAny_bind ?_))
  show wpAny _ A (do let _ ← comprehension (.ListComp elt [⟨.Name x px, iter, [], 0⟩] scope pos) scope env _ (newList []) false (eval iter env) (some (assign (.Name y py) env))) _ _ s
  refine wpAny_bind (wpAny_mono (wpAny_comprehension_free (use := some (assign (.Name y py) env)) (Q := fun _ s' => Q .next s') rfl hs hclos hkind hnames
    (wpAny_mono h (fun xv s₁ h₁ => ?_) fun _ _ e => e)) (fun _ s' hq => wpAny_pure (wpAny_pure hq)) fun _ _ e => e)
  obtain ⟨X, t, news, rfl, hh, F, N, hsz, R⟩ := h₁
  refine pyIter_S fun o T W hst => ?_
  refine block_U (W A hh) hsz (fun i h st => by obtain ⟨o, e, _⟩ := st; exact ⟨o, e⟩) str_st hcell hkind hx hst (fun b hb => ?_)
    (F.keeps fun _ _ e => Heap.get?_push_of_some _ e) (N.grown fun _ _ e => Heap.get?_push_of_some _ e) (Nat.ne_of_lt F.ns.lt) (next_is_new F) (fun p hp => Nat.ne_of_lt (Heap.lt_size (N p hp).1)) trivial (R _ ⟨_, rfl⟩) ?_
  · rw [List.mem_singleton.mp hb]
    show s₁.heap.objs.size < (s₁.heap.push _).objs.size
    rw [Heap.size_push]; exact Nat.lt_succ_self _
  · intro D C h' tk m' ys news' F' N' o1 hn hC₀ hD₀ hCL hDL hCD offC fin
    show wpAny _ A (assign (.Name y py) env (.ref D)) _ _ _
    refine wpAny_assign_Name (wpAny_storeName_local hy F'.ns (fun h₂ hn₂ hs₂ => ?_) hp)
    have hL₀ : h₀.get? env.locals = none := Heap.get?_none_of_le F'.above
    have F₂ : Fr h₀ env.locals h₂ (fun z => if z = y then some (.ref D) else m z) := ⟨hn₂, fun b o e => hs₂.extBut b o (fun q => by rw [q, hL₀] at e; cases e) (F'.keep b o e), F'.above⟩
    refine ⟨m', hn.sameBut hs₂ hCL, fun h'' hs'' => fin D h'' _ (F₂.change hs'' hCL hC₀) (fun p hp => ?_) o1⟩
    have z : h₂.get? p.1 = some p.2 := hs₂.extBut _ _ (N' p hp).2.1 (N' p hp).1
    refine ⟨hs''.extBut _ _ ?_ z, (N' p hp).2⟩
    rcases List.mem_cons.mp hp with rfl | hp
    · exact Ne.symm hCD
    · exact offC p hp
end
end Mine
end
section
open PySem PySem.W PySem.Calls PyProof.Rows PyProof.V PySem.Spec
set_option Elab.async false
set_option maxRecDepth 100000
set_option linter.unusedVariables false
namespace Mine
noncomputable def namesD (b : Bool) : List (PyData × PyData) := (namesT b).map fun p => (.str (S [p.1]), .str (S p.2))
theorem NK.flat : ∀ {kvs : List KV} {tb : List (Nat × List Nat)}, NK kvs tb → FlatPairs PyData.str (kvs.map fun p => (p.1.1, p.2)) (tb.map fun p => (.str (S [p.1]), .str (S p.2)))
  | _, _, .nil => .nil
  | _, _, .cons _ _ _ h => .cons (Flat.str _ _) (NK.flat h)
theorem DX.tab {w : World} {h : Heap} {d : Addr} {kvs : List KV} {b : Bool} (x : DX w h d kvs) (hK : NK kvs (namesT b)) (hds : (d == sysModules) = false) : StrTab pg w h d (namesD b) :=
  ⟨hds, _, x.dictOf, hK.flat⟩
theorem look_no {c : Nat} : ∀ {tb : List (Nat × List Nat)}, (∀ p ∈ tb, p.1 ≠ c) → Spec.lookup (.str (S [c])) (tb.map fun p => (.str (S [p.1]), .str (S p.2))) = none
  | [], _ => rfl
  | p :: tb, h => by
    have hne : Spec.same (.str (S [p.1])) (.str (S [c])) = false := by
      rw [PyProof.V.same_str]
      exact decide_eq_false fun e => h p (by simp) (by have := S_inj e; simpa using this)
    show (if Spec.same (.str (S [p.1])) (.str (S [c])) = true then _ else _) = _
    rw [hne, if_neg Bool.false_ne_true]
    exact look_no fun q hq => h q (List.mem_cons_of_mem _ hq)
theorem look_esc (b : Bool) (c : Nat) : (Spec.lookup (.str (S [c])) (namesD b)).getD (.str (S [c])) = .str (S (esc b c)) := by
  by_cases h1 : c = 38
  · subst h1; cases b <;> rfl
  by_cases h2 : c = 60
  · subst h2; cases b <;> rfl
  by_cases h3 : c = 34
  · subst h3; cases b <;> rfl
  by_cases h4 : c = 9
  · subst h4; cases b <;> rfl
  by_cases h5 : c = 10
  · subst h5; cases b <;> rfl
  by_cases h6 : c = 13
  · subst h6; cases b <;> rfl
  by_cases h7 : c = 62
  · subst h7; cases b <;> rfl
  have hno : Spec.lookup (.str (S [c])) (namesD b) = none := by
    apply look_no
    intro p hp e
    have key : ∀ b : Bool, ∀ p ∈ namesT b, p.1 = 38 ∨ p.1 = 60 ∨ p.1 = 34 ∨ p.1 = 9 ∨ p.1 = 10 ∨ p.1 = 13 ∨ p.1 = 62 := by decide
    rcases key b p hp with h | h | h | h | h | h | h
    · exact h1 (e.symm.trans h)
    · exact h2 (e.symm.trans h)
    · exact h3 (e.symm.trans h)
    · exact h4 (e.symm.trans h)
    · exact h5 (e.symm.trans h)
    · exact h6 (e.symm.trans h)
    · exact h7 (e.symm.trans h)
  rw [hno]
  simp [esc, h1, h2, h3, h4, h5, h6, h7]
theorem get_esc {w : World} {A : Around} {E : Value → Shared → Prop} {s : Shared} {d : Addr} {kvs : List KV} {b : Bool} {c : Nat} {t u : Tok} {Q : Value → Shared → Prop} (hD : DX w s.heap d kvs) (hK : NK kvs (namesT b)) (hds : (d == sysModules) = false)
    (h : ∀ tk, Q (.str (S (esc b c)) tk) { s with toks := s.toks + 1 }) : wpAny (model pg w) A (call (.builtin "dict.get") [.ref d, .str (S [c]) t, .str (S [c]) u]) Q E s :=
  call_get2_strTab (hD.tab hK hds) (Flat.str _ _) fun v hv => by
    rw [look_esc] at hv
    obtain ⟨tk, rfl⟩ := Flat.str_inv hv
    exact h tk
theorem gm_get {w : World} {A : Around} {E : Value → Shared → Prop} {s : Shared} {d : Addr} {kvs : List KV} {b : Bool} {pl : Sem Bool} {Q : Value × List Value → Shared → Prop} (hD : DX w s.heap d kvs) (hK : NK kvs (namesT b)) (hds : (d == sysModules) = false)
    (h : Q (.builtin "dict.get", [.ref d]) s) : wpAny (model pg w) A (getMethod (.ref d) (Str.ofString "get") pl) Q E s := getMethod_strTab_get (hD.tab hK hds) h
/-- a list of texts -/
inductive TextsAre : List Value → List (List Nat) → Prop
  | nil : TextsAre [] []
  | cons (x : List Nat) (t : Tok) {vs : List Value} {xs : List (List Nat)} : TextsAre vs xs → TextsAre (.str (S x) t :: vs) (x :: xs)
theorem TextsAre.snoc : ∀ {vs : List Value} {xs : List (List Nat)} (x : List Nat) (t : Tok), TextsAre vs xs → TextsAre (vs ++ [.str (S x) t]) (xs ++ [x])
  | _, _, x, t, .nil => .cons x t .nil
  | _, _, x, t, .cons a b h => .cons a b (h.snoc x t)
theorem TextsAre.at : ∀ {vs : List Value} {xs : List (List Nat)} {i : Nat} {x : List Nat}, TextsAre vs xs → xs[i]? = some x → ∃ t, vs[i]? = some (.str (S x) t)
  | _, _, i, x, .nil, h => by simp at h
  | _, _, 0, x, .cons y t _, h => by
    simp at h
    exact ⟨t, by rw [h]; rfl⟩
  | _, _, i + 1, x, .cons y t r, h => by
    have := r.at (i := i) (by simpa using h)
    simpa using this
theorem TextsAre.len : ∀ {vs : List Value} {xs : List (List Nat)}, TextsAre vs xs → vs.length = xs.length
  | _, _, .nil => rfl
  | _, _, .cons _ _ h => by simp [h.len]
theorem TextsAre.strs : ∀ {vs : List Value} {xs : List (List Nat)}, TextsAre vs xs → StrsAre vs (xs.map S)
  | _, _, .nil => .nil
  | _, _, .cons _ _ h => .cons _ _ h.strs
theorem TextsAre.set : ∀ {vs : List Value} {xs : List (List Nat)} (i : Nat) (x : List Nat) (t : Tok), TextsAre vs xs → TextsAre (vs.set i (.str (S x) t)) (xs.set i x)
  | _, _, _, _, _, .nil => .nil
  | _, _, 0, x, t, .cons _ _ h => .cons x t h
  | _, _, i + 1, x, t, .cons y u h => .cons y u (h.set i x t)
end Mine
end
section
open PySem PySem.W PySem.Calls PyProof.Rows PySem.Spec
set_option Elab.async false
set_option maxRecDepth 100000
set_option linter.unusedVariables false
namespace Mine
section
variable {prog : Program} {w : World} {A : Around} {E : Value → Shared → Prop} {s : Shared} {h₀ : Heap} {L : Addr} {m : PySem.Str → Option Value} {news : List (Addr × Obj)}
theorem isl {l : Addr} {vs : Array Value} {n : Nat} (N : News h₀ L s.heap news) (hm : (l, listOf vs n) ∈ news) : s.heap.IsList l vs := ⟨_, (N _ hm).1, rfl, n, rfl⟩
theorem sub_nn {value slice : PySem.Expr} {l : Addr} {vs : Array Value} {k : Int} {u : Tok} {v : Value} {Q : Value → Shared → Prop} (hl : s.heap.IsList l vs) (h0 : 0 ≤ k) (hfit : k < 2 ^ 63) (hx : vs[k.toNat]? = some v) (h : Q v s)
    (hs : subscripted slice false (.ref l) (.int k u) = operate [.ref l, .int k u] (getItem (.ref l) (.int k u)) := by with_unfolding_all rfl) :
    wpAny (model prog w) A (subscriptTail value slice (.ref l) (.int k u)) Q E s :=
  tail_any hl.typeIs slot_list_getitem.lookup (wpAny_getItem_list hl h0 hfit hx h) hs
theorem sub_last {value slice : PySem.Expr} {l : Addr} {vs : Array Value} {u : Tok} {v : Value} {Q : Value → Shared → Prop} (hl : s.heap.IsList l vs) (hx : vs.toList.getLast? = some v) (h : Q v s)
    (hs : subscripted slice false (.ref l) (.int (-1) u) = operate [.ref l, .int (-1) u] (getItem (.ref l) (.int (-1) u)) := by with_unfolding_all rfl) :
    wpAny (model prog w) A (subscriptTail value slice (.ref l) (.int (-1) u)) Q E s := by
  have hne : vs.toList ≠ [] := by intro e; rw [e] at hx; cases hx
  have hsz : 0 < vs.size := by
    rw [← Array.length_toList]; exact List.length_pos_iff.mpr hne
  refine tail_any hl.typeIs slot_list_getitem.lookup (wpAny_getItem_list_neg hl (by decide) (by omega) (by decide) ?_ h) hs
  have e : (-1 + (vs.size : Int)).toNat = vs.size - 1 := by omega
  rw [e, ← Array.getElem?_toList, ← Array.length_toList, ← List.getLast?_eq_getElem?]
  exact hx
theorem set_nn {l : Addr} {vs : Array Value} {n : Nat} {k : Int} {t : Tok} {v : Value} {Q : Unit → Shared → Prop} (F : Fr h₀ L s.heap m) (N : News h₀ L s.heap ((l, listOf vs n) :: news)) (hne : ∀ p ∈ news, p.1 ≠ l) (h0 : 0 ≤ k) (hfit : k < 2 ^ 63) (hn : k < vs.size)
    (h : ∀ h', Fr h₀ L h' m → News h₀ L h' ((l, listOf (vs.setIfInBounds k.toNat v) n) :: news) → Q () { s with heap := h' }) :
    wpAny (model prog w) A (setItem (.ref l) (.int k t) v) Q E s := by
  have z := N _ (List.Mem.head _)
  refine ki_setAt z.1 h0 hfit (by omega) (h _ (F.change (Heap.SameBut.update ..) z.2.1 z.2.2) ?_)
  intro p hp
  rcases List.mem_cons.mp hp with rfl | hp
  · exact ⟨by rw [Heap.get?_update_self _ z.1 rfl]; simp [Obj.mapSeq, W.listOf], z.2⟩
  · have := N p (List.mem_cons_of_mem _ hp)
    exact ⟨(Heap.SameBut.update ..).extBut _ _ (hne p hp) this.1, this.2⟩
theorem slice_in {value slice : PySem.Expr} {l : Addr} {items : Array Value} {ns : List Int} {a b : Nat} {n : Nat} {x y : Int} {ta tb : Tok} {Q : Value → Shared → Prop} (F : Fr h₀ L s.heap m) (N : News h₀ L s.heap news) (hm : (l, listOf items n) ∈ news) (hI : IntsAre items.toList ns) (hx : x = (a : Int)) (hy : y = (b : Int)) (hb : b ≤ ns.length)
    (h : ∀ D h' ws k, Fr h₀ L h' m → News h₀ L h' ((D, listOf ws k) :: news) → IntsAre ws.toList ((ns.drop a).take (b - a)) → (∀ p ∈ news, p.1 ≠ D) → Q (.ref D) { s with heap := h' })
    (hs : subscripted slice false (.ref l) (.ref s.heap.objs.size) = operate [.ref s.heap.objs.size, .ref l] (getItem (.ref l) (.ref s.heap.objs.size)))
    (ht : ∀ r, letTemporaryGo value (.ref l) r = pure ())
    (hsz : ns.length ≤ sizeLine) :
    wpAny (model prog w) A (subscriptTail value slice (.ref l) (.ref s.heap.objs.size)) Q E { s with heap := s.heap.push { cls := .type "slice", data := .fields #[.int x ta, .int y tb, .none] } } := by
  subst hx hy
  refine slice_list F N (isl N hm) (.int _ _) (.int _ _) (fun h' F' N' => h _ h' _ _ F' N' ?_ ?_) hs ht (by rw [← Array.length_toList, hI.length]; exact hsz)
  · have := kmk_run (x := (a : Int)) (y := (b : Int)) hI (by omega) (by omega)
    rw [Array.toArray_toList] at this
    simpa [Nat.min_eq_left hb] using this
  · intro p hp e
    have h1 := Heap.lt_size (N p hp).1
    rw [e] at h1
    exact absurd h1 (Nat.not_lt_of_le (Nat.le_succ _))
theorem ints_get : ∀ {vs : List Value} {ns : List Int} {i : Nat} {n : Int}, IntsAre vs ns → ns[i]? = some n → ∃ t, vs[i]? = some (.int n t)
  | _, _, i, v, .nil, h => by simp at h
  | _, _, 0, v, .cons n t _, h => by
    simp at h
    exact ⟨t, by rw [h]; rfl⟩
  | _, _, i + 1, v, .cons n t r, h => by
    have := ints_get r (i := i) (by simpa using h)
    simpa using this
theorem ints_last {vs : List Value} {ns : List Int} {n : Int} (h : IntsAre vs ns) (hn : ns.getLast? = some n) : ∃ t, vs.getLast? = some (.int n t) := by
  rw [List.getLast?_eq_getElem?] at hn ⊢
  rw [h.length]
  exact ints_get h hn
end
end Mine
end
section
open PySem PySem.W PySem.Calls PyProof.Rows PySem.Spec
set_option Elab.async false
set_option maxRecDepth 100000
set_option linter.unusedVariables false
namespace Mine
section
variable {prog : Program} {w : World} {A : Around} {s : Shared} {env : Env} {h₀ : Heap} {x : PySem.Str} {px : Pos} {body : List PySem.Stmt} {Q : Flow → Shared → Prop}
/-- a loop over range(n); at the start of each turn the count of tokens is above 0 -/
theorem rangeT {r : Addr} {n : Nat} {b₀ : Int} {t₀ u₀ v₀ : Tok} {m₀ : PySem.Str → Option Value} {news : List (Addr × Obj)} (J : Nat → (PySem.Str → Option Value) → List (Addr × Obj) → Prop)
    (hx : env.kindOf x = some .local) (hp : (env.scope.kind == .class || (env.scope.kind == .module && env.locals != env.globals)) = false)
    (hh : A.handled = none) (hr : IsRange s.heap r 0 b₀ 1 t₀ u₀ v₀) (hsmall : Builtin.Range.small 0 b₀ 1 = true) (hn : Builtin.Range.rangeSize 0 b₀ 1 = (n : Int)) (F : Fr h₀ env.locals s.heap m₀) (N : News h₀ env.locals s.heap news) (hj : J 0 m₀ news)
    (turn : ∀ (i : Nat) t m₁ news₁ h tk own, 0 < tk → i < n → news₁.map (·.1) = news.map (·.1) → OwnOff own (news.map (·.1)) → J i m₁ news₁ → Fr h₀ env.locals h (fun y => if y = x then some (.int (i : Nat) t) else m₁ y) → News h₀ env.locals h (news₁ ++ own) →
      wpAny (model prog w) A (execs body env) (InvPostN h₀ env.locals (J (i + 1)) own (news.map (·.1)) { s with heap := h, toks := tk } NoF) No { s with heap := h, toks := tk })
    (done : ∀ m₁ news₁ h tk, J n m₁ news₁ → Fr h₀ env.locals h m₁ → News h₀ env.locals h news₁ → Q .next { s with heap := h, toks := tk }) :
    wpAny (model prog w) A (pyIter (.ref r)) (fun it s₂ => codeAny (model prog w) A (.forLoop (.Name x px) it body [] env) (fun rr s' => match rr with | .ok f => Q f s' | .error e => cameBackBy (model prog w) A env No e s') s₂) No s := by
  refine wpAny_pyIter_range hr hsmall ?_
  rw [hn]
  let it : Nat → Obj := fun i => { cls := .type "range_iterator", dict := none, data := .fields #[rawInt ((i : Nat) : Int), rawInt ((n : Int) - (i : Nat)), rawInt 1], slots := #[] }
  have hI0 : h₀.get? s.heap.objs.size = none := next_is_new F
  have hIL : s.heap.objs.size ≠ env.locals := fun e => absurd F.ns.lt (e ▸ Nat.lt_irrefl _)
  have hIn : ∀ q ∈ news, q.1 ≠ s.heap.objs.size := fun q hq => Nat.ne_of_lt (Heap.lt_size (N q hq).1)
  generalize hIe : s.heap.objs.size = I at *
  refine codeAny_forLoop
    (fun k s' => ∃ h' tk m' news' i, s' = { s with heap := h', toks := tk } ∧ Fr h₀ env.locals h' m' ∧ News h₀ env.locals h' (news' ++ [(I, it i)]) ∧ news'.map (·.1) = news.map (·.1) ∧ J i m' news' ∧ i ≤ n ∧ k = n + 1 - i) ?_ (n + 1)
    ⟨_, s.toks, m₀, news, 0, rfl, F.push _, ?_, rfl, hj, Nat.zero_le _, rfl⟩
  · rintro k s' ⟨h', tk, m', news', i, rfl, F', N', ha, hJ, hi, rfl⟩
    have hit : IsRangeIter h' I ((i : Nat) : Int) ((n : Int) - (i : Nat)) 1 := (N' (I, it i) (List.mem_append_right _ (.head _))).1
    have hin : ∀ q ∈ news', q.1 ≠ I := fun q hq e => by
      have h1 : q.1 ∈ news'.map (·.1) := List.mem_map.mpr ⟨q, hq, rfl⟩
      rw [ha] at h1
      obtain ⟨q', hq', e'⟩ := List.mem_map.mp h1
      exact hIn q' hq' (e'.trans e)
    by_cases hlt : i < n
    · refine wpAny_pyNext_range_item hit (by omega) fun h₁ hit₁ hs₁ => ?_
      have F₁ : Fr h₀ env.locals h₁ m' := F'.change hs₁ hIL hI0
      have N₁ : News h₀ env.locals h₁ (news' ++ [(I, it (i + 1))]) := by
        intro p hp
        rcases List.mem_append.mp hp with hp | hp
        · have := N' p (List.mem_append_left _ hp)
          exact ⟨(hs₁.2 _ (hin p hp)).trans this.1, this.2⟩
        · rw [List.mem_singleton.mp hp]
          refine ⟨?_, hIL, hI0⟩
          have e1 : ((i : Nat) : Int) + 1 = ((i + 1 : Nat) : Int) := by omega
          have e2 : (n : Int) - (i : Nat) - 1 = (n : Int) - ((i + 1 : Nat) : Int) := by omega
          rw [e1, e2] at hit₁
          exact hit₁
      refine wpAny_assign_Name (wpAny_storeName_local hx F₁.ns (fun h₂ hn₂ hs₂ => ?_) hp)
      have F₂ := F₁.set hn₂ hs₂
      have N₂ : News h₀ env.locals h₂ (news' ++ [(I, it (i + 1))]) := N₁.set hs₂
      have hoff : OwnOff [(I, it (i + 1))] (news.map (·.1)) := by
        intro p hp b hb e
        rw [List.mem_singleton.mp hp] at e
        obtain ⟨q, hq, e'⟩ := List.mem_map.mp hb
        exact hIn q hq (e'.trans e.symm)
      refine wpAny_mono (turn i _ m' news' h₂ _ [(I, it (i + 1))] (Nat.succ_pos _) hlt ha hoff hJ F₂ N₂) (fun f s₃ h₃ => ?_) fun _ _ e => e.elim
      have fin : InvEndN h₀ env.locals (J (i + 1)) [(I, it (i + 1))] (news.map (·.1)) { s with heap := h₂, toks := tk + 1 + 1 } s₃ → ∃ mm, mm < n + 1 - i ∧ ∃ h' tk m' news' i, s₃ = { s with heap := h', toks := tk } ∧ Fr h₀ env.locals h' m' ∧ News h₀ env.locals h' (news' ++ [(I, it i)]) ∧ news'.map (·.1) = news.map (·.1) ∧ J i m' news' ∧ i ≤ n ∧ mm = n + 1 - i := by
        rintro ⟨h', tk', m'', news'', nx, rfl, F3, N3, hnx, hown, hadr, hJ3⟩
        refine ⟨n + 1 - (i + 1), by omega, h', tk', m'', nx, i + 1, rfl, F3, ?_, hadr, hJ3, hlt, rfl⟩
        intro p hp
        rcases List.mem_append.mp hp with hp | hp
        · exact N3 p (hnx p hp)
        · exact N3 p (hown p hp)
      cases f with
      | ret v => exact h₃.elim
      | brk => exact h₃.elim
      | next => exact fin h₃
      | cont => exact fin h₃
    · have hin' : i = n := by omega
      subst hin'
      refine wpAny_pyNext_range_end hh hit (by omega) fun h₁ he₁ => wpAny_execs_nil ?_
      have N0 : News h₀ env.locals h' news' := newsSub N' (fun p hp => List.mem_append_left _ hp)
      refine done m' news' h₁ _ hJ ⟨F'.ns.at' fun o e => he₁ _ _ hIL.symm e, fun b o e => he₁ b o (fun q => by rw [q, hI0] at e; cases e) (F'.keep b o e), F'.above⟩ (fun p hp => ⟨he₁ _ _ (hin p hp) (N0 p hp).1, (N0 p hp).2⟩)
  · intro p hp
    rcases List.mem_append.mp hp with hp | hp
    · exact ⟨Heap.get?_push_of_some _ (N p hp).1, (N p hp).2⟩
    · rw [List.mem_singleton.mp hp]
      refine ⟨?_, hIL, hI0⟩
      rw [← hIe]
      exact (Heap.get?_push_size _ rfl)
end
end Mine
end
section
open PySem PySem.W PySem.Calls PyProof.Rows PySem.Spec
set_option Elab.async false
set_option maxRecDepth 100000
set_option linter.unusedVariables false
namespace Mine
theorem texts_of : ∀ {l : List (PySem.Str × Tok)} {xs : List (List Nat)}, l.map (·.1) = xs.map S → TextsAre (strValues l) xs
  | [], [], _ => .nil
  | [], x :: xs, h => by simp at h
  | p :: l, [], h => by simp at h
  | p :: l, x :: xs, h => by
    simp only [List.map_cons, List.cons.injEq] at h
    have e : strValues (p :: l) = .str p.1 p.2 :: strValues l := rfl
    rw [e, h.1]
    exact .cons x p.2 (texts_of h.2)
theorem TextsAre.dropLast : ∀ {vs : List Value} {xs : List (List Nat)}, TextsAre vs xs → TextsAre vs.dropLast xs.dropLast
  | _, _, .nil => .nil
  | _, _, .cons x t .nil => .nil
  | _, _, .cons x t (.cons y u h) => .cons x t (TextsAre.dropLast (.cons y u h))
theorem TextsAre.last {vs : List Value} {xs : List (List Nat)} {x : List Nat} (h : TextsAre vs xs) (hx : xs.getLast? = some x) : ∃ t, vs.getLast? = some (.str (S x) t) := by
  rw [List.getLast?_eq_getElem?] at hx ⊢
  rw [h.len]
  exact h.at hx
theorem TextsAre.is : ∀ {vs : List Value} {xs : List (List Nat)} {i : Nat} {v : Value}, TextsAre vs xs → vs[i]? = some v → ∃ x t, v = .str (S x) t ∧ xs[i]? = some x
  | _, _, i, v, .nil, h => by simp at h
  | _, _, 0, v, .cons x t _, h => by
    simp at h
    exact ⟨x, t, h.symm, rfl⟩
  | _, _, i + 1, v, .cons x t r, h => by
    have := r.is (i := i) (by simpa using h)
    simpa using this
section
variable {prog : Program} {w : World} {A : Around} {E : Value → Shared → Prop} {s : Shared} {h₀ : Heap} {L : Addr} {m : PySem.Str → Option Value} {news : List (Addr × Obj)}
theorem split_in {y : List Nat} {t u : Tok} {sep : PySem.Str} {Q : Value → Shared → Prop} (F : Fr h₀ L s.heap m) (N : News h₀ L s.heap news) (he : sep = S [10]) (hy : y.length ≤ 1000)
    (h : ∀ D h' ws n k, Fr h₀ L h' m → News h₀ L h' ((D, listOf ws n) :: news) → TextsAre ws.toList (splitNl y) → (∀ p ∈ news, p.1 ≠ D) → Q (.ref D) { s with heap := h', toks := k }) :
    wpAny (model prog w) A (call (.builtin "str.split") [.str (S y) t, .str sep u]) Q E s := by
  subst he
  refine splitN1A F N (by decide +kernel) (fun l h' k e _ _ _ F' N' => h _ h' _ _ k F' N' (by rw [split_S] at e; exact texts_of e) fun p hp e => ?_) (by rw [S_len]; unfold sizeLine; omega)
  have h1 := Heap.lt_size (N p hp).1
  rw [e] at h1
  exact absurd h1 (Nat.lt_irrefl _)
theorem slice_init {value slice : PySem.Expr} {l : Addr} {items : Array Value} {xs : List (List Nat)} {n : Nat} {tb : Tok} {Q : Value → Shared → Prop} (F : Fr h₀ L s.heap m) (N : News h₀ L s.heap news) (hm : (l, listOf items n) ∈ news) (hI : TextsAre items.toList xs)
    (h : ∀ D h' ws k, Fr h₀ L h' m → News h₀ L h' ((D, listOf ws k) :: news) → TextsAre ws.toList xs.dropLast → (∀ p ∈ news, p.1 ≠ D) → Q (.ref D) { s with heap := h' })
    (hs : subscripted slice false (.ref l) (.ref s.heap.objs.size) = operate [.ref s.heap.objs.size, .ref l] (getItem (.ref l) (.ref s.heap.objs.size)))
    (ht : ∀ r, letTemporaryGo value (.ref l) r = pure ())
    (hsz : xs.length ≤ sizeLine) :
    wpAny (model prog w) A (subscriptTail value slice (.ref l) (.ref s.heap.objs.size)) Q E { s with heap := s.heap.push { cls := .type "slice", data := .fields #[.none, .int (-1) tb, .none] } } := by
  refine slice_list F N (isl N hm) .none (.int _ _) (fun h' F' N' => h _ h' _ _ F' N' ?_ ?_) hs ht (by rw [← Array.length_toList, hI.len]; exact hsz)
  · have e : sliceBounds none (some (-1)) none items.size = (((0 : Nat) : Int), ((items.size - 1 : Nat) : Int), 1) := by
      simp only [sliceBounds, Option.getD_none, show (1 : Int) > 0 by decide, if_true, show ((-1 : Int) < 0) by decide]
      congr 1
      congr 1
      omega
    rw [kmk_pick_nat _ e]
    have e2 : (List.take (items.size - 1 - 0) (List.drop 0 items.toList)) = items.toList.dropLast := by
      rw [List.drop_zero, List.dropLast_eq_take, Array.length_toList, Nat.sub_zero]
    rw [e2]
    exact hI.dropLast
  · intro p hp e
    have h1 := Heap.lt_size (N p hp).1
    rw [e] at h1
    exact absurd h1 (Nat.not_lt_of_le (Nat.le_succ _))
end
theorem splitNl_len : ∀ x : List Nat, (splitNl x).length ≤ x.length + 1 ∧ ∀ p ∈ splitNl x, p.length ≤ x.length
  | [] => by simp [splitNl]
  | c :: l => by
    have ih := splitNl_len l
    unfold splitNl
    split
    · refine ⟨by simp; exact ih.1, ?_⟩
      intro p hp
      rcases List.mem_cons.mp hp with rfl | hp
      · simp
      · have := ih.2 p hp; simp; omega
    · split
      · refine ⟨by simp, ?_⟩
        intro p hp
        rw [List.mem_singleton.mp hp]
        simp
      · next r rs e =>
        rw [e] at ih
        refine ⟨by simp at ih ⊢; omega, ?_⟩
        intro p hp
        rcases List.mem_cons.mp hp with rfl | hp
        · have := ih.2 r (by simp); simp; omega
        · have := ih.2 p (by simp [hp]); simp; omega
end Mine
end
section
open PySem PySem.W PySem.Calls PyProof.Rows
set_option Elab.async false
set_option maxRecDepth 100000
set_option maxHeartbeats 0
set_option linter.unusedVariables false
namespace Mine
theorem join0 : ∀ R : List (List Nat), Txt.join (Str.ofString "") (R.map S) = S R.flatten := by
  have key : ∀ R : List (List Nat), Str.join (S []) (R.map S) = S R.flatten := by
    intro R
    induction R with
    | nil => rfl
    | cons a R ih =>
      cases R with
      | nil => show S a = _; simp
      | cons b R =>
        show S a ++ S [] ++ Str.join (S []) ((b :: R).map S) = _
        rw [ih, S_app, S_app]
        simp
  intro R
  rw [S_emp]
  show Builtin.Str.glued _ _ = _
  rw [PySem.StrLaws.glued_eq_join]
  exact key R
theorem newsAdd {h₀ h h' : Heap} {L r : Addr} {m : PySem.Str → Option Value} {news : List (Addr × Obj)} {o : Obj} (F : Fr h₀ L h m) (N : News h₀ L h news) (e : Ext h h') (hr : h'.get? r = some o) (hn : h.get? r = none) : News h₀ L h' ((r, o) :: news) := by
  intro p hp
  rcases List.mem_cons.mp hp with rfl | hp
  · refine ⟨hr, ?_, ?_⟩
    · intro q
      obtain ⟨oL, es, ep, ho, _⟩ := F.ns
      rw [show r = L from q, ho] at hn
      cases hn
    · cases q : h₀.get? r with
      | none => rfl
      | some o' => rw [F.keep r o' q] at hn; cases hn
  · exact newsExt N e p hp
theorem newsNe {h₀ h : Heap} {L r : Addr} {news : List (Addr × Obj)} (N : News h₀ L h news) (hn : h.get? r = none) : ∀ p ∈ news, p.1 ≠ r := by
  intro p hp q
  have := (N p hp).1
  rw [q, hn] at this
  cases this
theorem maxI_ge : ∀ (l : List Int) (a : Int), a ≤ maxI a l ∧ (∀ b ∈ l, b ≤ maxI a l) ∧ (maxI a l = a ∨ maxI a l ∈ l)
  | [], a => ⟨Int.le_refl _, by simp, Or.inl rfl⟩
  | c :: l, a => by
    have ih := maxI_ge l (if a < c then c else a)
    show a ≤ maxI (if a < c then c else a) l ∧ _
    refine ⟨?_, ?_, ?_⟩
    · have := ih.1
      split at this <;> omega
    · intro b hb
      rcases List.mem_cons.mp hb with rfl | hb
      · have := ih.1
        show b ≤ maxI (if a < b then b else a) l
        split at this <;> split <;> omega
      · exact ih.2.1 b hb
    · show maxI (if a < c then c else a) l = a ∨ maxI (if a < c then c else a) l ∈ c :: l
      rcases ih.2.2 with h | h
      · rw [h]
        split
        · exact Or.inr (by simp)
        · exact Or.inl rfl
      · exact Or.inr (List.mem_cons_of_mem _ h)
theorem maxI_is {l : List Int} {M : Int} (h1 : M ∈ l ++ [0]) (h2 : ∀ a ∈ l ++ [0], a ≤ M) : M = maxI 0 l := by
  obtain ⟨g1, g2, g3⟩ := maxI_ge l 0
  have e1 : maxI 0 l ≤ M := by
    rcases g3 with h | h
    · rw [h]; exact h2 0 (by simp)
    · exact h2 _ (by simp [h])
  have e2 : M ≤ maxI 0 l := by
    rcases List.mem_append.mp h1 with h | h
    · exact g2 M h
    · rw [List.mem_singleton.mp h]; exact g1
  omega
theorem rowsGo_le (m : Int) : ∀ (l : List Int) (row room left : Int) (rest : Bool), (rowsGo m l row room left rest).length = l.length ∧ ∀ r ∈ rowsGo m l row room left rest, row ≤ r ∧ r ≤ row + l.length
  | [], _, _, _, _ => by simp [rowsGo]
  | s :: l, row, room, left, rest => by
    by_cases h : rest = false ∧ room < s
    · rw [rowsGo_new h]
      have ih := rowsGo_le m l (row + 1) (m - 1 - s) (left - s) (decide (left ≤ m))
      refine ⟨by simp [ih.1], ?_⟩
      intro r hr
      rcases List.mem_cons.mp hr with rfl | hr
      · simp; omega
      · have := ih.2 r hr; simp; omega
    · rw [rowsGo_keep h]
      have ih := rowsGo_le m l row (room - s) (left - s) rest
      refine ⟨by simp [ih.1], ?_⟩
      intro r hr
      rcases List.mem_cons.mp hr with rfl | hr
      · simp; omega
      · have := ih.2 r hr; simp; omega
theorem lawRows_facts (m : Int) (W : List Nat) : (lawRows m W).length = W.length ∧ ∀ r ∈ lawRows m W, 0 ≤ r ∧ r ≤ W.length := by
  have := rowsGo_le m (W.map sz) 0 (m - 1) (sumI (W.map sz)) (decide (sumI (W.map sz) ≤ m))
  refine ⟨by simpa [lawRows] using this.1, ?_⟩
  intro r hr
  have := this.2 r hr
  simp at this
  omega
theorem rng : ∀ k : _root_.Fin 100, Builtin.Range.small 0 ((k.1 : Int) + 1) 1 = true ∧ Builtin.Range.rangeSize 0 ((k.1 : Int) + 1) 1 = ((k.1 + 1 : Nat) : Int) := by decide +kernel
theorem rngN : ∀ k : _root_.Fin 100, Builtin.Range.small 0 (k.1 : Int) 1 = true ∧ Builtin.Range.rangeSize 0 (k.1 : Int) 1 = ((k.1 : Nat) : Int) := by decide +kernel
noncomputable def offAt (b : Bool) (text : List Nat) (i : Nat) : Nat := ((text.take i).map (esc b)).flatten.length
theorem offAt_succ {b : Bool} {text : List Nat} {i c : Nat} (h : text[i]? = some c) : offAt b text (i + 1) = offAt b text i + (esc b c).length := by
  unfold offAt
  rw [List.take_add_one, h]
  simp
theorem offAt_le (b : Bool) (text : List Nat) (i : Nat) : offAt b text i ≤ (escL b text).length := by
  have e : escL b text = ((text.take i).map (esc b)).flatten ++ ((text.drop i).map (esc b)).flatten := by
    unfold escL
    rw [List.flatMap_def, ← List.flatten_append, ← List.map_append, List.take_append_drop]
  rw [e, List.length_append]
  exact Nat.le_add_right _ _
theorem esc_pos (b : Bool) (c : Nat) : 0 < (esc b c).length := by
  unfold esc
  repeat' split
  all_goals first | decide | simp
noncomputable def JDue (b : Bool) (text : List Nat) (m kM : Nat) (LN R D cl : Addr) (m₀ : PySem.Str → Option Value) (rv : Array Value) (rn : Nat) (ys : List Value) (oc : Obj) (i : Nat) (mm : PySem.Str → Option Value) (nx : List (Addr × Obj)) : Prop :=
  ∃ (vs : Array Value) (nn : Nat) (lines : List (List Nat)) (t1 : Tok) (uk up ul uj : Option Value), nx = [(LN, listOf vs nn), (R, listOf rv rn), (D, LCg.lst ys), (cl, oc)] ∧ TextsAre vs.toList lines ∧ lines.length = kM + 1 ∧ (∀ l ∈ lines, l.length ≤ offAt b text i) ∧
    (∀ z, mm z = bmo m₀ [("k", uk), ("j", uj), ("places", ul), ("piece", up), ("at", some (.int (offAt b text i : Nat) t1))] z) ∧
    layGo b lines (text.drop i) ((lawRows (m : Int) (escL b text)).drop (offAt b text i)) = linesAt b m text
theorem JDue.elim {b : Bool} {text : List Nat} {m kM : Nat} {LN R D cl : Addr} {m₀ : PySem.Str → Option Value} {rv : Array Value} {rn : Nat} {ys : List Value} {oc : Obj} {i : Nat} {mm : PySem.Str → Option Value} {nx : List (Addr × Obj)} {G : List (Addr × Obj) → Prop} (h : JDue b text m kM LN R D cl m₀ rv rn ys oc i mm nx)
    (k : ∀ (vs : Array Value) (nn : Nat) (lines : List (List Nat)) (t1 : Tok) (uk up ul uj : Option Value), (TextsAre vs.toList lines) → (lines.length = kM + 1) → (∀ l ∈ lines, l.length ≤ offAt b text i) → (∀ z, mm z = bmo m₀ [("k", uk), ("j", uj), ("places", ul), ("piece", up), ("at", some (.int (offAt b text i : Nat) t1))] z) → (layGo b lines (text.drop i) ((lawRows (m : Int) (escL b text)).drop (offAt b text i)) = linesAt b m text) → G ([(LN, listOf vs nn), (R, listOf rv rn), (D, LCg.lst ys), (cl, oc)])) : G nx := by
  obtain ⟨vs, nn, lines, t1, uk, up, ul, uj, rfl, z0, z1, z2, z3, z4⟩ := h
  exact k vs nn lines t1 uk up ul uj z0 z1 z2 z3 z4
theorem addAt_len {lines : List (List Nat)} {r B c : Nat} (h : ∀ l ∈ lines, l.length ≤ B) : ∀ l ∈ addAt lines r [c], l.length ≤ B + 1 := by
  intro l hl
  rcases List.mem_or_eq_of_mem_set hl with hl | rfl
  · have := h l hl; omega
  · rw [List.length_append, List.getD_eq_getElem?_getD]
    cases e : lines[r]? with
    | none => simp
    | some x =>
      have := h x (List.mem_of_getElem? e)
      simp
      omega
theorem addAt_size {lines : List (List Nat)} {r c : Nat} : (addAt lines r [c]).length = lines.length := List.length_set ..
theorem addAt_texts {lines : List (List Nat)} {vs : Array Value} {r c : Nat} {lx : List Nat} {x : PySem.Str} {t : Tok} (h : TextsAre vs.toList lines) (hx : lines[r]? = some lx) (he : x = S (lx ++ [c])) : TextsAre (vs.setIfInBounds r (.str x t)).toList (addAt lines r [c]) := by
  subst he
  rw [Array.toList_setIfInBounds]
  unfold addAt
  rw [List.getD_eq_getElem?_getD, hx]
  exact h.set r _ t
theorem lay_step {b : Bool} {text : List Nat} {i c : Nat} {rows : List Int} {lines : List (List Nat)} (h : text[i]? = some c) :
    layGo b lines (text.drop i) (rows.drop (offAt b text i)) = layGo b (layOne lines c (esc b c) ((rows.drop (offAt b text i)).take (esc b c).length)) (text.drop (i + 1)) (rows.drop (offAt b text (i + 1))) := by
  obtain ⟨hlt, he⟩ := List.getElem?_eq_some_iff.mp h
  have e : rows.drop (offAt b text i + (esc b c).length) = (rows.drop (offAt b text i)).drop (esc b c).length := by rw [List.drop_drop]
  rw [offAt_succ h, e, List.drop_eq_getElem_cons hlt, he]
  rfl
theorem ed {b : Bool} {text : List Nat} {m kM i nn rn tk : Nat} {LN R D cl : Addr} {m₀ mm : PySem.Str → Option Value} {vs rv : Array Value} {ys : List Value} {oc o1 : Obj} {own : List (Addr × Obj)} {h₀ h : Heap} {L' : Addr} {s : Shared} {lines : List (List Nat)} {t1 : Tok} {uk up ul uj : Option Value}
    (F : Fr h₀ L' h mm) (N : News h₀ L' h ((LN, listOf vs nn) :: ([(R, listOf rv rn), (D, LCg.lst ys), (cl, oc)] ++ own))) (hvs : TextsAre vs.toList lines) (hll : lines.length = kM + 1) (hlb : ∀ l ∈ lines, l.length ≤ offAt b text (i + 1))
    (hm : ∀ z, mm z = bmo m₀ [("k", uk), ("j", uj), ("places", ul), ("piece", up), ("at", some (.int (offAt b text (i + 1) : Nat) t1))] z)
    (hgo : layGo b lines (text.drop (i + 1)) ((lawRows (m : Int) (escL b text)).drop (offAt b text (i + 1))) = linesAt b m text) :
    InvEndN h₀ L' (JDue b text m kM LN R D cl m₀ rv rn ys oc (i + 1)) own (List.map (fun x => x.fst) [(LN, o1), (R, listOf rv rn), (D, LCg.lst ys), (cl, oc)]) s { s with heap := h, toks := tk } :=
  InvEndN.intro F N (nx := [(LN, listOf vs nn), (R, listOf rv rn), (D, LCg.lst ys), (cl, oc)]) ⟨vs, nn, lines, t1, uk, up, ul, uj, rfl, hvs, hll, hlb, hm, hgo⟩ rfl (fun p hp => List.mem_append_left own hp) (fun p hp => List.mem_append_right [(LN, listOf vs nn), (R, listOf rv rn), (D, LCg.lst ys), (cl, oc)] hp)
noncomputable def JIn (piece : List Nat) (P : List Int) (goal : List (List Nat)) (a B n : Nat) (LN : Addr) (rest : List (Addr × Obj)) (nn : Nat) (m₀ : PySem.Str → Option Value) (j : Nat) (mm : PySem.Str → Option Value) (nx : List (Addr × Obj)) : Prop :=
  ∃ (vs : Array Value) (lines : List (List Nat)) (uj : Option Value) (ta : Tok), nx = (LN, listOf vs nn) :: rest ∧ TextsAre vs.toList lines ∧ lines.length = n ∧ (∀ l ∈ lines, l.length ≤ B + j) ∧ (∀ z, mm z = bmo m₀ [("j", uj), ("at", some (.int (a : Nat) ta))] z) ∧ addEach lines ((piece.zip P).drop j) = goal
theorem JIn.elim {piece : List Nat} {P : List Int} {goal : List (List Nat)} {a B n : Nat} {LN : Addr} {rest : List (Addr × Obj)} {nn : Nat} {m₀ : PySem.Str → Option Value} {j : Nat} {mm : PySem.Str → Option Value} {nx : List (Addr × Obj)} {G : List (Addr × Obj) → Prop} (h : JIn piece P goal a B n LN rest nn m₀ j mm nx)
    (k : ∀ (vs : Array Value) (lines : List (List Nat)) (uj : Option Value) (ta : Tok), (TextsAre vs.toList lines) → (lines.length = n) → ((∀ l ∈ lines, l.length ≤ B + j)) → ((∀ z, mm z = bmo m₀ [("j", uj), ("at", some (.int (a : Nat) ta))] z)) → (addEach lines ((piece.zip P).drop j) = goal) → G ((LN, listOf vs nn) :: rest)) : G nx := by
  obtain ⟨vs, lines, uj, ta, rfl, z0, z1, z2, z3, z4⟩ := h
  exact k vs lines uj ta z0 z1 z2 z3 z4
theorem edIn {piece : List Nat} {P : List Int} {goal : List (List Nat)} {a B n j nn tk : Nat} {ta : Tok} {LN : Addr} {rest own : List (Addr × Obj)} {m₀ mm : PySem.Str → Option Value} {vs : Array Value} {o1 : Obj} {h₀ h : Heap} {L' : Addr} {s : Shared} {lines : List (List Nat)} {uj : Option Value}
    (F : Fr h₀ L' h mm) (N : News h₀ L' h ((LN, listOf vs nn) :: (rest ++ own))) (hvs : TextsAre vs.toList lines) (hll : lines.length = n) (hlb : ∀ l ∈ lines, l.length ≤ B + (j + 1)) (hm : ∀ z, mm z = bmo m₀ [("j", uj), ("at", some (.int (a : Nat) ta))] z) (hgo : addEach lines ((piece.zip P).drop (j + 1)) = goal) :
    InvEndN h₀ L' (JIn piece P goal a B n LN rest nn m₀ (j + 1)) own (List.map (fun x => x.fst) ((LN, o1) :: rest)) s { s with heap := h, toks := tk } :=
  InvEndN.intro F N (nx := (LN, listOf vs nn) :: rest) ⟨vs, lines, uj, ta, rfl, hvs, hll, hlb, hm, hgo⟩ rfl (fun p hp => List.mem_append_left own hp) (fun p hp => List.mem_append_right ((LN, listOf vs nn) :: rest) hp)
theorem zip_drop {piece : List Nat} {P : List Int} {j c : Nat} {r : Int} (h1 : piece[j]? = some c) (h2 : P[j]? = some r) : (piece.zip P).drop j = (c, r) :: (piece.zip P).drop (j + 1) := by
  have e : (piece.zip P)[j]? = some (c, r) := by rw [List.getElem?_zip_eq_some]; exact ⟨h1, h2⟩
  obtain ⟨hlt, he⟩ := List.getElem?_eq_some_iff.mp e
  rw [List.drop_eq_getElem_cons hlt, he]
noncomputable def J2 (blank : Bool) (lines : List (List Nat)) (LN : Addr) (oL : Obj) (m₀ : PySem.Str → Option Value) (i : Nat) (mm : PySem.Str → Option Value) (nx : List (Addr × Obj)) : Prop :=
  ∃ (acc : List Nat) (ta : Tok) (uk upa upt : Option Value), nx = [(LN, oL)] ∧ (∀ z, mm z = bmo m₀ [("k", uk), ("part", upt), ("parts", upa), ("due", some (.str (S acc) ta))] z) ∧ acc.length ≤ 4000 * i ∧ acc ++ dueGo blank (lines.drop i) = dueGo blank lines
theorem J2.elim {blank : Bool} {lines : List (List Nat)} {LN : Addr} {oL : Obj} {m₀ : PySem.Str → Option Value} {i : Nat} {mm : PySem.Str → Option Value} {nx : List (Addr × Obj)} {G : List (Addr × Obj) → Prop} (h : J2 blank lines LN oL m₀ i mm nx)
    (k : ∀ (acc : List Nat) (ta : Tok) (uk upa upt : Option Value), ((∀ z, mm z = bmo m₀ [("k", uk), ("part", upt), ("parts", upa), ("due", some (.str (S acc) ta))] z)) → (acc.length ≤ 4000 * i) → (acc ++ dueGo blank (lines.drop i) = dueGo blank lines) → G ([(LN, oL)])) : G nx := by
  obtain ⟨acc, ta, uk, upa, upt, rfl, z0, z1, z2⟩ := h
  exact k acc ta uk upa upt z0 z1 z2
theorem keep_eq {lines : List (List Nat)} {i : Nat} {lx : List Nat} {blank : Bool} (hdr : lines.drop i = lx :: lines.drop (i + 1)) : dueGo blank (lx :: lines.drop (i + 1)) = dueLine (decide (i + 1 < lines.length) || blank) lx ++ dueGo blank (lines.drop (i + 1)) := by
  by_cases h : i + 1 < lines.length
  · have hne : lines.drop (i + 1) ≠ [] := by
      intro e
      have := congrArg List.length e
      rw [List.length_drop] at this
      simp at this
      omega
    cases e : lines.drop (i + 1) with
    | nil => exact absurd e hne
    | cons a r => simp only [dueGo, decide_eq_true h, Bool.true_or]
  · have e : lines.drop (i + 1) = [] := List.drop_eq_nil_of_le (by omega)
    rw [e, decide_eq_false h, Bool.false_or]
    show dueLine blank lx = dueLine blank lx ++ []
    rw [List.append_nil]
noncomputable def J3 (ps : List (List Nat)) (goal : List Nat) (B : Nat) (news : List (Addr × Obj)) (m₀ : PySem.Str → Option Value) (j : Nat) (mm : PySem.Str → Option Value) (nx : List (Addr × Obj)) : Prop :=
  ∃ (acc : List Nat) (ta : Tok) (upt : Option Value), nx = news ∧ (∀ z, mm z = bmo m₀ [("part", upt), ("due", some (.str (S acc) ta))] z) ∧ acc.length ≤ B + 60 * j ∧ acc ++ (ps.drop j).flatMap (fun p => rstripL bt p ++ [10]) = goal
theorem J3.elim {ps : List (List Nat)} {goal : List Nat} {B : Nat} {news : List (Addr × Obj)} {m₀ : PySem.Str → Option Value} {j : Nat} {mm : PySem.Str → Option Value} {nx : List (Addr × Obj)} {G : List (Addr × Obj) → Prop} (h : J3 ps goal B news m₀ j mm nx)
    (k : ∀ (acc : List Nat) (ta : Tok) (upt : Option Value), ((∀ z, mm z = bmo m₀ [("part", upt), ("due", some (.str (S acc) ta))] z)) → (acc.length ≤ B + 60 * j) → (acc ++ (ps.drop j).flatMap (fun p => rstripL bt p ++ [10]) = goal) → G (news)) : G nx := by
  obtain ⟨acc, ta, upt, rfl, z0, z1, z2⟩ := h
  exact k acc ta upt z0 z1 z2
theorem ed2 {blank : Bool} {lines : List (List Nat)} {LN PS : Addr} {oL oP : Obj} {m₀ mm : PySem.Str → Option Value} {i tk : Nat} {own : List (Addr × Obj)} {h₀ h : Heap} {L' : Addr} {s : Shared} {acc : List Nat} {ta : Tok} {uk upa upt : Option Value}
    (F : Fr h₀ L' h mm) (N : News h₀ L' h ((PS, oP) :: ((LN, oL) :: own))) (hm : ∀ z, mm z = bmo m₀ [("k", uk), ("part", upt), ("parts", upa), ("due", some (.str (S acc) ta))] z) (hl : acc.length ≤ 4000 * (i + 1)) (hgo : acc ++ dueGo blank (lines.drop (i + 1)) = dueGo blank lines) :
    InvEndN h₀ L' (J2 blank lines LN oL m₀ (i + 1)) own (List.map (fun x => x.fst) [(LN, oL)]) s { s with heap := h, toks := tk } :=
  InvEndN.intro F N (nx := [(LN, oL)]) ⟨acc, ta, uk, upa, upt, rfl, hm, hl, hgo⟩ rfl (fun p hp => by rw [List.mem_singleton.mp hp]; exact .tail _ (.head _)) (fun p hp => .tail _ (.tail _ hp))
theorem tail_sp (x : List Nat) : (Txt.slice (S x) (some (-1)) none == Str.ofString " ") = decide (x.getLast? = some 32) := by
  have e : Txt.slice (S x) (some (-1)) none = S (x.drop (x.length - 1)) := by
    by_cases hx : x = []
    · subst hx; decide +kernel
    · have hp : 0 < x.length := List.length_pos_iff.mpr hx
      have e0 : Builtin.Str.strSliceIndices (some (-1)) none 1 (S x).length = Builtin.Str.strSliceIndices (some ((x.length - 1 : Nat) : Int)) none 1 (S x).length := by
        rw [S_len]
        unfold Builtin.Str.strSliceIndices
        have a : (-1 : Int) < 0 := by omega
        have b : ¬ (((x.length - 1 : Nat) : Int) < 0) := by omega
        have c : (-1 : Int) + (x.length : Int) = ((x.length - 1 : Nat) : Int) := by omega
        simp only [a, b, if_true, if_false, c]
      have e1 : Txt.slice (S x) (some (-1)) none = Txt.slice (S x) (some ((x.length - 1 : Nat) : Int)) none := by
        unfold Txt.slice
        rw [e0]
      rw [e1, slice_from (Nat.sub_le _ _)]
  rw [e, show Str.ofString " " = S [32] from by decide +kernel, Bool.eq_iff_iff, beq_iff_eq, decide_eq_true_iff]
  rcases List.eq_nil_or_concat x with rfl | ⟨l, c, rfl⟩
  · constructor
    · intro h; exact absurd (S_inj h) (by simp)
    · intro h; cases h
  · have : (l ++ [c]).drop ((l ++ [c]).length - 1) = [c] := by simp
    rw [List.concat_eq_append, this]
    constructor
    · intro h; have := S_inj h; simpa using this
    · intro h
      have : c = 32 := by simpa using h
      rw [this]
theorem toksN' {α : Type} {M : Model} {A : Around} {s : Shared} {t : Sem α} {Q : α → Shared → Prop} {n : Nat} (hn : n ≤ s.toks) (h : wpAny M A t (fun a s' => n ≤ s'.toks → Q a s') No s) : wpAny M A t Q No s :=
  wpAny_with_toks hn (wpAny_mono h (fun _ _ x => x) (fun _ _ x => x.elim))
theorem texts_rep : ∀ n : Nat, List.replicate (n + 1) ([] : List Nat) = List.replicate n [] ++ [[]] := fun n => List.replicate_succ'
theorem bd {a i j k p : Nat} (h : a ≤ 4000 * i + 60 * j) (hi : i < k + 1) (hk : k ≤ 54) (hj : j ≤ 55) (hp : p ≤ 54) : a + p ≤ sizeLine ∧ a + p + 1 ≤ sizeLine := by
  unfold sizeLine
  omega
theorem le54 {p : Nat} (hp : p ≤ 54) : p ≤ sizeLine := by
  unfold sizeLine
  omega
theorem due_spec {w : World} {A : Around} {s : Shared} {Q : Value → Shared → Prop} {E : Value → Shared → Prop} {mean : ExcName → Option Value} {mg mb : Str → Option Value} {t u : Tok} {text : List Nat} {m : Nat} {d : Addr} {kvs : List KV} {b : Bool}
    (X : (hd.heap_1 w.params).In s.heap) (T : TopH mean mg mb s.heap) (hroom : A.depth + 8 < recursionLimit) (hun : A.units + 60 < cLine) (hh : A.handled = none) (hl : text.length ≤ 9) (hm4 : 4 ≤ m) (hm : m ≤ 23) (hpos : 0 < s.toks)
    (hD : DX w s.heap d kvs) (hK : NK kvs (namesT b)) (hds : (d == sysModules) = false) (hsg : ∀ c ∈ text, sign c = true)
    (h : ∀ h' tk tk', Ext s.heap h' → Q (.str (S (due b (m : Int) text)) tk) { s with heap := h', toks := tk' }) :
    wpAny (model pg w) A (call (.ref 110) [.str (S text) t, .ref d, .int (m : Nat) u]) Q E s := by
  have hTl : (S text).length ≤ 9 := by rw [S_len]; exact hl
  refine' enterC (f := 110) (binds := [(Str.ofString "text", .str (S text) t), (Str.ofString "names", .ref d), (Str.ofString "width", .int (m : Nat) u)]) X T ?r (by k_is) (by k_is) (BindsTo.of_eq rfl) ?hk (by decide +kernel) hpos ?_ rfl rfl rfl
  case r => omega
  case hk =>
    intro n x hx
    simp only [List.mem_cons, List.not_mem_nil, or_false] at hx
    rcases hx with rfl | rfl | rfl
    · exact Or.inl rfl
    · exact Or.inr ⟨rfl, rfl⟩
    · exact Or.inl rfl
  intro h₁ tk cells hpos F N Y
  obtain ⟨oc, rfl, hoc⟩ := CellsAre.one Y
  have hoc' : oc.data = .cell (some (.ref d)) := hoc
  clear hoc Y
  replace F := frAs F (m' := bmo (fun _ => none) [("width", some (.int (m : Nat) u)), ("text", some (.str (S text) t))]) (fun z => by rfl)
  dsimp only [bmo] at F
  (repeat' ((fail_if_success (with_reducible show InvPostN _ _ _ _ _ _ _ _ _)); (fail_if_success (with_reducible show WhileStep2 _ _ _ _ _ _ _ _)); (fail_if_success (with_reducible show InvEndN _ _ _ _ _ _ _)); (fail_if_success (with_reducible show wpAny _ _ (exec (PySem.Stmt.For _ _ _ _ _) _) _ _ _)); (fail_if_success (with_reducible show wpAny _ _ (exec (PySem.Stmt.Assign _ (PySem.Expr.ListComp _ _ _ _) _) _) _ _ _)); (fail_if_success (with_reducible show wpAny _ _ (getMethod (Value.ref _) _ _) _ _ _)); (fail_if_success (with_reducible show wpAny _ _ (call (Value.builtin "dict.get") _) _ _ _)); (fail_if_success (with_reducible show wpAny _ _ (call (Value.builtin "str.join") _) _ _ _)); (fail_if_success (with_reducible show wpAny _ _ (call (Value.ref 105) _) _ _ _)); (fail_if_success (with_reducible show wpAny _ _ (pyIter _) _ _ _)); (fail_if_success (with_reducible show wpAny _ _ (subscriptTail _ _ (Value.ref _) _) _ _ _)); (fail_if_success (with_reducible show wpAny _ _ (setItem _ _ _) _ _ _)); (fail_if_success (with_reducible show wpAny _ _ (call (Value.builtin "str.replace") _) _ _ _)); (fail_if_success (with_reducible show wpAny _ _ (call (Value.builtin "str.split") _) _ _ _)); (fail_if_success (with_reducible show wpAny _ _ (call (Value.builtin "str.rstrip") _) _ _ _)); (fail_if_success (with_reducible show wpAny _ _ (binaryOp _ (Value.str _ _) (Value.str _ _)) _ _ _)); (first | (k_unfold; (try dsimp only)) | walk1 | (dsimp only; walk1) | (leave1; (try dsimp only)) | fail "no step")))
  refine Assign_ListComp_S F rfl (by with_unfolding_all rfl) (by rfl) (by decide) (by rfl) (by decide) (by rfl) (by rfl) (by rfl) ?_
  walk1
  refine ⟨S text, t, _, rfl, by exact hh, F, N, by unfold sizeLine; omega, ?_⟩
  rintro s₂ ⟨g, rfl⟩
  refine rest_all (n := text.length) (fun i ys => TextsAre ys ((text.take i).map (esc b))) ?step trivial ?fin text.length 0 [] (by simp) (by simpa using TextsAre.nil)
  case step =>
    rintro i v I oI C oC D m₂ h2 tk2 E' ys hilt ⟨c, uu, hc, rfl⟩ hn hm2 F2 N2 off hR
    (repeat' ((fail_if_success (with_reducible show InvPostN _ _ _ _ _ _ _ _ _)); (fail_if_success (with_reducible show WhileStep2 _ _ _ _ _ _ _ _)); (fail_if_success (with_reducible show InvEndN _ _ _ _ _ _ _)); (fail_if_success (with_reducible show wpAny _ _ (exec (PySem.Stmt.For _ _ _ _ _) _) _ _ _)); (fail_if_success (with_reducible show wpAny _ _ (exec (PySem.Stmt.Assign _ (PySem.Expr.ListComp _ _ _ _) _) _) _ _ _)); (fail_if_success (with_reducible show wpAny _ _ (getMethod (Value.ref _) _ _) _ _ _)); (fail_if_success (with_reducible show wpAny _ _ (call (Value.builtin "dict.get") _) _ _ _)); (fail_if_success (with_reducible show wpAny _ _ (call (Value.builtin "str.join") _) _ _ _)); (fail_if_success (with_reducible show wpAny _ _ (call (Value.ref 105) _) _ _ _)); (fail_if_success (with_reducible show wpAny _ _ (pyIter _) _ _ _)); (fail_if_success (with_reducible show wpAny _ _ (subscriptTail _ _ (Value.ref _) _) _ _ _)); (fail_if_success (with_reducible show wpAny _ _ (setItem _ _ _) _ _ _)); (fail_if_success (with_reducible show wpAny _ _ (call (Value.builtin "str.replace") _) _ _ _)); (fail_if_success (with_reducible show wpAny _ _ (call (Value.builtin "str.split") _) _ _ _)); (fail_if_success (with_reducible show wpAny _ _ (call (Value.builtin "str.rstrip") _) _ _ _)); (fail_if_success (with_reducible show wpAny _ _ (binaryOp _ (Value.str _ _) (Value.str _ _)) _ _ _)); (first | (k_unfold; (try dsimp only)) | walk1 | (dsimp only; walk1) | (leave1; (try dsimp only)) | fail "no step")))
    have hci : text[i]? = some c := by rw [← get_S]; exact hc
    have hD2 : DX w h2 d kvs := by
      obtain ⟨o, ho, r⟩ := hD
      exact ⟨o, F2.keep d o ho, r⟩
    refine gm_get hD2 hK hds ?_
    dsimp only
    (repeat' ((fail_if_success (with_reducible show InvPostN _ _ _ _ _ _ _ _ _)); (fail_if_success (with_reducible show WhileStep2 _ _ _ _ _ _ _ _)); (fail_if_success (with_reducible show InvEndN _ _ _ _ _ _ _)); (fail_if_success (with_reducible show wpAny _ _ (exec (PySem.Stmt.For _ _ _ _ _) _) _ _ _)); (fail_if_success (with_reducible show wpAny _ _ (exec (PySem.Stmt.Assign _ (PySem.Expr.ListComp _ _ _ _) _) _) _ _ _)); (fail_if_success (with_reducible show wpAny _ _ (getMethod (Value.ref _) _ _) _ _ _)); (fail_if_success (with_reducible show wpAny _ _ (call (Value.builtin "dict.get") _) _ _ _)); (fail_if_success (with_reducible show wpAny _ _ (call (Value.builtin "str.join") _) _ _ _)); (fail_if_success (with_reducible show wpAny _ _ (call (Value.ref 105) _) _ _ _)); (fail_if_success (with_reducible show wpAny _ _ (pyIter _) _ _ _)); (fail_if_success (with_reducible show wpAny _ _ (subscriptTail _ _ (Value.ref _) _) _ _ _)); (fail_if_success (with_reducible show wpAny _ _ (setItem _ _ _) _ _ _)); (fail_if_success (with_reducible show wpAny _ _ (call (Value.builtin "str.replace") _) _ _ _)); (fail_if_success (with_reducible show wpAny _ _ (call (Value.builtin "str.split") _) _ _ _)); (fail_if_success (with_reducible show wpAny _ _ (call (Value.builtin "str.rstrip") _) _ _ _)); (fail_if_success (with_reducible show wpAny _ _ (binaryOp _ (Value.str _ _) (Value.str _ _)) _ _ _)); (first | (k_unfold; (try dsimp only)) | walk1 | (dsimp only; walk1) | (leave1; (try dsimp only)) | fail "no step")))
    refine get_esc (c := c) hD2 hK hds (fun tk9 => ?_)
    k_unfold
    refine ⟨h2, _, rfl, F2, N2, ?_⟩
    rw [List.take_add_one, hci]
    simp only [Option.toList, List.map_append, List.map_cons, List.map_nil]
    exact hR.snoc _ _
  case fin =>
    intro ys hR
    rintro D h2 tk2 F2 N2 off
    rw [List.take_length] at hR
    have hDc := off.1
    clear F N off
    dsimp only
    (repeat' ((fail_if_success (with_reducible show InvPostN _ _ _ _ _ _ _ _ _)); (fail_if_success (with_reducible show WhileStep2 _ _ _ _ _ _ _ _)); (fail_if_success (with_reducible show InvEndN _ _ _ _ _ _ _)); (fail_if_success (with_reducible show wpAny _ _ (exec (PySem.Stmt.For _ _ _ _ _) _) _ _ _)); (fail_if_success (with_reducible show wpAny _ _ (exec (PySem.Stmt.Assign _ (PySem.Expr.ListComp _ _ _ _) _) _) _ _ _)); (fail_if_success (with_reducible show wpAny _ _ (getMethod (Value.ref _) _ _) _ _ _)); (fail_if_success (with_reducible show wpAny _ _ (call (Value.builtin "dict.get") _) _ _ _)); (fail_if_success (with_reducible show wpAny _ _ (call (Value.builtin "str.join") _) _ _ _)); (fail_if_success (with_reducible show wpAny _ _ (call (Value.ref 105) _) _ _ _)); (fail_if_success (with_reducible show wpAny _ _ (pyIter _) _ _ _)); (fail_if_success (with_reducible show wpAny _ _ (subscriptTail _ _ (Value.ref _) _) _ _ _)); (fail_if_success (with_reducible show wpAny _ _ (setItem _ _ _) _ _ _)); (fail_if_success (with_reducible show wpAny _ _ (call (Value.builtin "str.replace") _) _ _ _)); (fail_if_success (with_reducible show wpAny _ _ (call (Value.builtin "str.split") _) _ _ _)); (fail_if_success (with_reducible show wpAny _ _ (call (Value.builtin "str.rstrip") _) _ _ _)); (fail_if_success (with_reducible show wpAny _ _ (binaryOp _ (Value.str _ _) (Value.str _ _)) _ _ _)); (first | (k_unfold; (try dsimp only)) | walk1 | (dsimp only; walk1) | (leave1; (try dsimp only)) | fail "no step")))
    have hel : ∀ c, (esc b c).length ≤ 6 := fun c => by
      unfold esc
      repeat' split
      all_goals first | decide | simp
    have hfl : ((text.map (esc b)).flatten).length ≤ 54 := by
      have key : ∀ l : List Nat, ((l.map (esc b)).flatten).length ≤ 6 * l.length := by
        intro l
        induction l with
        | nil => simp
        | cons c l ih =>
          have := hel c
          simp only [List.map_cons, List.flatten_cons, List.length_append, List.length_cons]
          omega
      have := key text
      omega
    have hWe : (text.map (esc b)).flatten = escL b text := by unfold escL; rw [List.flatMap_def]
    refine join_listW (items := ys.toArray) (ys := (text.map (esc b)).map S) ⟨_, (N2 _ (List.Mem.head _)).1, rfl, _, rfl⟩ (by simpa using hR.strs) (by decide +kernel) (by
      rw [List.map_map, List.length_map]
      have e : (PySem.Str.length ∘ S) = List.length := by funext r; exact S_len r
      rw [e, ← List.length_flatten, List.length_map]
      omega) ?_
    intro t9 k9
    rw [join0, hWe]
    rw [hWe] at hfl
    dsimp only
    (repeat' ((fail_if_success (with_reducible show InvPostN _ _ _ _ _ _ _ _ _)); (fail_if_success (with_reducible show WhileStep2 _ _ _ _ _ _ _ _)); (fail_if_success (with_reducible show InvEndN _ _ _ _ _ _ _)); (fail_if_success (with_reducible show wpAny _ _ (exec (PySem.Stmt.For _ _ _ _ _) _) _ _ _)); (fail_if_success (with_reducible show wpAny _ _ (exec (PySem.Stmt.Assign _ (PySem.Expr.ListComp _ _ _ _) _) _) _ _ _)); (fail_if_success (with_reducible show wpAny _ _ (getMethod (Value.ref _) _ _) _ _ _)); (fail_if_success (with_reducible show wpAny _ _ (call (Value.builtin "dict.get") _) _ _ _)); (fail_if_success (with_reducible show wpAny _ _ (call (Value.builtin "str.join") _) _ _ _)); (fail_if_success (with_reducible show wpAny _ _ (call (Value.ref 105) _) _ _ _)); (fail_if_success (with_reducible show wpAny _ _ (pyIter _) _ _ _)); (fail_if_success (with_reducible show wpAny _ _ (subscriptTail _ _ (Value.ref _) _) _ _ _)); (fail_if_success (with_reducible show wpAny _ _ (setItem _ _ _) _ _ _)); (fail_if_success (with_reducible show wpAny _ _ (call (Value.builtin "str.replace") _) _ _ _)); (fail_if_success (with_reducible show wpAny _ _ (call (Value.builtin "str.split") _) _ _ _)); (fail_if_success (with_reducible show wpAny _ _ (call (Value.builtin "str.rstrip") _) _ _ _)); (fail_if_success (with_reducible show wpAny _ _ (binaryOp _ (Value.str _ _) (Value.str _ _)) _ _ _)); (first | (k_unfold; (try dsimp only)) | walk1 | (dsimp only; walk1) | (leave1; (try dsimp only)) | fail "no step")))
    refine rows_spec (X.keeps F2.keep) (T.keeps F2.keep) (by show A.depth + 1 + 6 < _; omega) (by show A.units + 3 + 40 < _; omega) hh (by omega) hm ?_
    intro R rv rn h3 tk3 hx3 hR3 hRi hRn
    have hRD : R ≠ D := fun e => newsNe N2 hRn _ (List.Mem.head _) e.symm
    have N3 := newsAdd F2 N2 hx3 hR3 hRn
    have F3 := frExt F2 hx3
    clear F2 N2 hR3 hRn hx3
    dsimp only at F3 ⊢
    (repeat' ((fail_if_success (with_reducible show InvPostN _ _ _ _ _ _ _ _ _)); (fail_if_success (with_reducible show WhileStep2 _ _ _ _ _ _ _ _)); (fail_if_success (with_reducible show InvEndN _ _ _ _ _ _ _)); (fail_if_success (with_reducible show wpAny _ _ (exec (PySem.Stmt.For _ _ _ _ _) _) _ _ _)); (fail_if_success (with_reducible show wpAny _ _ (exec (PySem.Stmt.Assign _ (PySem.Expr.ListComp _ _ _ _) _) _) _ _ _)); (fail_if_success (with_reducible show wpAny _ _ (getMethod (Value.ref _) _ _) _ _ _)); (fail_if_success (with_reducible show wpAny _ _ (call (Value.builtin "dict.get") _) _ _ _)); (fail_if_success (with_reducible show wpAny _ _ (call (Value.builtin "str.join") _) _ _ _)); (fail_if_success (with_reducible show wpAny _ _ (call (Value.ref 105) _) _ _ _)); (fail_if_success (with_reducible show wpAny _ _ (pyIter _) _ _ _)); (fail_if_success (with_reducible show wpAny _ _ (subscriptTail _ _ (Value.ref _) _) _ _ _)); (fail_if_success (with_reducible show wpAny _ _ (setItem _ _ _) _ _ _)); (fail_if_success (with_reducible show wpAny _ _ (call (Value.builtin "str.replace") _) _ _ _)); (fail_if_success (with_reducible show wpAny _ _ (call (Value.builtin "str.split") _) _ _ _)); (fail_if_success (with_reducible show wpAny _ _ (call (Value.builtin "str.rstrip") _) _ _ _)); (fail_if_success (with_reducible show wpAny _ _ (binaryOp _ (Value.str _ _) (Value.str _ _)) _ _ _)); (first | (k_unfold; (try dsimp only)) | walk1 | (dsimp only; walk1) | (leave1; (try dsimp only)) | fail "no step")))
    refine LCg.Assign_ListComp_U (F₀ := by k_asm) (by rfl) (by with_unfolding_all rfl) (by rfl) (by decide) (by rfl) (by decide) (by rfl) (by rfl) (by rfl) ?_
    (repeat' ((fail_if_success (with_reducible show InvPostN _ _ _ _ _ _ _ _ _)); (fail_if_success (with_reducible show WhileStep2 _ _ _ _ _ _ _ _)); (fail_if_success (with_reducible show InvEndN _ _ _ _ _ _ _)); (fail_if_success (with_reducible show wpAny _ _ (exec (PySem.Stmt.For _ _ _ _ _) _) _ _ _)); (fail_if_success (with_reducible show wpAny _ _ (exec (PySem.Stmt.Assign _ (PySem.Expr.ListComp _ _ _ _) _) _) _ _ _)); (fail_if_success (with_reducible show wpAny _ _ (getMethod (Value.ref _) _ _) _ _ _)); (fail_if_success (with_reducible show wpAny _ _ (call (Value.builtin "dict.get") _) _ _ _)); (fail_if_success (with_reducible show wpAny _ _ (call (Value.builtin "str.join") _) _ _ _)); (fail_if_success (with_reducible show wpAny _ _ (call (Value.ref 105) _) _ _ _)); (fail_if_success (with_reducible show wpAny _ _ (pyIter _) _ _ _)); (fail_if_success (with_reducible show wpAny _ _ (subscriptTail _ _ (Value.ref _) _) _ _ _)); (fail_if_success (with_reducible show wpAny _ _ (setItem _ _ _) _ _ _)); (fail_if_success (with_reducible show wpAny _ _ (call (Value.builtin "str.replace") _) _ _ _)); (fail_if_success (with_reducible show wpAny _ _ (call (Value.builtin "str.split") _) _ _ _)); (fail_if_success (with_reducible show wpAny _ _ (call (Value.builtin "str.rstrip") _) _ _ _)); (fail_if_success (with_reducible show wpAny _ _ (binaryOp _ (Value.str _ _) (Value.str _ _)) _ _ _)); (first | (k_unfold; (try dsimp only)) | walk1 | (dsimp only; walk1) | (leave1; (try dsimp only)) | fail "no step")))
    rename_i L0 h4 F4 N4 hlt4
    obtain ⟨hlf, hlb⟩ := lawRows_facts (m : Int) (escL b text)
    have hR4 := N4 (R, listOf rv rn) (List.Mem.tail _ (List.Mem.head _))
    have hL4 := N4 _ (List.Mem.head _)
    refine add_arrays_ints F4 N4 ⟨_, hR4.1, rfl, _, rfl⟩ ⟨_, hL4.1, rfl, _, rfl⟩ hRi (.cons 0 _ .nil) ?_ (by rw [hlf]; unfold sizeLine; simp; omega)
    intro h5 F5 N5 hI5
    have N5h := (N5 _ (List.Mem.head _)).1
    dsimp only
    (repeat' ((fail_if_success (with_reducible show InvPostN _ _ _ _ _ _ _ _ _)); (fail_if_success (with_reducible show WhileStep2 _ _ _ _ _ _ _ _)); (fail_if_success (with_reducible show InvEndN _ _ _ _ _ _ _)); (fail_if_success (with_reducible show wpAny _ _ (exec (PySem.Stmt.For _ _ _ _ _) _) _ _ _)); (fail_if_success (with_reducible show wpAny _ _ (exec (PySem.Stmt.Assign _ (PySem.Expr.ListComp _ _ _ _) _) _) _ _ _)); (fail_if_success (with_reducible show wpAny _ _ (getMethod (Value.ref _) _ _) _ _ _)); (fail_if_success (with_reducible show wpAny _ _ (call (Value.builtin "dict.get") _) _ _ _)); (fail_if_success (with_reducible show wpAny _ _ (call (Value.builtin "str.join") _) _ _ _)); (fail_if_success (with_reducible show wpAny _ _ (call (Value.ref 105) _) _ _ _)); (fail_if_success (with_reducible show wpAny _ _ (pyIter _) _ _ _)); (fail_if_success (with_reducible show wpAny _ _ (subscriptTail _ _ (Value.ref _) _) _ _ _)); (fail_if_success (with_reducible show wpAny _ _ (setItem _ _ _) _ _ _)); (fail_if_success (with_reducible show wpAny _ _ (call (Value.builtin "str.replace") _) _ _ _)); (fail_if_success (with_reducible show wpAny _ _ (call (Value.builtin "str.split") _) _ _ _)); (fail_if_success (with_reducible show wpAny _ _ (call (Value.builtin "str.rstrip") _) _ _ _)); (fail_if_success (with_reducible show wpAny _ _ (binaryOp _ (Value.str _ _) (Value.str _ _)) _ _ _)); (first | (k_unfold; (try dsimp only)) | walk1 | (dsimp only; walk1) | (leave1; (try dsimp only)) | fail "no step")))
    refine max_list_N (by exact hh) F5 N5 ⟨_, N5h, rfl, _, rfl⟩ hI5 (by simp) ?_
    intro h6 M tM k6 F6 N6 hM1 hM2
    have hM := maxI_is hM1 hM2
    have hMb : 0 ≤ M ∧ M ≤ 54 := by
      rcases List.mem_append.mp hM1 with h | h
      · have := hlb M h; omega
      · rw [List.mem_singleton.mp h]; decide
    replace N6 := newsSub N6 (b := [(R, listOf rv rn), (D, LCg.lst ys), (s.heap.objs.size + 1, oc)]) (fun p hp => List.mem_cons_of_mem _ (List.mem_cons_of_mem _ hp))
    clear hM1 hM2 F5 N5 N5h F4 N4 hR4 hL4 hI5
    dsimp only
    (repeat' ((fail_if_success (with_reducible show InvPostN _ _ _ _ _ _ _ _ _)); (fail_if_success (with_reducible show WhileStep2 _ _ _ _ _ _ _ _)); (fail_if_success (with_reducible show InvEndN _ _ _ _ _ _ _)); (fail_if_success (with_reducible show wpAny _ _ (exec (PySem.Stmt.For _ _ _ _ _) _) _ _ _)); (fail_if_success (with_reducible show wpAny _ _ (exec (PySem.Stmt.Assign _ (PySem.Expr.ListComp _ _ _ _) _) _) _ _ _)); (fail_if_success (with_reducible show wpAny _ _ (getMethod (Value.ref _) _ _) _ _ _)); (fail_if_success (with_reducible show wpAny _ _ (call (Value.builtin "dict.get") _) _ _ _)); (fail_if_success (with_reducible show wpAny _ _ (call (Value.builtin "str.join") _) _ _ _)); (fail_if_success (with_reducible show wpAny _ _ (call (Value.ref 105) _) _ _ _)); (fail_if_success (with_reducible show wpAny _ _ (pyIter _) _ _ _)); (fail_if_success (with_reducible show wpAny _ _ (subscriptTail _ _ (Value.ref _) _) _ _ _)); (fail_if_success (with_reducible show wpAny _ _ (setItem _ _ _) _ _ _)); (fail_if_success (with_reducible show wpAny _ _ (call (Value.builtin "str.replace") _) _ _ _)); (fail_if_success (with_reducible show wpAny _ _ (call (Value.builtin "str.split") _) _ _ _)); (fail_if_success (with_reducible show wpAny _ _ (call (Value.builtin "str.rstrip") _) _ _ _)); (fail_if_success (with_reducible show wpAny _ _ (binaryOp _ (Value.str _ _) (Value.str _ _)) _ _ _)); (first | (k_unfold; (try dsimp only)) | walk1 | (dsimp only; walk1) | (leave1; (try dsimp only)) | fail "no step")))
    obtain ⟨kM, rfl⟩ := Int.eq_ofNat_of_zero_le hMb.1
    have hkM : kM ≤ 54 := by omega
    have hrg := rng ⟨kM, by omega⟩
    with_reducible rename IsRange _ _ _ _ _ _ _ _ => hIR
    with_reducible rename Fr _ _ _ _ => F7
    with_reducible rename News _ _ _ _ => N7
    refine LCg.CompSrc.range (n := kM + 1) (by exact hh) F7 N7 hIR hrg.1 hrg.2 (by unfold sizeLine; omega) ?_
    intro g7
    refine rest_all (n := kM + 1) (fun i ys => TextsAre ys (List.replicate i [])) ?step2 trivial ?fin2 (kM + 1) 0 [] (by simp) TextsAre.nil
    case step2 =>
      rintro i v I oI C oC D9 m₂ h9 tk9 E' ys9 hilt - hn hm2 F9 N9 off hR9
      walk1
      try k_unfold
      refine ⟨h9, _, rfl, F9, N9, ?_⟩
      rw [texts_rep, S_emp]
      exact hR9.snoc _ _
    case fin2 =>
      intro ls hLs
      rintro LN h8 tk8 F8 N8 off
      obtain ⟨hRL, hDL, hcL, -⟩ := off
      have hRL' : R ≠ LN := hRL
      have hDL' : D ≠ LN := hDL
      clear F7 N7 hIR
      dsimp only
      (repeat' ((fail_if_success (with_reducible show InvPostN _ _ _ _ _ _ _ _ _)); (fail_if_success (with_reducible show WhileStep2 _ _ _ _ _ _ _ _)); (fail_if_success (with_reducible show InvEndN _ _ _ _ _ _ _)); (fail_if_success (with_reducible show wpAny _ _ (exec (PySem.Stmt.For _ _ _ _ _) _) _ _ _)); (fail_if_success (with_reducible show wpAny _ _ (exec (PySem.Stmt.Assign _ (PySem.Expr.ListComp _ _ _ _) _) _) _ _ _)); (fail_if_success (with_reducible show wpAny _ _ (getMethod (Value.ref _) _ _) _ _ _)); (fail_if_success (with_reducible show wpAny _ _ (call (Value.builtin "dict.get") _) _ _ _)); (fail_if_success (with_reducible show wpAny _ _ (call (Value.builtin "str.join") _) _ _ _)); (fail_if_success (with_reducible show wpAny _ _ (call (Value.ref 105) _) _ _ _)); (fail_if_success (with_reducible show wpAny _ _ (pyIter _) _ _ _)); (fail_if_success (with_reducible show wpAny _ _ (subscriptTail _ _ (Value.ref _) _) _ _ _)); (fail_if_success (with_reducible show wpAny _ _ (setItem _ _ _) _ _ _)); (fail_if_success (with_reducible show wpAny _ _ (call (Value.builtin "str.replace") _) _ _ _)); (fail_if_success (with_reducible show wpAny _ _ (call (Value.builtin "str.split") _) _ _ _)); (fail_if_success (with_reducible show wpAny _ _ (call (Value.builtin "str.rstrip") _) _ _ _)); (fail_if_success (with_reducible show wpAny _ _ (binaryOp _ (Value.str _ _) (Value.str _ _)) _ _ _)); (first | (k_unfold; (try dsimp only)) | walk1 | (dsimp only; walk1) | (leave1; (try dsimp only)) | fail "no step")))
      refine For_invV s.heap rfl rfl ?_
      (repeat' ((fail_if_success (with_reducible show InvPostN _ _ _ _ _ _ _ _ _)); (fail_if_success (with_reducible show WhileStep2 _ _ _ _ _ _ _ _)); (fail_if_success (with_reducible show InvEndN _ _ _ _ _ _ _)); (fail_if_success (with_reducible show wpAny _ _ (exec (PySem.Stmt.For _ _ _ _ _) _) _ _ _)); (fail_if_success (with_reducible show wpAny _ _ (exec (PySem.Stmt.Assign _ (PySem.Expr.ListComp _ _ _ _) _) _) _ _ _)); (fail_if_success (with_reducible show wpAny _ _ (getMethod (Value.ref _) _ _) _ _ _)); (fail_if_success (with_reducible show wpAny _ _ (call (Value.builtin "dict.get") _) _ _ _)); (fail_if_success (with_reducible show wpAny _ _ (call (Value.builtin "str.join") _) _ _ _)); (fail_if_success (with_reducible show wpAny _ _ (call (Value.ref 105) _) _ _ _)); (fail_if_success (with_reducible show wpAny _ _ (pyIter _) _ _ _)); (fail_if_success (with_reducible show wpAny _ _ (subscriptTail _ _ (Value.ref _) _) _ _ _)); (fail_if_success (with_reducible show wpAny _ _ (setItem _ _ _) _ _ _)); (fail_if_success (with_reducible show wpAny _ _ (call (Value.builtin "str.replace") _) _ _ _)); (fail_if_success (with_reducible show wpAny _ _ (call (Value.builtin "str.split") _) _ _ _)); (fail_if_success (with_reducible show wpAny _ _ (call (Value.builtin "str.rstrip") _) _ _ _)); (fail_if_success (with_reducible show wpAny _ _ (binaryOp _ (Value.str _ _) (Value.str _ _)) _ _ _)); (first | (k_unfold; (try dsimp only)) | walk1 | (dsimp only; walk1) | (leave1; (try dsimp only)) | fail "no step")))
      with_reducible rename IsRange _ _ _ _ _ _ _ _ => hIR1
      with_reducible rename Fr _ _ _ _ => F9
      with_reducible rename News _ _ _ _ => N9
      have hNL := hlf
      have hkk := hM
      have hr9 := rngN ⟨text.length, by omega⟩
      rw [S_len] at hIR1
      refine' iterR (JDue b text m kM LN R D (s.heap.objs.size + 1) (bmo (fun _ => none) [("lines", some (.ref LN)), ("rows", some (.ref R)), ("spelled", some (.ref D)), ("width", some (.int (m : Nat) u)), ("text", some (.str (S text) t))]) rv rn ys oc) (by exact hh) hIR1 hr9.1 hr9.2 F9 N9 ?j0 ?turn ?done
      case j0 =>
        refine ⟨ls.toArray, ls.length, List.replicate (kM + 1) [], tk8, none, none, none, none, rfl, hLs, by simp, ?_, ?_, ?_⟩
        · intro l hl
          rw [(List.mem_replicate.mp hl).2]
          simp
        ·
            (first | (refine bmo_ext2 _ ?_ ?_; (· ((repeat refine And.intro rfl ?_); exact True.intro)); (· (intro y hy; (repeat (refine ite_skip (by first | exact hy.1 | exact hy.2.1 | exact hy.2.2.1 | exact hy.2.2.2.1 | exact hy.2.2.2.2.1 | exact hy.2.2.2.2.2.1) ?_)); rfl))) | (refine bmo_ext _ ?_ ?_; (· ((repeat refine List.forall_mem_cons.mpr ⟨rfl, ?_⟩); exact List.forall_mem_nil _)); (· (intro y hy; (try simp only [List.forall_mem_cons] at hy); (try simp only [hy, ↓reduceIte]); (try rfl)))))
        · unfold linesAt
          have e : offAt b text 0 = 0 := rfl
          rw [← hM, e, List.drop_zero, List.drop_zero]
          rfl
      case turn =>
        intro i tk5 m₁ nx h10 tk10 own hi hadr hoff hJ0
        clear hadr
        refine JDue.elim (G := fun z => Fr _ _ _ _ → News _ _ _ (z ++ own) → _) hJ0 ?_
        clear hJ0
        intro vs nn lines t1 uk up ul uj hvs hll hlb1 hm1 hgo F10 N10
        clear F9 N9
        obtain ⟨c, hci⟩ : ∃ c, text[i]? = some c := ⟨_, List.getElem?_eq_getElem hi⟩
        replace F10 := frAs F10 (m' := bmo (bmo (fun _ => none) [("lines", some (.ref LN)), ("rows", some (.ref R)), ("spelled", some (.ref D)), ("width", some (.int (m : Nat) u)), ("text", some (.str (S text) t))]) [("k", some (.int (i : Nat) tk5)), ("j", uj), ("places", ul), ("piece", up), ("at", some (.int (offAt b text i : Nat) t1))]) (fun y => by
          by_cases hy : y = Str.ofString "k"
          · simp only [bmo, if_pos hy, Int.zero_add]
          · rw [if_neg hy, hm1]; simp only [bmo, if_neg hy])
        dsimp only [bmo] at F10
        clear hm1
        replace hi : i < text.length := hi
        have hitem : Txt.item (S text) i = S [c] := by
          rw [item_S hi]
          rw [List.getElem?_eq_getElem hi] at hci
          rw [Option.some.inj hci]
        have hoff1 := offAt_succ (b := b) hci
        have hoffle := offAt_le b text (i + 1)
        have hep := esc_pos b c
        have hec := hel c
        obtain ⟨tp, hyi⟩ := hR.at (i := i) (x := esc b c) (by rw [List.getElem?_map, hci]; rfl)
        have hown : ∀ p ∈ own, p.1 ≠ LN := fun p hp => hoff p hp LN (by simp)
        have hilt : (i : Int) < (S text).length := by rw [S_len]; omega
        have hpl : (S (esc b c)).length = (esc b c).length := S_len _
        replace N10 : News s.heap s.heap.objs.size h10 ([(LN, listOf vs nn), (R, listOf rv rn), (D, LCg.lst ys), (s.heap.objs.size + 1, oc)] ++ own) := N10
        refine postIs ?_
        intro PP hPP
        (repeat' ((fail_if_success (with_reducible show InvPostN _ _ _ _ _ _ _ _ _)); (fail_if_success (with_reducible show WhileStep2 _ _ _ _ _ _ _ _)); (fail_if_success (with_reducible show InvEndN _ _ _ _ _ _ _)); (fail_if_success (with_reducible show wpAny _ _ (exec (PySem.Stmt.For _ _ _ _ _) _) _ _ _)); (fail_if_success (with_reducible show wpAny _ _ (exec (PySem.Stmt.Assign _ (PySem.Expr.ListComp _ _ _ _) _) _) _ _ _)); (fail_if_success (with_reducible show wpAny _ _ (getMethod (Value.ref _) _ _) _ _ _)); (fail_if_success (with_reducible show wpAny _ _ (call (Value.builtin "dict.get") _) _ _ _)); (fail_if_success (with_reducible show wpAny _ _ (call (Value.builtin "str.join") _) _ _ _)); (fail_if_success (with_reducible show wpAny _ _ (call (Value.ref 105) _) _ _ _)); (fail_if_success (with_reducible show wpAny _ _ (pyIter _) _ _ _)); (fail_if_success (with_reducible show wpAny _ _ (subscriptTail _ _ (Value.ref _) _) _ _ _)); (fail_if_success (with_reducible show wpAny _ _ (setItem _ _ _) _ _ _)); (fail_if_success (with_reducible show wpAny _ _ (call (Value.builtin "str.replace") _) _ _ _)); (fail_if_success (with_reducible show wpAny _ _ (call (Value.builtin "str.split") _) _ _ _)); (fail_if_success (with_reducible show wpAny _ _ (call (Value.builtin "str.rstrip") _) _ _ _)); (fail_if_success (with_reducible show wpAny _ _ (binaryOp _ (Value.str _ _) (Value.str _ _)) _ _ _)); (first | (k_unfold; (try dsimp only)) | walk1 | (dsimp only; walk1) | (leave1; (try dsimp only)) | fail "no step")))
        refine sub_nn (isl (vs := ys.toArray) (n := ys.length) N10 (List.mem_append_left _ (.tail _ (.tail _ (.head _))))) (by omega) (by exact Int.lt_trans (Int.ofNat_lt.mpr hi) (by omega)) (v := .str (S (esc b c)) tp) (by rw [List.getElem?_toArray]; exact hyi) ?_
        (repeat' ((fail_if_success (with_reducible show InvPostN _ _ _ _ _ _ _ _ _)); (fail_if_success (with_reducible show WhileStep2 _ _ _ _ _ _ _ _)); (fail_if_success (with_reducible show InvEndN _ _ _ _ _ _ _)); (fail_if_success (with_reducible show wpAny _ _ (exec (PySem.Stmt.For _ _ _ _ _) _) _ _ _)); (fail_if_success (with_reducible show wpAny _ _ (exec (PySem.Stmt.Assign _ (PySem.Expr.ListComp _ _ _ _) _) _) _ _ _)); (fail_if_success (with_reducible show wpAny _ _ (getMethod (Value.ref _) _ _) _ _ _)); (fail_if_success (with_reducible show wpAny _ _ (call (Value.builtin "dict.get") _) _ _ _)); (fail_if_success (with_reducible show wpAny _ _ (call (Value.builtin "str.join") _) _ _ _)); (fail_if_success (with_reducible show wpAny _ _ (call (Value.ref 105) _) _ _ _)); (fail_if_success (with_reducible show wpAny _ _ (pyIter _) _ _ _)); (fail_if_success (with_reducible show wpAny _ _ (subscriptTail _ _ (Value.ref _) _) _ _ _)); (fail_if_success (with_reducible show wpAny _ _ (setItem _ _ _) _ _ _)); (fail_if_success (with_reducible show wpAny _ _ (call (Value.builtin "str.replace") _) _ _ _)); (fail_if_success (with_reducible show wpAny _ _ (call (Value.builtin "str.split") _) _ _ _)); (fail_if_success (with_reducible show wpAny _ _ (call (Value.builtin "str.rstrip") _) _ _ _)); (fail_if_success (with_reducible show wpAny _ _ (binaryOp _ (Value.str _ _) (Value.str _ _)) _ _ _)); (first | (k_unfold; (try dsimp only)) | walk1 | (dsimp only; walk1) | (leave1; (try dsimp only)) | fail "no step")))
        with_reducible rename Fr _ _ _ _ => F11
        with_reducible rename News _ _ _ _ => N11
        try clear F10
        try clear N10
        have hdl : ((((lawRows (m : Int) (escL b text)).drop (offAt b text i)).take (esc b c).length)).length = (esc b c).length := by
          rw [List.length_take, List.length_drop, hlf]; omega
        refine slice_in (a := offAt b text i) (b := offAt b text i + (esc b c).length) F11 N11 (List.mem_append_left own (.tail _ (.head [(D, LCg.lst ys), (s.heap.objs.size + 1, oc)]))) hRi rfl (by rw [hpl]; simp) (by omega) ?_ (by with_unfolding_all rfl) (by intro _; with_unfolding_all rfl) (by rw [hlf]; unfold sizeLine; omega)
        intro PL h12 pv pn F12 N12 hpi hPne
        clear F11 N11
        rw [Nat.add_sub_cancel_left] at hpi
        obtain ⟨r0, hr0⟩ : ∃ r0, (((lawRows (m : Int) (escL b text)).drop (offAt b text i)).take (esc b c).length)[0]? = some r0 := ⟨_, List.getElem?_eq_getElem (by rw [hdl]; omega)⟩
        obtain ⟨r1, hr1⟩ : ∃ r1, (((lawRows (m : Int) (escL b text)).drop (offAt b text i)).take (esc b c).length).getLast? = some r1 := by
          rw [List.getLast?_eq_getElem?]
          exact ⟨_, List.getElem?_eq_getElem (by rw [hdl]; omega)⟩
        obtain ⟨tr0, hv0⟩ := ints_get hpi hr0
        obtain ⟨tr1, hv1⟩ := ints_last hpi hr1
        have hrb : ∀ r ∈ ((lawRows (m : Int) (escL b text)).drop (offAt b text i)).take (esc b c).length, 0 ≤ r ∧ r ≤ (kM : Int) := fun r hr => by
          have hm := List.mem_of_mem_drop (List.mem_of_mem_take hr)
          exact ⟨(hlb r hm).1, by rw [hM]; exact (maxI_ge _ 0).2.1 r hm⟩
        have hr0b := hrb r0 (List.mem_of_getElem? hr0)
        have hvl : vs.size = kM + 1 := by rw [← Array.length_toList, hvs.len, hll]
        rw [lay_step hci] at hgo
        obtain ⟨lx, hlx⟩ : ∃ lx, lines[r0.toNat]? = some lx := ⟨_, List.getElem?_eq_getElem (by omega)⟩
        obtain ⟨tl, hvx⟩ := hvs.at hlx
        have hPh : (((lawRows (m : Int) (escL b text)).drop (offAt b text i)).take (esc b c).length).head? = some r0 := by rw [List.head?_eq_getElem?]; exact hr0
        have hPd : (((lawRows (m : Int) (escL b text)).drop (offAt b text i)).take (esc b c).length).headD 0 = r0 := by rw [List.headD_eq_head?_getD, hPh]; rfl
        generalize hP : ((lawRows (m : Int) (escL b text)).drop (offAt b text i)).take (esc b c).length = P at *
        (repeat' ((fail_if_success (with_reducible show InvPostN _ _ _ _ _ _ _ _ _)); (fail_if_success (with_reducible show WhileStep2 _ _ _ _ _ _ _ _)); (fail_if_success (with_reducible show InvEndN _ _ _ _ _ _ _)); (fail_if_success (with_reducible show wpAny _ _ (exec (PySem.Stmt.For _ _ _ _ _) _) _ _ _)); (fail_if_success (with_reducible show wpAny _ _ (exec (PySem.Stmt.Assign _ (PySem.Expr.ListComp _ _ _ _) _) _) _ _ _)); (fail_if_success (with_reducible show wpAny _ _ (getMethod (Value.ref _) _ _) _ _ _)); (fail_if_success (with_reducible show wpAny _ _ (call (Value.builtin "dict.get") _) _ _ _)); (fail_if_success (with_reducible show wpAny _ _ (call (Value.builtin "str.join") _) _ _ _)); (fail_if_success (with_reducible show wpAny _ _ (call (Value.ref 105) _) _ _ _)); (fail_if_success (with_reducible show wpAny _ _ (pyIter _) _ _ _)); (fail_if_success (with_reducible show wpAny _ _ (subscriptTail _ _ (Value.ref _) _) _ _ _)); (fail_if_success (with_reducible show wpAny _ _ (setItem _ _ _) _ _ _)); (fail_if_success (with_reducible show wpAny _ _ (call (Value.builtin "str.replace") _) _ _ _)); (fail_if_success (with_reducible show wpAny _ _ (call (Value.builtin "str.split") _) _ _ _)); (fail_if_success (with_reducible show wpAny _ _ (call (Value.builtin "str.rstrip") _) _ _ _)); (fail_if_success (with_reducible show wpAny _ _ (binaryOp _ (Value.str _ _) (Value.str _ _)) _ _ _)); (first | (k_unfold; (try dsimp only)) | walk1 | (dsimp only; walk1) | (leave1; (try dsimp only)) | fail "no step")))
        refine sub_nn (isl (vs := pv) (n := pn) (by assumption) (List.Mem.head _)) (by decide) (by decide) (v := .int r0 tr0) (by rw [← Array.getElem?_toList]; exact hv0) ?_
        (repeat' ((fail_if_success (with_reducible show InvPostN _ _ _ _ _ _ _ _ _)); (fail_if_success (with_reducible show WhileStep2 _ _ _ _ _ _ _ _)); (fail_if_success (with_reducible show InvEndN _ _ _ _ _ _ _)); (fail_if_success (with_reducible show wpAny _ _ (exec (PySem.Stmt.For _ _ _ _ _) _) _ _ _)); (fail_if_success (with_reducible show wpAny _ _ (exec (PySem.Stmt.Assign _ (PySem.Expr.ListComp _ _ _ _) _) _) _ _ _)); (fail_if_success (with_reducible show wpAny _ _ (getMethod (Value.ref _) _ _) _ _ _)); (fail_if_success (with_reducible show wpAny _ _ (call (Value.builtin "dict.get") _) _ _ _)); (fail_if_success (with_reducible show wpAny _ _ (call (Value.builtin "str.join") _) _ _ _)); (fail_if_success (with_reducible show wpAny _ _ (call (Value.ref 105) _) _ _ _)); (fail_if_success (with_reducible show wpAny _ _ (pyIter _) _ _ _)); (fail_if_success (with_reducible show wpAny _ _ (subscriptTail _ _ (Value.ref _) _) _ _ _)); (fail_if_success (with_reducible show wpAny _ _ (setItem _ _ _) _ _ _)); (fail_if_success (with_reducible show wpAny _ _ (call (Value.builtin "str.replace") _) _ _ _)); (fail_if_success (with_reducible show wpAny _ _ (call (Value.builtin "str.split") _) _ _ _)); (fail_if_success (with_reducible show wpAny _ _ (call (Value.builtin "str.rstrip") _) _ _ _)); (fail_if_success (with_reducible show wpAny _ _ (binaryOp _ (Value.str _ _) (Value.str _ _)) _ _ _)); (first | (k_unfold; (try dsimp only)) | walk1 | (dsimp only; walk1) | (leave1; (try dsimp only)) | fail "no step")))
        refine sub_last (isl (vs := pv) (n := pn) (by assumption) (List.Mem.head _)) (v := .int r1 tr1) hv1 ?_
        (repeat' ((fail_if_success (with_reducible show InvPostN _ _ _ _ _ _ _ _ _)); (fail_if_success (with_reducible show WhileStep2 _ _ _ _ _ _ _ _)); (fail_if_success (with_reducible show InvEndN _ _ _ _ _ _ _)); (fail_if_success (with_reducible show wpAny _ _ (exec (PySem.Stmt.For _ _ _ _ _) _) _ _ _)); (fail_if_success (with_reducible show wpAny _ _ (exec (PySem.Stmt.Assign _ (PySem.Expr.ListComp _ _ _ _) _) _) _ _ _)); (fail_if_success (with_reducible show wpAny _ _ (getMethod (Value.ref _) _ _) _ _ _)); (fail_if_success (with_reducible show wpAny _ _ (call (Value.builtin "dict.get") _) _ _ _)); (fail_if_success (with_reducible show wpAny _ _ (call (Value.builtin "str.join") _) _ _ _)); (fail_if_success (with_reducible show wpAny _ _ (call (Value.ref 105) _) _ _ _)); (fail_if_success (with_reducible show wpAny _ _ (pyIter _) _ _ _)); (fail_if_success (with_reducible show wpAny _ _ (subscriptTail _ _ (Value.ref _) _) _ _ _)); (fail_if_success (with_reducible show wpAny _ _ (setItem _ _ _) _ _ _)); (fail_if_success (with_reducible show wpAny _ _ (call (Value.builtin "str.replace") _) _ _ _)); (fail_if_success (with_reducible show wpAny _ _ (call (Value.builtin "str.split") _) _ _ _)); (fail_if_success (with_reducible show wpAny _ _ (call (Value.builtin "str.rstrip") _) _ _ _)); (fail_if_success (with_reducible show wpAny _ _ (binaryOp _ (Value.str _ _) (Value.str _ _)) _ _ _)); (first | (k_unfold; (try dsimp only)) | walk1 | (dsimp only; walk1) | (leave1; (try dsimp only)) | fail "no step")))
        ·
          with_reducible rename _ = r1 => he01
          refine sub_nn (isl (vs := pv) (n := pn) (by assumption) (List.Mem.head _)) (by decide) (by decide) (v := .int r0 tr0) (by rw [← Array.getElem?_toList]; exact hv0) ?_
          (repeat' ((fail_if_success (with_reducible show InvPostN _ _ _ _ _ _ _ _ _)); (fail_if_success (with_reducible show WhileStep2 _ _ _ _ _ _ _ _)); (fail_if_success (with_reducible show InvEndN _ _ _ _ _ _ _)); (fail_if_success (with_reducible show wpAny _ _ (exec (PySem.Stmt.For _ _ _ _ _) _) _ _ _)); (fail_if_success (with_reducible show wpAny _ _ (exec (PySem.Stmt.Assign _ (PySem.Expr.ListComp _ _ _ _) _) _) _ _ _)); (fail_if_success (with_reducible show wpAny _ _ (getMethod (Value.ref _) _ _) _ _ _)); (fail_if_success (with_reducible show wpAny _ _ (call (Value.builtin "dict.get") _) _ _ _)); (fail_if_success (with_reducible show wpAny _ _ (call (Value.builtin "str.join") _) _ _ _)); (fail_if_success (with_reducible show wpAny _ _ (call (Value.ref 105) _) _ _ _)); (fail_if_success (with_reducible show wpAny _ _ (pyIter _) _ _ _)); (fail_if_success (with_reducible show wpAny _ _ (subscriptTail _ _ (Value.ref _) _) _ _ _)); (fail_if_success (with_reducible show wpAny _ _ (setItem _ _ _) _ _ _)); (fail_if_success (with_reducible show wpAny _ _ (call (Value.builtin "str.replace") _) _ _ _)); (fail_if_success (with_reducible show wpAny _ _ (call (Value.builtin "str.split") _) _ _ _)); (fail_if_success (with_reducible show wpAny _ _ (call (Value.builtin "str.rstrip") _) _ _ _)); (fail_if_success (with_reducible show wpAny _ _ (binaryOp _ (Value.str _ _) (Value.str _ _)) _ _ _)); (first | (k_unfold; (try dsimp only)) | walk1 | (dsimp only; walk1) | (leave1; (try dsimp only)) | fail "no step")))
          refine sub_nn (isl (vs := vs) (n := nn) (by assumption) (.tail _ (.head _))) hr0b.1 (by omega) (v := .str (S lx) tl) (by rw [← Array.getElem?_toList]; exact hvx) ?_
          (repeat' ((fail_if_success (with_reducible show InvPostN _ _ _ _ _ _ _ _ _)); (fail_if_success (with_reducible show WhileStep2 _ _ _ _ _ _ _ _)); (fail_if_success (with_reducible show InvEndN _ _ _ _ _ _ _)); (fail_if_success (with_reducible show wpAny _ _ (exec (PySem.Stmt.For _ _ _ _ _) _) _ _ _)); (fail_if_success (with_reducible show wpAny _ _ (exec (PySem.Stmt.Assign _ (PySem.Expr.ListComp _ _ _ _) _) _) _ _ _)); (fail_if_success (with_reducible show wpAny _ _ (getMethod (Value.ref _) _ _) _ _ _)); (fail_if_success (with_reducible show wpAny _ _ (call (Value.builtin "dict.get") _) _ _ _)); (fail_if_success (with_reducible show wpAny _ _ (call (Value.builtin "str.join") _) _ _ _)); (fail_if_success (with_reducible show wpAny _ _ (call (Value.ref 105) _) _ _ _)); (fail_if_success (with_reducible show wpAny _ _ (pyIter _) _ _ _)); (fail_if_success (with_reducible show wpAny _ _ (subscriptTail _ _ (Value.ref _) _) _ _ _)); (fail_if_success (with_reducible show wpAny _ _ (setItem _ _ _) _ _ _)); (fail_if_success (with_reducible show wpAny _ _ (call (Value.builtin "str.replace") _) _ _ _)); (fail_if_success (with_reducible show wpAny _ _ (call (Value.builtin "str.split") _) _ _ _)); (fail_if_success (with_reducible show wpAny _ _ (call (Value.builtin "str.rstrip") _) _ _ _)); (fail_if_success (with_reducible show wpAny _ _ (binaryOp _ (Value.str _ _) (Value.str _ _)) _ _ _)); (first | (k_unfold; (try dsimp only)) | walk1 | (dsimp only; walk1) | (leave1; (try dsimp only)) | fail "no step")))
          refine SBL.add (hsz := ?hsz) ?_
          case hsz =>
            have := hlb1 lx (List.mem_of_getElem? hlx)
            rw [hitem, S_len, S_len]
            unfold sizeLine
            simp
            omega
          intro t8 k8
          (repeat' ((fail_if_success (with_reducible show InvPostN _ _ _ _ _ _ _ _ _)); (fail_if_success (with_reducible show WhileStep2 _ _ _ _ _ _ _ _)); (fail_if_success (with_reducible show InvEndN _ _ _ _ _ _ _)); (fail_if_success (with_reducible show wpAny _ _ (exec (PySem.Stmt.For _ _ _ _ _) _) _ _ _)); (fail_if_success (with_reducible show wpAny _ _ (exec (PySem.Stmt.Assign _ (PySem.Expr.ListComp _ _ _ _) _) _) _ _ _)); (fail_if_success (with_reducible show wpAny _ _ (getMethod (Value.ref _) _ _) _ _ _)); (fail_if_success (with_reducible show wpAny _ _ (call (Value.builtin "dict.get") _) _ _ _)); (fail_if_success (with_reducible show wpAny _ _ (call (Value.builtin "str.join") _) _ _ _)); (fail_if_success (with_reducible show wpAny _ _ (call (Value.ref 105) _) _ _ _)); (fail_if_success (with_reducible show wpAny _ _ (pyIter _) _ _ _)); (fail_if_success (with_reducible show wpAny _ _ (subscriptTail _ _ (Value.ref _) _) _ _ _)); (fail_if_success (with_reducible show wpAny _ _ (setItem _ _ _) _ _ _)); (fail_if_success (with_reducible show wpAny _ _ (call (Value.builtin "str.replace") _) _ _ _)); (fail_if_success (with_reducible show wpAny _ _ (call (Value.builtin "str.split") _) _ _ _)); (fail_if_success (with_reducible show wpAny _ _ (call (Value.builtin "str.rstrip") _) _ _ _)); (fail_if_success (with_reducible show wpAny _ _ (binaryOp _ (Value.str _ _) (Value.str _ _)) _ _ _)); (first | (k_unfold; (try dsimp only)) | walk1 | (dsimp only; walk1) | (leave1; (try dsimp only)) | fail "no step")))
          refine sub_nn (isl (vs := pv) (n := pn) (by assumption) (List.Mem.head _)) (by decide) (by decide) (v := .int r0 tr0) (by rw [← Array.getElem?_toList]; exact hv0) ?_
          (repeat' ((fail_if_success (with_reducible show InvPostN _ _ _ _ _ _ _ _ _)); (fail_if_success (with_reducible show WhileStep2 _ _ _ _ _ _ _ _)); (fail_if_success (with_reducible show InvEndN _ _ _ _ _ _ _)); (fail_if_success (with_reducible show wpAny _ _ (exec (PySem.Stmt.For _ _ _ _ _) _) _ _ _)); (fail_if_success (with_reducible show wpAny _ _ (exec (PySem.Stmt.Assign _ (PySem.Expr.ListComp _ _ _ _) _) _) _ _ _)); (fail_if_success (with_reducible show wpAny _ _ (getMethod (Value.ref _) _ _) _ _ _)); (fail_if_success (with_reducible show wpAny _ _ (call (Value.builtin "dict.get") _) _ _ _)); (fail_if_success (with_reducible show wpAny _ _ (call (Value.builtin "str.join") _) _ _ _)); (fail_if_success (with_reducible show wpAny _ _ (call (Value.ref 105) _) _ _ _)); (fail_if_success (with_reducible show wpAny _ _ (pyIter _) _ _ _)); (fail_if_success (with_reducible show wpAny _ _ (subscriptTail _ _ (Value.ref _) _) _ _ _)); (fail_if_success (with_reducible show wpAny _ _ (setItem _ _ _) _ _ _)); (fail_if_success (with_reducible show wpAny _ _ (call (Value.builtin "str.replace") _) _ _ _)); (fail_if_success (with_reducible show wpAny _ _ (call (Value.builtin "str.split") _) _ _ _)); (fail_if_success (with_reducible show wpAny _ _ (call (Value.builtin "str.rstrip") _) _ _ _)); (fail_if_success (with_reducible show wpAny _ _ (binaryOp _ (Value.str _ _) (Value.str _ _)) _ _ _)); (first | (k_unfold; (try dsimp only)) | walk1 | (dsimp only; walk1) | (leave1; (try dsimp only)) | fail "no step")))
          with_reducible rename Fr _ _ _ _ => F13
          with_reducible rename News _ _ _ _ => N13
          refine set_nn F13 (newsSub N13 (b := (LN, listOf vs nn) :: ([(R, listOf rv rn), (D, LCg.lst ys), (s.heap.objs.size + 1, oc)] ++ own)) (fun p hp => List.mem_cons_of_mem _ hp)) ?hne hr0b.1 (by omega) (by omega) ?_
          case hne =>
            intro p hp
            rcases List.mem_append.mp hp with hp | hp
            · simp only [List.mem_cons, List.not_mem_nil, or_false] at hp
              rcases hp with rfl | rfl | rfl
              · exact hRL'
              · exact hDL'
              · exact hcL
            · exact hown p hp
          intro h14 F14 N14
          clear F13 N13
          (repeat' ((fail_if_success (with_reducible show InvPostN _ _ _ _ _ _ _ _ _)); (fail_if_success (with_reducible show WhileStep2 _ _ _ _ _ _ _ _)); (fail_if_success (with_reducible show InvEndN _ _ _ _ _ _ _)); (fail_if_success (with_reducible show wpAny _ _ (exec (PySem.Stmt.For _ _ _ _ _) _) _ _ _)); (fail_if_success (with_reducible show wpAny _ _ (exec (PySem.Stmt.Assign _ (PySem.Expr.ListComp _ _ _ _) _) _) _ _ _)); (fail_if_success (with_reducible show wpAny _ _ (getMethod (Value.ref _) _ _) _ _ _)); (fail_if_success (with_reducible show wpAny _ _ (call (Value.builtin "dict.get") _) _ _ _)); (fail_if_success (with_reducible show wpAny _ _ (call (Value.builtin "str.join") _) _ _ _)); (fail_if_success (with_reducible show wpAny _ _ (call (Value.ref 105) _) _ _ _)); (fail_if_success (with_reducible show wpAny _ _ (pyIter _) _ _ _)); (fail_if_success (with_reducible show wpAny _ _ (subscriptTail _ _ (Value.ref _) _) _ _ _)); (fail_if_success (with_reducible show wpAny _ _ (setItem _ _ _) _ _ _)); (fail_if_success (with_reducible show wpAny _ _ (call (Value.builtin "str.replace") _) _ _ _)); (fail_if_success (with_reducible show wpAny _ _ (call (Value.builtin "str.split") _) _ _ _)); (fail_if_success (with_reducible show wpAny _ _ (call (Value.builtin "str.rstrip") _) _ _ _)); (fail_if_success (with_reducible show wpAny _ _ (binaryOp _ (Value.str _ _) (Value.str _ _)) _ _ _)); (first | (k_unfold; (try dsimp only)) | walk1 | (dsimp only; walk1) | (leave1; (try dsimp only)) | fail "no step")))
          ·
            refine PostIs.use hPP ?_
            exact ed (by assumption) (by assumption) (addAt_texts hvs hlx (by rw [hitem, S_app])) (by rw [addAt_size]; exact hll) (fun l hl => by have := addAt_len hlb1 l hl; omega) (by rw [hoff1, ← hpl]; (first | (refine bmo_ext2 _ ?_ ?_; (· ((repeat refine And.intro rfl ?_); exact True.intro)); (· (intro y hy; (repeat (refine ite_skip (by first | exact hy.1 | exact hy.2.1 | exact hy.2.2.1 | exact hy.2.2.2.1 | exact hy.2.2.2.2.1 | exact hy.2.2.2.2.2.1) ?_)); rfl))) | (refine bmo_ext _ ?_ ?_; (· ((repeat refine List.forall_mem_cons.mpr ⟨rfl, ?_⟩); exact List.forall_mem_nil _)); (· (intro y hy; (try simp only [List.forall_mem_cons] at hy); (try simp only [hy, ↓reduceIte]); (try rfl)))))) (by
              rw [← hgo]
              unfold layOne
              rw [hPh, hr1, he01, if_pos rfl, hPd]
              rw [he01])
        ·
          with_reducible rename ¬ _ = r1 => he01
          refine For_invV s.heap rfl rfl ?_
          (repeat' ((fail_if_success (with_reducible show InvPostN _ _ _ _ _ _ _ _ _)); (fail_if_success (with_reducible show WhileStep2 _ _ _ _ _ _ _ _)); (fail_if_success (with_reducible show InvEndN _ _ _ _ _ _ _)); (fail_if_success (with_reducible show wpAny _ _ (exec (PySem.Stmt.For _ _ _ _ _) _) _ _ _)); (fail_if_success (with_reducible show wpAny _ _ (exec (PySem.Stmt.Assign _ (PySem.Expr.ListComp _ _ _ _) _) _) _ _ _)); (fail_if_success (with_reducible show wpAny _ _ (getMethod (Value.ref _) _ _) _ _ _)); (fail_if_success (with_reducible show wpAny _ _ (call (Value.builtin "dict.get") _) _ _ _)); (fail_if_success (with_reducible show wpAny _ _ (call (Value.builtin "str.join") _) _ _ _)); (fail_if_success (with_reducible show wpAny _ _ (call (Value.ref 105) _) _ _ _)); (fail_if_success (with_reducible show wpAny _ _ (pyIter _) _ _ _)); (fail_if_success (with_reducible show wpAny _ _ (subscriptTail _ _ (Value.ref _) _) _ _ _)); (fail_if_success (with_reducible show wpAny _ _ (setItem _ _ _) _ _ _)); (fail_if_success (with_reducible show wpAny _ _ (call (Value.builtin "str.replace") _) _ _ _)); (fail_if_success (with_reducible show wpAny _ _ (call (Value.builtin "str.split") _) _ _ _)); (fail_if_success (with_reducible show wpAny _ _ (call (Value.builtin "str.rstrip") _) _ _ _)); (fail_if_success (with_reducible show wpAny _ _ (binaryOp _ (Value.str _ _) (Value.str _ _)) _ _ _)); (first | (k_unfold; (try dsimp only)) | walk1 | (dsimp only; walk1) | (leave1; (try dsimp only)) | fail "no step")))
          with_reducible rename IsRange _ _ _ _ _ _ _ _ => hIR2
          with_reducible rename Fr _ _ _ _ => F13
          with_reducible rename News _ _ _ _ => N13
          rw [hpl] at hIR2
          have hr10 := rngN ⟨(esc b c).length, by omega⟩
          have N13' := newsSub N13 (b := (LN, listOf vs nn) :: ((PL, listOf pv pn) :: ([(R, listOf rv rn), (D, LCg.lst ys), (s.heap.objs.size + 1, oc)] ++ own))) (by
            intro p hp
            rcases List.mem_cons.mp hp with rfl | hp
            · exact .tail _ (.head _)
            · rcases List.mem_cons.mp hp with rfl | hp
              · exact .head _
              · exact .tail _ (.tail _ hp))
          have hLPL : LN ≠ PL := hPne _ (.head _)
          refine' iterR (JIn (esc b c) P (addEach lines ((esc b c).zip P)) (offAt b text (i + 1)) (offAt b text i) (kM + 1) LN ((PL, listOf pv pn) :: ([(R, listOf rv rn), (D, LCg.lst ys), (s.heap.objs.size + 1, oc)] ++ own)) nn (bmo (bmo (fun _ => none) [("lines", some (.ref LN)), ("rows", some (.ref R)), ("spelled", some (.ref D)), ("width", some (.int (m : Nat) u)), ("text", some (.str (S text) t))]) [("places", some (.ref PL)), ("piece", some (.str (S (esc b c)) tp)), ("k", some (.int (i : Nat) tk5))])) (by exact hh) hIR2 hr10.1 hr10.2 F13 N13' ?i0 ?iturn ?idone
          case i0 =>
            ·
              exact ⟨vs, lines, uj, _, rfl, hvs, hll, fun l hl => by have := hlb1 l hl; omega, by
                refine (?_ : ∀ z, _ = bmo (bmo (fun _ => none) [("lines", some (.ref LN)), ("rows", some (.ref R)), ("spelled", some (.ref D)), ("width", some (.int (m : Nat) u)), ("text", some (.str (S text) t))]) [("j", uj), ("at", some (.int (offAt b text (i + 1) : Nat) _)), ("places", some (.ref PL)), ("piece", some (.str (S (esc b c)) tp)), ("k", some (.int (i : Nat) tk5))] z)
                rw [hoff1, ← hpl]; (first | (refine bmo_ext2 _ ?_ ?_; (· ((repeat refine And.intro rfl ?_); exact True.intro)); (· (intro y hy; (repeat (refine ite_skip (by first | exact hy.1 | exact hy.2.1 | exact hy.2.2.1 | exact hy.2.2.2.1 | exact hy.2.2.2.2.1 | exact hy.2.2.2.2.2.1) ?_)); rfl))) | (refine bmo_ext _ ?_ ?_; (· ((repeat refine List.forall_mem_cons.mpr ⟨rfl, ?_⟩); exact List.forall_mem_nil _)); (· (intro y hy; (try simp only [List.forall_mem_cons] at hy); (try simp only [hy, ↓reduceIte]); (try rfl))))), by rw [List.drop_zero]⟩
          case iturn =>
            clear F13 N13 N13'
            intro j tj m₂ nx2 h16 tk16 own2 hj hadr2 hoff2 hJ0
            clear hadr2
            refine JIn.elim (G := fun z => Fr _ _ _ _ → News _ _ _ (z ++ own2) → _) hJ0 ?_
            clear hJ0
            intro vs2 lines2 uj2 ta2 hvs2 hll2 hlb2 hm2 hgo2 F16 N16
            replace hj : j < (esc b c).length := hj
            replace F16 := frAs F16 (m' := bmo (bmo (bmo (fun _ => none) [("lines", some (.ref LN)), ("rows", some (.ref R)), ("spelled", some (.ref D)), ("width", some (.int (m : Nat) u)), ("text", some (.str (S text) t))]) [("places", some (.ref PL)), ("piece", some (.str (S (esc b c)) tp)), ("k", some (.int (i : Nat) tk5))]) [("j", some (.int (j : Nat) tj)), ("at", some (.int (offAt b text (i + 1) : Nat) ta2))]) (fun y => by
              by_cases hy : y = Str.ofString "j"
              · simp only [bmo, if_pos hy, Int.zero_add]
              · rw [if_neg hy, hm2]; simp only [bmo, if_neg hy])
            dsimp only [bmo] at F16
            clear hm2
            obtain ⟨cj, hcj⟩ : ∃ cj, (esc b c)[j]? = some cj := ⟨_, List.getElem?_eq_getElem hj⟩
            obtain ⟨rj, hrj⟩ : ∃ rj, P[j]? = some rj := ⟨_, List.getElem?_eq_getElem (by rw [hdl]; exact hj)⟩
            obtain ⟨trj, hvj⟩ := ints_get hpi hrj
            have hrjb := hrb rj (List.mem_of_getElem? hrj)
            have hvl2 : vs2.size = kM + 1 := by rw [← Array.length_toList, hvs2.len, hll2]
            obtain ⟨lx2, hlx2⟩ : ∃ lx, lines2[rj.toNat]? = some lx := ⟨_, List.getElem?_eq_getElem (by omega)⟩
            obtain ⟨tl2, hvx2⟩ := hvs2.at hlx2
            have hitem2 : Txt.item (S (esc b c)) j = S [cj] := by
              rw [item_S hj]
              rw [List.getElem?_eq_getElem hj] at hcj
              rw [Option.some.inj hcj]
            have hjlt : (j : Int) < (S (esc b c)).length := by rw [S_len]; omega
            rw [zip_drop hcj hrj] at hgo2
            replace N16 : News s.heap s.heap.objs.size h16 ((LN, listOf vs2 nn) :: (((PL, listOf pv pn) :: ([(R, listOf rv rn), (D, LCg.lst ys), (s.heap.objs.size + 1, oc)] ++ own)) ++ own2)) := N16
            refine postIs ?_
            intro P2 hP2
            (repeat' ((fail_if_success (with_reducible show InvPostN _ _ _ _ _ _ _ _ _)); (fail_if_success (with_reducible show WhileStep2 _ _ _ _ _ _ _ _)); (fail_if_success (with_reducible show InvEndN _ _ _ _ _ _ _)); (fail_if_success (with_reducible show wpAny _ _ (exec (PySem.Stmt.For _ _ _ _ _) _) _ _ _)); (fail_if_success (with_reducible show wpAny _ _ (exec (PySem.Stmt.Assign _ (PySem.Expr.ListComp _ _ _ _) _) _) _ _ _)); (fail_if_success (with_reducible show wpAny _ _ (getMethod (Value.ref _) _ _) _ _ _)); (fail_if_success (with_reducible show wpAny _ _ (call (Value.builtin "dict.get") _) _ _ _)); (fail_if_success (with_reducible show wpAny _ _ (call (Value.builtin "str.join") _) _ _ _)); (fail_if_success (with_reducible show wpAny _ _ (call (Value.ref 105) _) _ _ _)); (fail_if_success (with_reducible show wpAny _ _ (pyIter _) _ _ _)); (fail_if_success (with_reducible show wpAny _ _ (subscriptTail _ _ (Value.ref _) _) _ _ _)); (fail_if_success (with_reducible show wpAny _ _ (setItem _ _ _) _ _ _)); (fail_if_success (with_reducible show wpAny _ _ (call (Value.builtin "str.replace") _) _ _ _)); (fail_if_success (with_reducible show wpAny _ _ (call (Value.builtin "str.split") _) _ _ _)); (fail_if_success (with_reducible show wpAny _ _ (call (Value.builtin "str.rstrip") _) _ _ _)); (fail_if_success (with_reducible show wpAny _ _ (binaryOp _ (Value.str _ _) (Value.str _ _)) _ _ _)); (first | (k_unfold; (try dsimp only)) | walk1 | (dsimp only; walk1) | (leave1; (try dsimp only)) | fail "no step")))
            refine sub_nn (isl (vs := pv) (n := pn) (by assumption) (.tail _ (.head _))) (by omega) (by omega) (v := .int rj trj) (by rw [← Array.getElem?_toList]; exact hvj) ?_
            (repeat' ((fail_if_success (with_reducible show InvPostN _ _ _ _ _ _ _ _ _)); (fail_if_success (with_reducible show WhileStep2 _ _ _ _ _ _ _ _)); (fail_if_success (with_reducible show InvEndN _ _ _ _ _ _ _)); (fail_if_success (with_reducible show wpAny _ _ (exec (PySem.Stmt.For _ _ _ _ _) _) _ _ _)); (fail_if_success (with_reducible show wpAny _ _ (exec (PySem.Stmt.Assign _ (PySem.Expr.ListComp _ _ _ _) _) _) _ _ _)); (fail_if_success (with_reducible show wpAny _ _ (getMethod (Value.ref _) _ _) _ _ _)); (fail_if_success (with_reducible show wpAny _ _ (call (Value.builtin "dict.get") _) _ _ _)); (fail_if_success (with_reducible show wpAny _ _ (call (Value.builtin "str.join") _) _ _ _)); (fail_if_success (with_reducible show wpAny _ _ (call (Value.ref 105) _) _ _ _)); (fail_if_success (with_reducible show wpAny _ _ (pyIter _) _ _ _)); (fail_if_success (with_reducible show wpAny _ _ (subscriptTail _ _ (Value.ref _) _) _ _ _)); (fail_if_success (with_reducible show wpAny _ _ (setItem _ _ _) _ _ _)); (fail_if_success (with_reducible show wpAny _ _ (call (Value.builtin "str.replace") _) _ _ _)); (fail_if_success (with_reducible show wpAny _ _ (call (Value.builtin "str.split") _) _ _ _)); (fail_if_success (with_reducible show wpAny _ _ (call (Value.builtin "str.rstrip") _) _ _ _)); (fail_if_success (with_reducible show wpAny _ _ (binaryOp _ (Value.str _ _) (Value.str _ _)) _ _ _)); (first | (k_unfold; (try dsimp only)) | walk1 | (dsimp only; walk1) | (leave1; (try dsimp only)) | fail "no step")))
            refine sub_nn (isl (vs := vs2) (n := nn) (by assumption) (.head _)) hrjb.1 (by omega) (v := .str (S lx2) tl2) (by rw [← Array.getElem?_toList]; exact hvx2) ?_
            (repeat' ((fail_if_success (with_reducible show InvPostN _ _ _ _ _ _ _ _ _)); (fail_if_success (with_reducible show WhileStep2 _ _ _ _ _ _ _ _)); (fail_if_success (with_reducible show InvEndN _ _ _ _ _ _ _)); (fail_if_success (with_reducible show wpAny _ _ (exec (PySem.Stmt.For _ _ _ _ _) _) _ _ _)); (fail_if_success (with_reducible show wpAny _ _ (exec (PySem.Stmt.Assign _ (PySem.Expr.ListComp _ _ _ _) _) _) _ _ _)); (fail_if_success (with_reducible show wpAny _ _ (getMethod (Value.ref _) _ _) _ _ _)); (fail_if_success (with_reducible show wpAny _ _ (call (Value.builtin "dict.get") _) _ _ _)); (fail_if_success (with_reducible show wpAny _ _ (call (Value.builtin "str.join") _) _ _ _)); (fail_if_success (with_reducible show wpAny _ _ (call (Value.ref 105) _) _ _ _)); (fail_if_success (with_reducible show wpAny _ _ (pyIter _) _ _ _)); (fail_if_success (with_reducible show wpAny _ _ (subscriptTail _ _ (Value.ref _) _) _ _ _)); (fail_if_success (with_reducible show wpAny _ _ (setItem _ _ _) _ _ _)); (fail_if_success (with_reducible show wpAny _ _ (call (Value.builtin "str.replace") _) _ _ _)); (fail_if_success (with_reducible show wpAny _ _ (call (Value.builtin "str.split") _) _ _ _)); (fail_if_success (with_reducible show wpAny _ _ (call (Value.builtin "str.rstrip") _) _ _ _)); (fail_if_success (with_reducible show wpAny _ _ (binaryOp _ (Value.str _ _) (Value.str _ _)) _ _ _)); (first | (k_unfold; (try dsimp only)) | walk1 | (dsimp only; walk1) | (leave1; (try dsimp only)) | fail "no step")))
            refine SBL.add (hsz := ?hsz2) ?_
            case hsz2 =>
              have := hlb2 lx2 (List.mem_of_getElem? hlx2)
              rw [hitem2, S_len, S_len]
              unfold sizeLine
              simp
              omega
            intro t8 k8
            (repeat' ((fail_if_success (with_reducible show InvPostN _ _ _ _ _ _ _ _ _)); (fail_if_success (with_reducible show WhileStep2 _ _ _ _ _ _ _ _)); (fail_if_success (with_reducible show InvEndN _ _ _ _ _ _ _)); (fail_if_success (with_reducible show wpAny _ _ (exec (PySem.Stmt.For _ _ _ _ _) _) _ _ _)); (fail_if_success (with_reducible show wpAny _ _ (exec (PySem.Stmt.Assign _ (PySem.Expr.ListComp _ _ _ _) _) _) _ _ _)); (fail_if_success (with_reducible show wpAny _ _ (getMethod (Value.ref _) _ _) _ _ _)); (fail_if_success (with_reducible show wpAny _ _ (call (Value.builtin "dict.get") _) _ _ _)); (fail_if_success (with_reducible show wpAny _ _ (call (Value.builtin "str.join") _) _ _ _)); (fail_if_success (with_reducible show wpAny _ _ (call (Value.ref 105) _) _ _ _)); (fail_if_success (with_reducible show wpAny _ _ (pyIter _) _ _ _)); (fail_if_success (with_reducible show wpAny _ _ (subscriptTail _ _ (Value.ref _) _) _ _ _)); (fail_if_success (with_reducible show wpAny _ _ (setItem _ _ _) _ _ _)); (fail_if_success (with_reducible show wpAny _ _ (call (Value.builtin "str.replace") _) _ _ _)); (fail_if_success (with_reducible show wpAny _ _ (call (Value.builtin "str.split") _) _ _ _)); (fail_if_success (with_reducible show wpAny _ _ (call (Value.builtin "str.rstrip") _) _ _ _)); (fail_if_success (with_reducible show wpAny _ _ (binaryOp _ (Value.str _ _) (Value.str _ _)) _ _ _)); (first | (k_unfold; (try dsimp only)) | walk1 | (dsimp only; walk1) | (leave1; (try dsimp only)) | fail "no step")))
            refine sub_nn (isl (vs := pv) (n := pn) (by assumption) (.tail _ (.head _))) (by omega) (by omega) (v := .int rj trj) (by rw [← Array.getElem?_toList]; exact hvj) ?_
            (repeat' ((fail_if_success (with_reducible show InvPostN _ _ _ _ _ _ _ _ _)); (fail_if_success (with_reducible show WhileStep2 _ _ _ _ _ _ _ _)); (fail_if_success (with_reducible show InvEndN _ _ _ _ _ _ _)); (fail_if_success (with_reducible show wpAny _ _ (exec (PySem.Stmt.For _ _ _ _ _) _) _ _ _)); (fail_if_success (with_reducible show wpAny _ _ (exec (PySem.Stmt.Assign _ (PySem.Expr.ListComp _ _ _ _) _) _) _ _ _)); (fail_if_success (with_reducible show wpAny _ _ (getMethod (Value.ref _) _ _) _ _ _)); (fail_if_success (with_reducible show wpAny _ _ (call (Value.builtin "dict.get") _) _ _ _)); (fail_if_success (with_reducible show wpAny _ _ (call (Value.builtin "str.join") _) _ _ _)); (fail_if_success (with_reducible show wpAny _ _ (call (Value.ref 105) _) _ _ _)); (fail_if_success (with_reducible show wpAny _ _ (pyIter _) _ _ _)); (fail_if_success (with_reducible show wpAny _ _ (subscriptTail _ _ (Value.ref _) _) _ _ _)); (fail_if_success (with_reducible show wpAny _ _ (setItem _ _ _) _ _ _)); (fail_if_success (with_reducible show wpAny _ _ (call (Value.builtin "str.replace") _) _ _ _)); (fail_if_success (with_reducible show wpAny _ _ (call (Value.builtin "str.split") _) _ _ _)); (fail_if_success (with_reducible show wpAny _ _ (call (Value.builtin "str.rstrip") _) _ _ _)); (fail_if_success (with_reducible show wpAny _ _ (binaryOp _ (Value.str _ _) (Value.str _ _)) _ _ _)); (first | (k_unfold; (try dsimp only)) | walk1 | (dsimp only; walk1) | (leave1; (try dsimp only)) | fail "no step")))
            with_reducible rename Fr _ _ _ _ => F17
            with_reducible rename News _ _ _ _ => N17
            refine set_nn F17 N17 ?hne2 hrjb.1 (by omega) (by omega) ?_
            case hne2 =>
              intro p hp
              rcases List.mem_append.mp hp with hp | hp
              · rcases List.mem_cons.mp hp with rfl | hp
                · exact Ne.symm hLPL
                · rcases List.mem_append.mp hp with hp | hp
                  · simp only [List.mem_cons, List.not_mem_nil, or_false] at hp
                    rcases hp with rfl | rfl | rfl
                    · exact hRL'
                    · exact hDL'
                    · exact hcL
                  · exact hown p hp
              · exact hoff2 p hp LN (.head _)
            intro h18 F18 N18
            clear F17 N17
            (repeat' ((fail_if_success (with_reducible show InvPostN _ _ _ _ _ _ _ _ _)); (fail_if_success (with_reducible show WhileStep2 _ _ _ _ _ _ _ _)); (fail_if_success (with_reducible show InvEndN _ _ _ _ _ _ _)); (fail_if_success (with_reducible show wpAny _ _ (exec (PySem.Stmt.For _ _ _ _ _) _) _ _ _)); (fail_if_success (with_reducible show wpAny _ _ (exec (PySem.Stmt.Assign _ (PySem.Expr.ListComp _ _ _ _) _) _) _ _ _)); (fail_if_success (with_reducible show wpAny _ _ (getMethod (Value.ref _) _ _) _ _ _)); (fail_if_success (with_reducible show wpAny _ _ (call (Value.builtin "dict.get") _) _ _ _)); (fail_if_success (with_reducible show wpAny _ _ (call (Value.builtin "str.join") _) _ _ _)); (fail_if_success (with_reducible show wpAny _ _ (call (Value.ref 105) _) _ _ _)); (fail_if_success (with_reducible show wpAny _ _ (pyIter _) _ _ _)); (fail_if_success (with_reducible show wpAny _ _ (subscriptTail _ _ (Value.ref _) _) _ _ _)); (fail_if_success (with_reducible show wpAny _ _ (setItem _ _ _) _ _ _)); (fail_if_success (with_reducible show wpAny _ _ (call (Value.builtin "str.replace") _) _ _ _)); (fail_if_success (with_reducible show wpAny _ _ (call (Value.builtin "str.split") _) _ _ _)); (fail_if_success (with_reducible show wpAny _ _ (call (Value.builtin "str.rstrip") _) _ _ _)); (fail_if_success (with_reducible show wpAny _ _ (binaryOp _ (Value.str _ _) (Value.str _ _)) _ _ _)); (first | (k_unfold; (try dsimp only)) | walk1 | (dsimp only; walk1) | (leave1; (try dsimp only)) | fail "no step")))
            ·
              refine PostIs.use hP2 ?_
              exact edIn (by assumption) (by assumption) (addAt_texts hvs2 hlx2 (by rw [hitem2, S_app])) (by rw [addAt_size]; exact hll2) (fun l hl => by have := addAt_len hlb2 l hl; omega) (by (first | (refine bmo_ext2 _ ?_ ?_; (· ((repeat refine And.intro rfl ?_); exact True.intro)); (· (intro y hy; (repeat (refine ite_skip (by first | exact hy.1 | exact hy.2.1 | exact hy.2.2.1 | exact hy.2.2.2.1 | exact hy.2.2.2.2.1 | exact hy.2.2.2.2.2.1) ?_)); rfl))) | (refine bmo_ext _ ?_ ?_; (· ((repeat refine List.forall_mem_cons.mpr ⟨rfl, ?_⟩); exact List.forall_mem_nil _)); (· (intro y hy; (try simp only [List.forall_mem_cons] at hy); (try simp only [hy, ↓reduceIte]); (try rfl)))))) hgo2
          case idone =>
            clear F13 N13 N13'
            intro m₂ nx2 h16 tk16 hJ0
            refine JIn.elim (G := fun z => Fr _ _ _ _ → News _ _ _ z → _) hJ0 ?_
            clear hJ0
            intro vs2 lines2 uj2 ta2 hvs2 hll2 hlb2 hm2 hgo2 F16 N16
            have F17 := frAs F16 hm2
            dsimp only [bmo] at F17
            clear F16 hm2
            have hz : ((esc b c).zip P).drop (esc b c).length = [] := List.drop_eq_nil_of_le (by rw [List.length_zip]; omega)
            replace hlb2 : ∀ l ∈ lines2, l.length ≤ offAt b text i + (esc b c).length := hlb2
            replace hgo2 : addEach lines2 (((esc b c).zip P).drop (esc b c).length) = addEach lines ((esc b c).zip P) := hgo2
            rw [hz] at hgo2
            replace hgo2 : lines2 = addEach lines ((esc b c).zip P) := hgo2
            have N17 := newsSub N16 (b := (LN, listOf vs2 nn) :: ([(R, listOf rv rn), (D, LCg.lst ys), (s.heap.objs.size + 1, oc)] ++ own)) (by
              intro p hp
              rcases List.mem_cons.mp hp with rfl | hp
              · exact .head _
              · exact .tail _ (.tail _ hp))
            clear N16
            dsimp only
            (repeat' ((fail_if_success (with_reducible show InvPostN _ _ _ _ _ _ _ _ _)); (fail_if_success (with_reducible show WhileStep2 _ _ _ _ _ _ _ _)); (fail_if_success (with_reducible show InvEndN _ _ _ _ _ _ _)); (fail_if_success (with_reducible show wpAny _ _ (exec (PySem.Stmt.For _ _ _ _ _) _) _ _ _)); (fail_if_success (with_reducible show wpAny _ _ (exec (PySem.Stmt.Assign _ (PySem.Expr.ListComp _ _ _ _) _) _) _ _ _)); (fail_if_success (with_reducible show wpAny _ _ (getMethod (Value.ref _) _ _) _ _ _)); (fail_if_success (with_reducible show wpAny _ _ (call (Value.builtin "dict.get") _) _ _ _)); (fail_if_success (with_reducible show wpAny _ _ (call (Value.builtin "str.join") _) _ _ _)); (fail_if_success (with_reducible show wpAny _ _ (call (Value.ref 105) _) _ _ _)); (fail_if_success (with_reducible show wpAny _ _ (pyIter _) _ _ _)); (fail_if_success (with_reducible show wpAny _ _ (subscriptTail _ _ (Value.ref _) _) _ _ _)); (fail_if_success (with_reducible show wpAny _ _ (setItem _ _ _) _ _ _)); (fail_if_success (with_reducible show wpAny _ _ (call (Value.builtin "str.replace") _) _ _ _)); (fail_if_success (with_reducible show wpAny _ _ (call (Value.builtin "str.split") _) _ _ _)); (fail_if_success (with_reducible show wpAny _ _ (call (Value.builtin "str.rstrip") _) _ _ _)); (fail_if_success (with_reducible show wpAny _ _ (binaryOp _ (Value.str _ _) (Value.str _ _)) _ _ _)); (first | (k_unfold; (try dsimp only)) | walk1 | (dsimp only; walk1) | (leave1; (try dsimp only)) | fail "no step")))
            ·
              refine PostIs.use hPP ?_
              exact ed (by assumption) (by assumption) hvs2 hll2 (fun l hl => by have := hlb2 l hl; omega) (by (first | (refine bmo_ext2 _ ?_ ?_; (· ((repeat refine And.intro rfl ?_); exact True.intro)); (· (intro y hy; (repeat (refine ite_skip (by first | exact hy.1 | exact hy.2.1 | exact hy.2.2.1 | exact hy.2.2.2.1 | exact hy.2.2.2.2.1 | exact hy.2.2.2.2.2.1) ?_)); rfl))) | (refine bmo_ext _ ?_ ?_; (· ((repeat refine List.forall_mem_cons.mpr ⟨rfl, ?_⟩); exact List.forall_mem_nil _)); (· (intro y hy; (try simp only [List.forall_mem_cons] at hy); (try simp only [hy, ↓reduceIte]); (try rfl)))))) (by
                rw [← hgo, hgo2]
                unfold layOne
                rw [hPh, hr1, if_neg (fun e => he01 (Option.some.inj e))])
      case done =>
        intro m₁ nx h11 tk11 hJ0
        refine JDue.elim (G := fun z => Fr _ _ _ _ → News _ _ _ z → _) hJ0 ?_
        clear hJ0
        intro vs nn lines t1 uk up ul uj hvs hll hlb1 hm1 hgo F10 N10
        clear F9 N9
        replace F10 := frAs F10 hm1
        dsimp only [bmo] at F10
        clear hm1
        have htd : text.drop text.length = [] := List.drop_eq_nil_of_le (Nat.le_refl _)
        replace hgo : layGo b lines (text.drop text.length) ((lawRows (m : Int) (escL b text)).drop (offAt b text text.length)) = linesAt b m text := hgo
        rw [htd] at hgo
        replace hgo : lines = linesAt b m text := hgo
        replace hlb1 : ∀ l ∈ lines, l.length ≤ offAt b text text.length := hlb1
        have hofl := offAt_le b text text.length
        dsimp only
        (repeat' ((fail_if_success (with_reducible show InvPostN _ _ _ _ _ _ _ _ _)); (fail_if_success (with_reducible show WhileStep2 _ _ _ _ _ _ _ _)); (fail_if_success (with_reducible show InvEndN _ _ _ _ _ _ _)); (fail_if_success (with_reducible show wpAny _ _ (exec (PySem.Stmt.For _ _ _ _ _) _) _ _ _)); (fail_if_success (with_reducible show wpAny _ _ (exec (PySem.Stmt.Assign _ (PySem.Expr.ListComp _ _ _ _) _) _) _ _ _)); (fail_if_success (with_reducible show wpAny _ _ (getMethod (Value.ref _) _ _) _ _ _)); (fail_if_success (with_reducible show wpAny _ _ (call (Value.builtin "dict.get") _) _ _ _)); (fail_if_success (with_reducible show wpAny _ _ (call (Value.builtin "str.join") _) _ _ _)); (fail_if_success (with_reducible show wpAny _ _ (call (Value.ref 105) _) _ _ _)); (fail_if_success (with_reducible show wpAny _ _ (pyIter _) _ _ _)); (fail_if_success (with_reducible show wpAny _ _ (subscriptTail _ _ (Value.ref _) _) _ _ _)); (fail_if_success (with_reducible show wpAny _ _ (setItem _ _ _) _ _ _)); (fail_if_success (with_reducible show wpAny _ _ (call (Value.builtin "str.replace") _) _ _ _)); (fail_if_success (with_reducible show wpAny _ _ (call (Value.builtin "str.split") _) _ _ _)); (fail_if_success (with_reducible show wpAny _ _ (call (Value.builtin "str.rstrip") _) _ _ _)); (fail_if_success (with_reducible show wpAny _ _ (binaryOp _ (Value.str _ _) (Value.str _ _)) _ _ _)); (first | (k_unfold; (try dsimp only)) | walk1 | (dsimp only; walk1) | (leave1; (try dsimp only)) | fail "no step")))
        refine wpAny_For ?_
        (repeat' ((fail_if_success (with_reducible show InvPostN _ _ _ _ _ _ _ _ _)); (fail_if_success (with_reducible show WhileStep2 _ _ _ _ _ _ _ _)); (fail_if_success (with_reducible show InvEndN _ _ _ _ _ _ _)); (fail_if_success (with_reducible show wpAny _ _ (exec (PySem.Stmt.For _ _ _ _ _) _) _ _ _)); (fail_if_success (with_reducible show wpAny _ _ (exec (PySem.Stmt.Assign _ (PySem.Expr.ListComp _ _ _ _) _) _) _ _ _)); (fail_if_success (with_reducible show wpAny _ _ (getMethod (Value.ref _) _ _) _ _ _)); (fail_if_success (with_reducible show wpAny _ _ (call (Value.builtin "dict.get") _) _ _ _)); (fail_if_success (with_reducible show wpAny _ _ (call (Value.builtin "str.join") _) _ _ _)); (fail_if_success (with_reducible show wpAny _ _ (call (Value.ref 105) _) _ _ _)); (fail_if_success (with_reducible show wpAny _ _ (pyIter _) _ _ _)); (fail_if_success (with_reducible show wpAny _ _ (subscriptTail _ _ (Value.ref _) _) _ _ _)); (fail_if_success (with_reducible show wpAny _ _ (setItem _ _ _) _ _ _)); (fail_if_success (with_reducible show wpAny _ _ (call (Value.builtin "str.replace") _) _ _ _)); (fail_if_success (with_reducible show wpAny _ _ (call (Value.builtin "str.split") _) _ _ _)); (fail_if_success (with_reducible show wpAny _ _ (call (Value.builtin "str.rstrip") _) _ _ _)); (fail_if_success (with_reducible show wpAny _ _ (binaryOp _ (Value.str _ _) (Value.str _ _)) _ _ _)); (first | (k_unfold; (try dsimp only)) | walk1 | (dsimp only; walk1) | (leave1; (try dsimp only)) | fail "no step")))
        have hvl : vs.size = kM + 1 := by rw [← Array.length_toList, hvs.len, hll]
        refine Calls.call_len_list (isl (vs := vs) (n := nn) (by assumption) (.head _)) (by omega) ?_
        rw [hvl]
        (repeat' ((fail_if_success (with_reducible show InvPostN _ _ _ _ _ _ _ _ _)); (fail_if_success (with_reducible show WhileStep2 _ _ _ _ _ _ _ _)); (fail_if_success (with_reducible show InvEndN _ _ _ _ _ _ _)); (fail_if_success (with_reducible show wpAny _ _ (exec (PySem.Stmt.For _ _ _ _ _) _) _ _ _)); (fail_if_success (with_reducible show wpAny _ _ (exec (PySem.Stmt.Assign _ (PySem.Expr.ListComp _ _ _ _) _) _) _ _ _)); (fail_if_success (with_reducible show wpAny _ _ (getMethod (Value.ref _) _ _) _ _ _)); (fail_if_success (with_reducible show wpAny _ _ (call (Value.builtin "dict.get") _) _ _ _)); (fail_if_success (with_reducible show wpAny _ _ (call (Value.builtin "str.join") _) _ _ _)); (fail_if_success (with_reducible show wpAny _ _ (call (Value.ref 105) _) _ _ _)); (fail_if_success (with_reducible show wpAny _ _ (pyIter _) _ _ _)); (fail_if_success (with_reducible show wpAny _ _ (subscriptTail _ _ (Value.ref _) _) _ _ _)); (fail_if_success (with_reducible show wpAny _ _ (setItem _ _ _) _ _ _)); (fail_if_success (with_reducible show wpAny _ _ (call (Value.builtin "str.replace") _) _ _ _)); (fail_if_success (with_reducible show wpAny _ _ (call (Value.builtin "str.split") _) _ _ _)); (fail_if_success (with_reducible show wpAny _ _ (call (Value.builtin "str.rstrip") _) _ _ _)); (fail_if_success (with_reducible show wpAny _ _ (binaryOp _ (Value.str _ _) (Value.str _ _)) _ _ _)); (first | (k_unfold; (try dsimp only)) | walk1 | (dsimp only; walk1) | (leave1; (try dsimp only)) | fail "no step")))
        with_reducible rename IsRange _ _ _ _ _ _ _ _ => hIR2
        with_reducible rename Fr _ _ _ _ => F11
        with_reducible rename News _ _ _ _ => N11
        have hr10 := rngN ⟨kM + 1, by omega⟩
        have N12 := newsSub N11 (b := [(LN, listOf vs nn)]) (fun p hp => by rw [List.mem_singleton.mp hp]; exact .head _)
        refine' rangeT (J2 (decide (text.getLast? = some 32)) lines LN (listOf vs nn) (bmo (bmo (fun _ => none) [("lines", some (.ref LN)), ("rows", some (.ref R)), ("spelled", some (.ref D)), ("width", some (.int (m : Nat) u)), ("text", some (.str (S text) t))]) [("j", uj), ("places", ul), ("piece", up), ("at", some (.int (offAt b text text.length : Nat) t1))])) rfl rfl (by exact hh) hIR2 hr10.1 hr10.2 F11 N12 ?k0 ?kturn ?kdone
        case k0 =>
          ·
            exact ⟨[], _, uk, none, none, rfl, by (first | (refine bmo_ext2 _ ?_ ?_; (· ((repeat refine And.intro rfl ?_); exact True.intro)); (· (intro y hy; (repeat (refine ite_skip (by first | exact hy.1 | exact hy.2.1 | exact hy.2.2.1 | exact hy.2.2.2.1 | exact hy.2.2.2.2.1 | exact hy.2.2.2.2.2.1) ?_)); rfl))) | (refine bmo_ext _ ?_ ?_; (· ((repeat refine List.forall_mem_cons.mpr ⟨rfl, ?_⟩); exact List.forall_mem_nil _)); (· (intro y hy; (try simp only [List.forall_mem_cons] at hy); (try simp only [hy, ↓reduceIte]); (try rfl))))), by simp, rfl⟩
        case kturn =>
          intro i tk5 m₁ nx h12 tk12 own hpos2 hi hadr hoff hJ0
          clear hadr
          refine J2.elim (G := fun z => Fr _ _ _ _ → News _ _ _ (z ++ own) → _) hJ0 ?_
          clear hJ0
          intro acc ta uk2 upa upt hm2 hacc hgo2 F12 N12'
          replace hi : i < kM + 1 := hi
          have hilt : i < lines.length := by omega
          obtain ⟨lx, hlx⟩ : ∃ lx, lines[i]? = some lx := ⟨_, List.getElem?_eq_getElem hilt⟩
          obtain ⟨tl, hvx⟩ := hvs.at hlx
          have hlxl : lx.length ≤ 54 := Nat.le_trans (hlb1 lx (List.mem_of_getElem? hlx)) (by omega)
          have hdr : lines.drop i = lx :: lines.drop (i + 1) := by
            obtain ⟨hlt, he⟩ := List.getElem?_eq_some_iff.mp hlx
            rw [List.drop_eq_getElem_cons hlt, he]
          rw [hdr] at hgo2
          replace F12 := frAs F12 (m' := bmo (bmo (bmo (fun _ => none) [("lines", some (.ref LN)), ("rows", some (.ref R)), ("spelled", some (.ref D)), ("width", some (.int (m : Nat) u)), ("text", some (.str (S text) t))]) [("j", uj), ("places", ul), ("piece", up), ("at", some (.int (offAt b text text.length : Nat) t1))]) [("k", some (.int (i : Nat) tk5)), ("part", upt), ("parts", upa), ("due", some (.str (S acc) ta))]) (fun y => by
            by_cases hy : y = Str.ofString "k"
            · simp only [bmo, if_pos hy]
            · rw [if_neg hy, hm2]; simp only [bmo, if_neg hy])
          dsimp only [bmo] at F12
          clear hm2 F10 N10 F11 N11 N12
          have hown : ∀ p ∈ own, p.1 ≠ LN := fun p hp => hoff p hp LN (by simp)
          refine postIs ?_
          intro PP hPP
          (repeat' ((fail_if_success (with_reducible show InvPostN _ _ _ _ _ _ _ _ _)); (fail_if_success (with_reducible show WhileStep2 _ _ _ _ _ _ _ _)); (fail_if_success (with_reducible show InvEndN _ _ _ _ _ _ _)); (fail_if_success (with_reducible show wpAny _ _ (exec (PySem.Stmt.For _ _ _ _ _) _) _ _ _)); (fail_if_success (with_reducible show wpAny _ _ (exec (PySem.Stmt.Assign _ (PySem.Expr.ListComp _ _ _ _) _) _) _ _ _)); (fail_if_success (with_reducible show wpAny _ _ (getMethod (Value.ref _) _ _) _ _ _)); (fail_if_success (with_reducible show wpAny _ _ (call (Value.builtin "dict.get") _) _ _ _)); (fail_if_success (with_reducible show wpAny _ _ (call (Value.builtin "str.join") _) _ _ _)); (fail_if_success (with_reducible show wpAny _ _ (call (Value.ref 105) _) _ _ _)); (fail_if_success (with_reducible show wpAny _ _ (pyIter _) _ _ _)); (fail_if_success (with_reducible show wpAny _ _ (subscriptTail _ _ (Value.ref _) _) _ _ _)); (fail_if_success (with_reducible show wpAny _ _ (setItem _ _ _) _ _ _)); (fail_if_success (with_reducible show wpAny _ _ (call (Value.builtin "str.replace") _) _ _ _)); (fail_if_success (with_reducible show wpAny _ _ (call (Value.builtin "str.split") _) _ _ _)); (fail_if_success (with_reducible show wpAny _ _ (call (Value.builtin "str.rstrip") _) _ _ _)); (fail_if_success (with_reducible show wpAny _ _ (binaryOp _ (Value.str _ _) (Value.str _ _)) _ _ _)); (first | (k_unfold; (try dsimp only)) | walk1 | (dsimp only; walk1) | (leave1; (try dsimp only)) | fail "no step")))
          refine sub_nn (isl (vs := vs) (n := nn) (by assumption) (.head _)) (by omega) (by omega) (v := .str (S lx) tl) (by rw [← Array.getElem?_toList]; exact hvx) ?_
          (repeat' ((fail_if_success (with_reducible show InvPostN _ _ _ _ _ _ _ _ _)); (fail_if_success (with_reducible show WhileStep2 _ _ _ _ _ _ _ _)); (fail_if_success (with_reducible show InvEndN _ _ _ _ _ _ _)); (fail_if_success (with_reducible show wpAny _ _ (exec (PySem.Stmt.For _ _ _ _ _) _) _ _ _)); (fail_if_success (with_reducible show wpAny _ _ (exec (PySem.Stmt.Assign _ (PySem.Expr.ListComp _ _ _ _) _) _) _ _ _)); (fail_if_success (with_reducible show wpAny _ _ (getMethod (Value.ref _) _ _) _ _ _)); (fail_if_success (with_reducible show wpAny _ _ (call (Value.builtin "dict.get") _) _ _ _)); (fail_if_success (with_reducible show wpAny _ _ (call (Value.builtin "str.join") _) _ _ _)); (fail_if_success (with_reducible show wpAny _ _ (call (Value.ref 105) _) _ _ _)); (fail_if_success (with_reducible show wpAny _ _ (pyIter _) _ _ _)); (fail_if_success (with_reducible show wpAny _ _ (subscriptTail _ _ (Value.ref _) _) _ _ _)); (fail_if_success (with_reducible show wpAny _ _ (setItem _ _ _) _ _ _)); (fail_if_success (with_reducible show wpAny _ _ (call (Value.builtin "str.replace") _) _ _ _)); (fail_if_success (with_reducible show wpAny _ _ (call (Value.builtin "str.split") _) _ _ _)); (fail_if_success (with_reducible show wpAny _ _ (call (Value.builtin "str.rstrip") _) _ _ _)); (fail_if_success (with_reducible show wpAny _ _ (binaryOp _ (Value.str _ _) (Value.str _ _)) _ _ _)); (first | (k_unfold; (try dsimp only)) | walk1 | (dsimp only; walk1) | (leave1; (try dsimp only)) | fail "no step")))
          have e1310 : Str.ofString "\r\n" = S [13, 10] := by decide +kernel
          have e10 : Str.ofString "\n" = S [10] := by decide +kernel
          have e13 : Str.ofString "\r" = S [13] := by decide +kernel
          have hr1 := rep_len_le (p := [13, 10]) (z := [10]) (by decide) (by decide) _ lx (Nat.le_refl _)
          have hr2 := rep_len_le (p := [13]) (z := [10]) (by decide) (by decide) _ (rep [13, 10] [10] lx) (Nat.le_refl _)
          refine toksN' (n := 1) (Nat.succ_le_succ (Nat.zero_le _)) ?_
          refine SC.replaceW (Nat.ne_of_gt (by omega)) (Nat.ne_of_gt (by omega)) (Nat.ne_of_lt (by omega)) (by decide +kernel) (by rw [S_len]; omega) (by decide +kernel) ?_
          intro t8 k8 hk8
          replace hk8 : 1 ≤ k8 := hk8
          rw [show Txt.replace (S lx) (Str.ofString "\r\n") (Str.ofString "\n") = S (rep [13, 10] [10] lx) from by rw [e1310, e10, replace_S (by decide)]]
          (repeat' ((fail_if_success (with_reducible show InvPostN _ _ _ _ _ _ _ _ _)); (fail_if_success (with_reducible show WhileStep2 _ _ _ _ _ _ _ _)); (fail_if_success (with_reducible show InvEndN _ _ _ _ _ _ _)); (fail_if_success (with_reducible show wpAny _ _ (exec (PySem.Stmt.For _ _ _ _ _) _) _ _ _)); (fail_if_success (with_reducible show wpAny _ _ (exec (PySem.Stmt.Assign _ (PySem.Expr.ListComp _ _ _ _) _) _) _ _ _)); (fail_if_success (with_reducible show wpAny _ _ (getMethod (Value.ref _) _ _) _ _ _)); (fail_if_success (with_reducible show wpAny _ _ (call (Value.builtin "dict.get") _) _ _ _)); (fail_if_success (with_reducible show wpAny _ _ (call (Value.builtin "str.join") _) _ _ _)); (fail_if_success (with_reducible show wpAny _ _ (call (Value.ref 105) _) _ _ _)); (fail_if_success (with_reducible show wpAny _ _ (pyIter _) _ _ _)); (fail_if_success (with_reducible show wpAny _ _ (subscriptTail _ _ (Value.ref _) _) _ _ _)); (fail_if_success (with_reducible show wpAny _ _ (setItem _ _ _) _ _ _)); (fail_if_success (with_reducible show wpAny _ _ (call (Value.builtin "str.replace") _) _ _ _)); (fail_if_success (with_reducible show wpAny _ _ (call (Value.builtin "str.split") _) _ _ _)); (fail_if_success (with_reducible show wpAny _ _ (call (Value.builtin "str.rstrip") _) _ _ _)); (fail_if_success (with_reducible show wpAny _ _ (binaryOp _ (Value.str _ _) (Value.str _ _)) _ _ _)); (first | (k_unfold; (try dsimp only)) | walk1 | (dsimp only; walk1) | (leave1; (try dsimp only)) | fail "no step")))
          refine SC.replaceW (Nat.ne_of_gt (by omega)) (Nat.ne_of_gt (by omega)) (Nat.ne_of_lt (by omega)) (by decide +kernel) (by rw [S_len]; omega) (by decide +kernel) ?_
          intro t9 k9
          rw [show Txt.replace (S (rep [13, 10] [10] lx)) (Str.ofString "\r") (Str.ofString "\n") = S (rep [13] [10] (rep [13, 10] [10] lx)) from by rw [e13, e10, replace_S (by decide)]]
          (repeat' ((fail_if_success (with_reducible show InvPostN _ _ _ _ _ _ _ _ _)); (fail_if_success (with_reducible show WhileStep2 _ _ _ _ _ _ _ _)); (fail_if_success (with_reducible show InvEndN _ _ _ _ _ _ _)); (fail_if_success (with_reducible show wpAny _ _ (exec (PySem.Stmt.For _ _ _ _ _) _) _ _ _)); (fail_if_success (with_reducible show wpAny _ _ (exec (PySem.Stmt.Assign _ (PySem.Expr.ListComp _ _ _ _) _) _) _ _ _)); (fail_if_success (with_reducible show wpAny _ _ (getMethod (Value.ref _) _ _) _ _ _)); (fail_if_success (with_reducible show wpAny _ _ (call (Value.builtin "dict.get") _) _ _ _)); (fail_if_success (with_reducible show wpAny _ _ (call (Value.builtin "str.join") _) _ _ _)); (fail_if_success (with_reducible show wpAny _ _ (call (Value.ref 105) _) _ _ _)); (fail_if_success (with_reducible show wpAny _ _ (pyIter _) _ _ _)); (fail_if_success (with_reducible show wpAny _ _ (subscriptTail _ _ (Value.ref _) _) _ _ _)); (fail_if_success (with_reducible show wpAny _ _ (setItem _ _ _) _ _ _)); (fail_if_success (with_reducible show wpAny _ _ (call (Value.builtin "str.replace") _) _ _ _)); (fail_if_success (with_reducible show wpAny _ _ (call (Value.builtin "str.split") _) _ _ _)); (fail_if_success (with_reducible show wpAny _ _ (call (Value.builtin "str.rstrip") _) _ _ _)); (fail_if_success (with_reducible show wpAny _ _ (binaryOp _ (Value.str _ _) (Value.str _ _)) _ _ _)); (first | (k_unfold; (try dsimp only)) | walk1 | (dsimp only; walk1) | (leave1; (try dsimp only)) | fail "no step")))
          refine split_in F12 N12' e10 (by omega) ?_
          intro PS h13 pv pn k13 F13 N13 hps hPSn
          clear F12 N12'
          (repeat' ((fail_if_success (with_reducible show InvPostN _ _ _ _ _ _ _ _ _)); (fail_if_success (with_reducible show WhileStep2 _ _ _ _ _ _ _ _)); (fail_if_success (with_reducible show InvEndN _ _ _ _ _ _ _)); (fail_if_success (with_reducible show wpAny _ _ (exec (PySem.Stmt.For _ _ _ _ _) _) _ _ _)); (fail_if_success (with_reducible show wpAny _ _ (exec (PySem.Stmt.Assign _ (PySem.Expr.ListComp _ _ _ _) _) _) _ _ _)); (fail_if_success (with_reducible show wpAny _ _ (getMethod (Value.ref _) _ _) _ _ _)); (fail_if_success (with_reducible show wpAny _ _ (call (Value.builtin "dict.get") _) _ _ _)); (fail_if_success (with_reducible show wpAny _ _ (call (Value.builtin "str.join") _) _ _ _)); (fail_if_success (with_reducible show wpAny _ _ (call (Value.ref 105) _) _ _ _)); (fail_if_success (with_reducible show wpAny _ _ (pyIter _) _ _ _)); (fail_if_success (with_reducible show wpAny _ _ (subscriptTail _ _ (Value.ref _) _) _ _ _)); (fail_if_success (with_reducible show wpAny _ _ (setItem _ _ _) _ _ _)); (fail_if_success (with_reducible show wpAny _ _ (call (Value.builtin "str.replace") _) _ _ _)); (fail_if_success (with_reducible show wpAny _ _ (call (Value.builtin "str.split") _) _ _ _)); (fail_if_success (with_reducible show wpAny _ _ (call (Value.builtin "str.rstrip") _) _ _ _)); (fail_if_success (with_reducible show wpAny _ _ (binaryOp _ (Value.str _ _) (Value.str _ _)) _ _ _)); (first | (k_unfold; (try dsimp only)) | walk1 | (dsimp only; walk1) | (leave1; (try dsimp only)) | fail "no step")))
          have hps' : TextsAre pv.toList (partsOf lx) := hps
          obtain ⟨hpl1, hpl2⟩ := splitNl_len (rep [13] [10] (rep [13, 10] [10] lx))
          refine For_invV s.heap rfl rfl ?_
          (repeat' ((fail_if_success (with_reducible show InvPostN _ _ _ _ _ _ _ _ _)); (fail_if_success (with_reducible show WhileStep2 _ _ _ _ _ _ _ _)); (fail_if_success (with_reducible show InvEndN _ _ _ _ _ _ _)); (fail_if_success (with_reducible show wpAny _ _ (exec (PySem.Stmt.For _ _ _ _ _) _) _ _ _)); (fail_if_success (with_reducible show wpAny _ _ (exec (PySem.Stmt.Assign _ (PySem.Expr.ListComp _ _ _ _) _) _) _ _ _)); (fail_if_success (with_reducible show wpAny _ _ (getMethod (Value.ref _) _ _) _ _ _)); (fail_if_success (with_reducible show wpAny _ _ (call (Value.builtin "dict.get") _) _ _ _)); (fail_if_success (with_reducible show wpAny _ _ (call (Value.builtin "str.join") _) _ _ _)); (fail_if_success (with_reducible show wpAny _ _ (call (Value.ref 105) _) _ _ _)); (fail_if_success (with_reducible show wpAny _ _ (pyIter _) _ _ _)); (fail_if_success (with_reducible show wpAny _ _ (subscriptTail _ _ (Value.ref _) _) _ _ _)); (fail_if_success (with_reducible show wpAny _ _ (setItem _ _ _) _ _ _)); (fail_if_success (with_reducible show wpAny _ _ (call (Value.builtin "str.replace") _) _ _ _)); (fail_if_success (with_reducible show wpAny _ _ (call (Value.builtin "str.split") _) _ _ _)); (fail_if_success (with_reducible show wpAny _ _ (call (Value.builtin "str.rstrip") _) _ _ _)); (fail_if_success (with_reducible show wpAny _ _ (binaryOp _ (Value.str _ _) (Value.str _ _)) _ _ _)); (first | (k_unfold; (try dsimp only)) | walk1 | (dsimp only; walk1) | (leave1; (try dsimp only)) | fail "no step")))
          with_reducible rename Fr _ _ _ _ => F14
          with_reducible rename News _ _ _ _ => N14
          refine slice_init (n := pn) F14 N14 (.head _) hps' ?_ (by with_unfolding_all rfl) (by intro _; with_unfolding_all rfl) (by unfold partsOf sizeLine; omega)
          intro D2 h15 dv dn F15 N15 hdv hD2
          clear F14
          have hD2L : D2 ≠ s.heap.objs.size := (N15 _ (.head _)).2.1
          refine' iterL (vs := dv.toList) (nn := dn) (J3 (partsOf lx).dropLast (acc ++ (partsOf lx).dropLast.flatMap (fun p => rstripL bt p ++ [10])) (4000 * i) ((PS, listOf pv pn) :: ((LN, listOf vs nn) :: own)) (bmo (bmo (bmo (fun _ => none) [("lines", some (.ref LN)), ("rows", some (.ref R)), ("spelled", some (.ref D)), ("width", some (.int (m : Nat) u)), ("text", some (.str (S text) t))]) [("j", uj), ("places", ul), ("piece", up), ("at", some (.int (offAt b text text.length : Nat) t1))]) [("parts", some (.ref PS)), ("k", some (.int (i : Nat) tk5))])) (by exact hh) (by rw [Array.toArray_toList]; exact (N15 _ (.head _)).1) hD2L F15 (newsSub N15 (fun p hp => List.mem_cons_of_mem _ hp)) hD2 ?p0 ?pturn ?pdone
          case p0 =>
            ·
              exact ⟨acc, ta, upt, rfl, by
                refine (?_ : ∀ z, _ = bmo (bmo (bmo (fun _ => none) [("lines", some (.ref LN)), ("rows", some (.ref R)), ("spelled", some (.ref D)), ("width", some (.int (m : Nat) u)), ("text", some (.str (S text) t))]) [("j", uj), ("places", ul), ("piece", up), ("at", some (.int (offAt b text text.length : Nat) t1))]) [("part", upt), ("due", some (.str (S acc) ta)), ("parts", some (.ref PS)), ("k", some (.int (i : Nat) tk5))] z)
                (first | (refine bmo_ext2 _ ?_ ?_; (· ((repeat refine And.intro rfl ?_); exact True.intro)); (· (intro y hy; (repeat (refine ite_skip (by first | exact hy.1 | exact hy.2.1 | exact hy.2.2.1 | exact hy.2.2.2.1 | exact hy.2.2.2.2.1 | exact hy.2.2.2.2.2.1) ?_)); rfl))) | (refine bmo_ext _ ?_ ?_; (· ((repeat refine List.forall_mem_cons.mpr ⟨rfl, ?_⟩); exact List.forall_mem_nil _)); (· (intro y hy; (try simp only [List.forall_mem_cons] at hy); (try simp only [hy, ↓reduceIte]); (try rfl))))), by omega, by rw [List.drop_zero]⟩
          case pturn =>
            clear N14
            intro j v m₂ nx2 h16 tk16 own2 hj hadr2 hoff2 hJ0
            clear hadr2
            refine J3.elim (G := fun z => Fr _ _ _ _ → News _ _ _ (z ++ own2) → _) hJ0 ?_
            clear hJ0
            intro acc2 ta2 upt2 hm3 hacc2 hgo3 F16 N16
            obtain ⟨p, tp9, rfl, hpj⟩ := hdv.is hj
            replace F16 := frAs F16 (m' := bmo (bmo (bmo (bmo (fun _ => none) [("lines", some (.ref LN)), ("rows", some (.ref R)), ("spelled", some (.ref D)), ("width", some (.int (m : Nat) u)), ("text", some (.str (S text) t))]) [("j", uj), ("places", ul), ("piece", up), ("at", some (.int (offAt b text text.length : Nat) t1))]) [("parts", some (.ref PS)), ("k", some (.int (i : Nat) tk5))]) [("part", some (.str (S p) tp9)), ("due", some (.str (S acc2) ta2))]) (fun y => by
              by_cases hy : y = Str.ofString "part"
              · simp only [bmo, if_pos hy]
              · rw [if_neg hy, hm3]; simp only [bmo, if_neg hy])
            dsimp only [bmo] at F16
            clear hm3
            have hpm : p ∈ partsOf lx := List.dropLast_subset _ (List.mem_of_getElem? hpj)
            have hpl3 : p.length ≤ 54 := Nat.le_trans (hpl2 p hpm) (by omega)
            have hrs := rstripL_len bt p
            have hjl : j < 55 := by
              have h1 := (List.getElem?_eq_some_iff.mp hpj).1
              rw [List.length_dropLast] at h1
              have : (partsOf lx).length ≤ 55 := Nat.le_trans hpl1 (by omega)
              omega
            have hdr2 : (partsOf lx).dropLast.drop j = p :: (partsOf lx).dropLast.drop (j + 1) := by
              obtain ⟨hlt, he⟩ := List.getElem?_eq_some_iff.mp hpj
              rw [List.drop_eq_getElem_cons hlt, he]
            rw [hdr2] at hgo3
            refine postIs ?_
            intro P3 hP3
            (repeat' ((fail_if_success (with_reducible show InvPostN _ _ _ _ _ _ _ _ _)); (fail_if_success (with_reducible show WhileStep2 _ _ _ _ _ _ _ _)); (fail_if_success (with_reducible show InvEndN _ _ _ _ _ _ _)); (fail_if_success (with_reducible show wpAny _ _ (exec (PySem.Stmt.For _ _ _ _ _) _) _ _ _)); (fail_if_success (with_reducible show wpAny _ _ (exec (PySem.Stmt.Assign _ (PySem.Expr.ListComp _ _ _ _) _) _) _ _ _)); (fail_if_success (with_reducible show wpAny _ _ (getMethod (Value.ref _) _ _) _ _ _)); (fail_if_success (with_reducible show wpAny _ _ (call (Value.builtin "dict.get") _) _ _ _)); (fail_if_success (with_reducible show wpAny _ _ (call (Value.builtin "str.join") _) _ _ _)); (fail_if_success (with_reducible show wpAny _ _ (call (Value.ref 105) _) _ _ _)); (fail_if_success (with_reducible show wpAny _ _ (pyIter _) _ _ _)); (fail_if_success (with_reducible show wpAny _ _ (subscriptTail _ _ (Value.ref _) _) _ _ _)); (fail_if_success (with_reducible show wpAny _ _ (setItem _ _ _) _ _ _)); (fail_if_success (with_reducible show wpAny _ _ (call (Value.builtin "str.replace") _) _ _ _)); (fail_if_success (with_reducible show wpAny _ _ (call (Value.builtin "str.split") _) _ _ _)); (fail_if_success (with_reducible show wpAny _ _ (call (Value.builtin "str.rstrip") _) _ _ _)); (fail_if_success (with_reducible show wpAny _ _ (binaryOp _ (Value.str _ _) (Value.str _ _)) _ _ _)); (first | (k_unfold; (try dsimp only)) | walk1 | (dsimp only; walk1) | (leave1; (try dsimp only)) | fail "no step")))
            have e329 : Txt.rstripChars (S p) (Str.ofString " \t") = S (rstripL bt p) := by
              rw [show Str.ofString " \t" = S [32, 9] from by decide +kernel]
              exact rstripChars_S p
            refine SCL.rstripChars (hsz := ?hz9) ?_
            case hz9 => rw [S_len]; exact le54 hpl3
            intro t18 k18 _
            rw [e329]
            (repeat' ((fail_if_success (with_reducible show InvPostN _ _ _ _ _ _ _ _ _)); (fail_if_success (with_reducible show WhileStep2 _ _ _ _ _ _ _ _)); (fail_if_success (with_reducible show InvEndN _ _ _ _ _ _ _)); (fail_if_success (with_reducible show wpAny _ _ (exec (PySem.Stmt.For _ _ _ _ _) _) _ _ _)); (fail_if_success (with_reducible show wpAny _ _ (exec (PySem.Stmt.Assign _ (PySem.Expr.ListComp _ _ _ _) _) _) _ _ _)); (fail_if_success (with_reducible show wpAny _ _ (getMethod (Value.ref _) _ _) _ _ _)); (fail_if_success (with_reducible show wpAny _ _ (call (Value.builtin "dict.get") _) _ _ _)); (fail_if_success (with_reducible show wpAny _ _ (call (Value.builtin "str.join") _) _ _ _)); (fail_if_success (with_reducible show wpAny _ _ (call (Value.ref 105) _) _ _ _)); (fail_if_success (with_reducible show wpAny _ _ (pyIter _) _ _ _)); (fail_if_success (with_reducible show wpAny _ _ (subscriptTail _ _ (Value.ref _) _) _ _ _)); (fail_if_success (with_reducible show wpAny _ _ (setItem _ _ _) _ _ _)); (fail_if_success (with_reducible show wpAny _ _ (call (Value.builtin "str.replace") _) _ _ _)); (fail_if_success (with_reducible show wpAny _ _ (call (Value.builtin "str.split") _) _ _ _)); (fail_if_success (with_reducible show wpAny _ _ (call (Value.builtin "str.rstrip") _) _ _ _)); (fail_if_success (with_reducible show wpAny _ _ (binaryOp _ (Value.str _ _) (Value.str _ _)) _ _ _)); (first | (k_unfold; (try dsimp only)) | walk1 | (dsimp only; walk1) | (leave1; (try dsimp only)) | fail "no step")))
            refine SBL.add (hsz := ?hz10) ?_
            case hz10 => rw [S_len, S_len]; exact (bd hacc2 hi hkM (Nat.le_of_lt hjl) (Nat.le_trans hrs hpl3)).1
            intro t19 k19
            rw [S_app]
            (repeat' ((fail_if_success (with_reducible show InvPostN _ _ _ _ _ _ _ _ _)); (fail_if_success (with_reducible show WhileStep2 _ _ _ _ _ _ _ _)); (fail_if_success (with_reducible show InvEndN _ _ _ _ _ _ _)); (fail_if_success (with_reducible show wpAny _ _ (exec (PySem.Stmt.For _ _ _ _ _) _) _ _ _)); (fail_if_success (with_reducible show wpAny _ _ (exec (PySem.Stmt.Assign _ (PySem.Expr.ListComp _ _ _ _) _) _) _ _ _)); (fail_if_success (with_reducible show wpAny _ _ (getMethod (Value.ref _) _ _) _ _ _)); (fail_if_success (with_reducible show wpAny _ _ (call (Value.builtin "dict.get") _) _ _ _)); (fail_if_success (with_reducible show wpAny _ _ (call (Value.builtin "str.join") _) _ _ _)); (fail_if_success (with_reducible show wpAny _ _ (call (Value.ref 105) _) _ _ _)); (fail_if_success (with_reducible show wpAny _ _ (pyIter _) _ _ _)); (fail_if_success (with_reducible show wpAny _ _ (subscriptTail _ _ (Value.ref _) _) _ _ _)); (fail_if_success (with_reducible show wpAny _ _ (setItem _ _ _) _ _ _)); (fail_if_success (with_reducible show wpAny _ _ (call (Value.builtin "str.replace") _) _ _ _)); (fail_if_success (with_reducible show wpAny _ _ (call (Value.builtin "str.split") _) _ _ _)); (fail_if_success (with_reducible show wpAny _ _ (call (Value.builtin "str.rstrip") _) _ _ _)); (fail_if_success (with_reducible show wpAny _ _ (binaryOp _ (Value.str _ _) (Value.str _ _)) _ _ _)); (first | (k_unfold; (try dsimp only)) | walk1 | (dsimp only; walk1) | (leave1; (try dsimp only)) | fail "no step")))
            refine SBL.add (hsz := ?hz11) ?_
            case hz11 =>
              rw [e10, S_len, S_len, List.length_append]
              exact (bd hacc2 hi hkM (Nat.le_of_lt hjl) (Nat.le_trans hrs hpl3)).2
            intro t20 k20
            rw [show S (acc2 ++ rstripL bt p) ++ Str.ofString "\n" = S (acc2 ++ rstripL bt p ++ [10]) from by rw [e10, S_app]]
            (repeat' ((fail_if_success (with_reducible show InvPostN _ _ _ _ _ _ _ _ _)); (fail_if_success (with_reducible show WhileStep2 _ _ _ _ _ _ _ _)); (fail_if_success (with_reducible show InvEndN _ _ _ _ _ _ _)); (fail_if_success (with_reducible show wpAny _ _ (exec (PySem.Stmt.For _ _ _ _ _) _) _ _ _)); (fail_if_success (with_reducible show wpAny _ _ (exec (PySem.Stmt.Assign _ (PySem.Expr.ListComp _ _ _ _) _) _) _ _ _)); (fail_if_success (with_reducible show wpAny _ _ (getMethod (Value.ref _) _ _) _ _ _)); (fail_if_success (with_reducible show wpAny _ _ (call (Value.builtin "dict.get") _) _ _ _)); (fail_if_success (with_reducible show wpAny _ _ (call (Value.builtin "str.join") _) _ _ _)); (fail_if_success (with_reducible show wpAny _ _ (call (Value.ref 105) _) _ _ _)); (fail_if_success (with_reducible show wpAny _ _ (pyIter _) _ _ _)); (fail_if_success (with_reducible show wpAny _ _ (subscriptTail _ _ (Value.ref _) _) _ _ _)); (fail_if_success (with_reducible show wpAny _ _ (setItem _ _ _) _ _ _)); (fail_if_success (with_reducible show wpAny _ _ (call (Value.builtin "str.replace") _) _ _ _)); (fail_if_success (with_reducible show wpAny _ _ (call (Value.builtin "str.split") _) _ _ _)); (fail_if_success (with_reducible show wpAny _ _ (call (Value.builtin "str.rstrip") _) _ _ _)); (fail_if_success (with_reducible show wpAny _ _ (binaryOp _ (Value.str _ _) (Value.str _ _)) _ _ _)); (first | (k_unfold; (try dsimp only)) | walk1 | (dsimp only; walk1) | (leave1; (try dsimp only)) | fail "no step")))
            ·
              refine PostIs.use hP3 ?_
              exact InvEndN.intro (by assumption) (by assumption) (nx := (PS, listOf pv pn) :: ((LN, listOf vs nn) :: own)) ⟨acc2 ++ rstripL bt p ++ [10], _, _, rfl, by (first | (refine bmo_ext2 _ ?_ ?_; (· ((repeat refine And.intro rfl ?_); exact True.intro)); (· (intro y hy; (repeat (refine ite_skip (by first | exact hy.1 | exact hy.2.1 | exact hy.2.2.1 | exact hy.2.2.2.1 | exact hy.2.2.2.2.1 | exact hy.2.2.2.2.2.1) ?_)); rfl))) | (refine bmo_ext _ ?_ ?_; (· ((repeat refine List.forall_mem_cons.mpr ⟨rfl, ?_⟩); exact List.forall_mem_nil _)); (· (intro y hy; (try simp only [List.forall_mem_cons] at hy); (try simp only [hy, ↓reduceIte]); (try rfl))))), by simp; omega, by rw [← hgo3]; simp⟩ rfl (fun p hp => List.mem_append_left own2 hp) (fun p hp => List.mem_append_right ((PS, listOf pv pn) :: ((LN, listOf vs nn) :: own)) hp)
          case pdone =>
            clear N14
            intro m₂ nx2 h16 tk16 hJ0
            refine J3.elim (G := fun z => Fr _ _ _ _ → News _ _ _ z → _) hJ0 ?_
            clear hJ0
            intro acc2 ta2 upt2 hm3 hacc2 hgo3 F16 N16
            replace F16 := frAs F16 hm3
            dsimp only [bmo] at F16
            clear hm3
            rw [hdv.len, List.drop_length] at hgo3
            replace hgo3 : acc2 = acc ++ (partsOf lx).dropLast.flatMap (fun p => rstripL bt p ++ [10]) := by rw [← hgo3]; exact (List.append_nil _).symm
            have hpl5 : (partsOf lx).length ≤ 55 := Nat.le_trans hpl1 (by omega)
            have hacc3 : acc2.length ≤ 4000 * i + 60 * 55 := by
              rw [hdv.len, List.length_dropLast] at hacc2
              omega
            obtain ⟨pl, hlst⟩ : ∃ pl, (partsOf lx).getLast? = some pl := ⟨_, List.getLast?_eq_some_getLast (splitNl_ne _)⟩
            have hpll : pl.length ≤ 54 := Nat.le_trans (hpl2 pl (List.mem_of_getLast? hlst)) (by omega)
            obtain ⟨tpl, hvl5⟩ := hps'.last hlst
            have hgD : (partsOf lx).getLastD [] = pl := by rw [List.getLastD_eq_getLast?, hlst]; rfl
            dsimp only
            (repeat' ((fail_if_success (with_reducible show InvPostN _ _ _ _ _ _ _ _ _)); (fail_if_success (with_reducible show WhileStep2 _ _ _ _ _ _ _ _)); (fail_if_success (with_reducible show InvEndN _ _ _ _ _ _ _)); (fail_if_success (with_reducible show wpAny _ _ (exec (PySem.Stmt.For _ _ _ _ _) _) _ _ _)); (fail_if_success (with_reducible show wpAny _ _ (exec (PySem.Stmt.Assign _ (PySem.Expr.ListComp _ _ _ _) _) _) _ _ _)); (fail_if_success (with_reducible show wpAny _ _ (getMethod (Value.ref _) _ _) _ _ _)); (fail_if_success (with_reducible show wpAny _ _ (call (Value.builtin "dict.get") _) _ _ _)); (fail_if_success (with_reducible show wpAny _ _ (call (Value.builtin "str.join") _) _ _ _)); (fail_if_success (with_reducible show wpAny _ _ (call (Value.ref 105) _) _ _ _)); (fail_if_success (with_reducible show wpAny _ _ (pyIter _) _ _ _)); (fail_if_success (with_reducible show wpAny _ _ (subscriptTail _ _ (Value.ref _) _) _ _ _)); (fail_if_success (with_reducible show wpAny _ _ (setItem _ _ _) _ _ _)); (fail_if_success (with_reducible show wpAny _ _ (call (Value.builtin "str.replace") _) _ _ _)); (fail_if_success (with_reducible show wpAny _ _ (call (Value.builtin "str.split") _) _ _ _)); (fail_if_success (with_reducible show wpAny _ _ (call (Value.builtin "str.rstrip") _) _ _ _)); (fail_if_success (with_reducible show wpAny _ _ (binaryOp _ (Value.str _ _) (Value.str _ _)) _ _ _)); (first | (k_unfold; (try dsimp only)) | walk1 | (dsimp only; walk1) | (leave1; (try dsimp only)) | fail "no step")))
            · -- a row behind it
              with_reducible rename (_ : Int) < _ => hc
              refine sub_last (isl (vs := pv) (n := pn) (by assumption) (.head _)) (v := .str (S pl) tpl) hvl5 ?_
              (repeat' ((fail_if_success (with_reducible show InvPostN _ _ _ _ _ _ _ _ _)); (fail_if_success (with_reducible show WhileStep2 _ _ _ _ _ _ _ _)); (fail_if_success (with_reducible show InvEndN _ _ _ _ _ _ _)); (fail_if_success (with_reducible show wpAny _ _ (exec (PySem.Stmt.For _ _ _ _ _) _) _ _ _)); (fail_if_success (with_reducible show wpAny _ _ (exec (PySem.Stmt.Assign _ (PySem.Expr.ListComp _ _ _ _) _) _) _ _ _)); (fail_if_success (with_reducible show wpAny _ _ (getMethod (Value.ref _) _ _) _ _ _)); (fail_if_success (with_reducible show wpAny _ _ (call (Value.builtin "dict.get") _) _ _ _)); (fail_if_success (with_reducible show wpAny _ _ (call (Value.builtin "str.join") _) _ _ _)); (fail_if_success (with_reducible show wpAny _ _ (call (Value.ref 105) _) _ _ _)); (fail_if_success (with_reducible show wpAny _ _ (pyIter _) _ _ _)); (fail_if_success (with_reducible show wpAny _ _ (subscriptTail _ _ (Value.ref _) _) _ _ _)); (fail_if_success (with_reducible show wpAny _ _ (setItem _ _ _) _ _ _)); (fail_if_success (with_reducible show wpAny _ _ (call (Value.builtin "str.replace") _) _ _ _)); (fail_if_success (with_reducible show wpAny _ _ (call (Value.builtin "str.split") _) _ _ _)); (fail_if_success (with_reducible show wpAny _ _ (call (Value.builtin "str.rstrip") _) _ _ _)); (fail_if_success (with_reducible show wpAny _ _ (binaryOp _ (Value.str _ _) (Value.str _ _)) _ _ _)); (first | (k_unfold; (try dsimp only)) | walk1 | (dsimp only; walk1) | (leave1; (try dsimp only)) | fail "no step")))
              refine SBL.add (hsz := ?hz20) ?_
              case hz20 => rw [S_len, S_len]; exact (bd hacc3 hi hkM (Nat.le_refl _) hpll).1
              intro t20 k20
              rw [S_app]
              (repeat' ((fail_if_success (with_reducible show InvPostN _ _ _ _ _ _ _ _ _)); (fail_if_success (with_reducible show WhileStep2 _ _ _ _ _ _ _ _)); (fail_if_success (with_reducible show InvEndN _ _ _ _ _ _ _)); (fail_if_success (with_reducible show wpAny _ _ (exec (PySem.Stmt.For _ _ _ _ _) _) _ _ _)); (fail_if_success (with_reducible show wpAny _ _ (exec (PySem.Stmt.Assign _ (PySem.Expr.ListComp _ _ _ _) _) _) _ _ _)); (fail_if_success (with_reducible show wpAny _ _ (getMethod (Value.ref _) _ _) _ _ _)); (fail_if_success (with_reducible show wpAny _ _ (call (Value.builtin "dict.get") _) _ _ _)); (fail_if_success (with_reducible show wpAny _ _ (call (Value.builtin "str.join") _) _ _ _)); (fail_if_success (with_reducible show wpAny _ _ (call (Value.ref 105) _) _ _ _)); (fail_if_success (with_reducible show wpAny _ _ (pyIter _) _ _ _)); (fail_if_success (with_reducible show wpAny _ _ (subscriptTail _ _ (Value.ref _) _) _ _ _)); (fail_if_success (with_reducible show wpAny _ _ (setItem _ _ _) _ _ _)); (fail_if_success (with_reducible show wpAny _ _ (call (Value.builtin "str.replace") _) _ _ _)); (fail_if_success (with_reducible show wpAny _ _ (call (Value.builtin "str.split") _) _ _ _)); (fail_if_success (with_reducible show wpAny _ _ (call (Value.builtin "str.rstrip") _) _ _ _)); (fail_if_success (with_reducible show wpAny _ _ (binaryOp _ (Value.str _ _) (Value.str _ _)) _ _ _)); (first | (k_unfold; (try dsimp only)) | walk1 | (dsimp only; walk1) | (leave1; (try dsimp only)) | fail "no step")))
              ·
                refine PostIs.use hPP ?_
                exact ed2 (by assumption) (by assumption) (by (first | (refine bmo_ext2 _ ?_ ?_; (· ((repeat refine And.intro rfl ?_); exact True.intro)); (· (intro y hy; (repeat (refine ite_skip (by first | exact hy.1 | exact hy.2.1 | exact hy.2.2.1 | exact hy.2.2.2.1 | exact hy.2.2.2.2.1 | exact hy.2.2.2.2.2.1) ?_)); rfl))) | (refine bmo_ext _ ?_ ?_; (· ((repeat refine List.forall_mem_cons.mpr ⟨rfl, ?_⟩); exact List.forall_mem_nil _)); (· (intro y hy; (try simp only [List.forall_mem_cons] at hy); (try simp only [hy, ↓reduceIte]); (try rfl)))))) (by simp; omega) (by
                  rw [← hgo2, keep_eq hdr, hll, decide_eq_true (p := i + 1 < kM + 1) (by omega), Bool.true_or, hgo3]
                  unfold dueLine
                  rw [if_pos rfl, hgD]
                  simp)
            · -- the last row, a blank at the end
              with_reducible rename ¬ (_ : Int) < _ => hc
              with_reducible rename (_ == _) = true => hb
              rw [tail_sp] at hb
              refine sub_last (isl (vs := pv) (n := pn) (by assumption) (.head _)) (v := .str (S pl) tpl) hvl5 ?_
              (repeat' ((fail_if_success (with_reducible show InvPostN _ _ _ _ _ _ _ _ _)); (fail_if_success (with_reducible show WhileStep2 _ _ _ _ _ _ _ _)); (fail_if_success (with_reducible show InvEndN _ _ _ _ _ _ _)); (fail_if_success (with_reducible show wpAny _ _ (exec (PySem.Stmt.For _ _ _ _ _) _) _ _ _)); (fail_if_success (with_reducible show wpAny _ _ (exec (PySem.Stmt.Assign _ (PySem.Expr.ListComp _ _ _ _) _) _) _ _ _)); (fail_if_success (with_reducible show wpAny _ _ (getMethod (Value.ref _) _ _) _ _ _)); (fail_if_success (with_reducible show wpAny _ _ (call (Value.builtin "dict.get") _) _ _ _)); (fail_if_success (with_reducible show wpAny _ _ (call (Value.builtin "str.join") _) _ _ _)); (fail_if_success (with_reducible show wpAny _ _ (call (Value.ref 105) _) _ _ _)); (fail_if_success (with_reducible show wpAny _ _ (pyIter _) _ _ _)); (fail_if_success (with_reducible show wpAny _ _ (subscriptTail _ _ (Value.ref _) _) _ _ _)); (fail_if_success (with_reducible show wpAny _ _ (setItem _ _ _) _ _ _)); (fail_if_success (with_reducible show wpAny _ _ (call (Value.builtin "str.replace") _) _ _ _)); (fail_if_success (with_reducible show wpAny _ _ (call (Value.builtin "str.split") _) _ _ _)); (fail_if_success (with_reducible show wpAny _ _ (call (Value.builtin "str.rstrip") _) _ _ _)); (fail_if_success (with_reducible show wpAny _ _ (binaryOp _ (Value.str _ _) (Value.str _ _)) _ _ _)); (first | (k_unfold; (try dsimp only)) | walk1 | (dsimp only; walk1) | (leave1; (try dsimp only)) | fail "no step")))
              refine SBL.add (hsz := ?hz21) ?_
              case hz21 => rw [S_len, S_len]; exact (bd hacc3 hi hkM (Nat.le_refl _) hpll).1
              intro t20 k20
              rw [S_app]
              (repeat' ((fail_if_success (with_reducible show InvPostN _ _ _ _ _ _ _ _ _)); (fail_if_success (with_reducible show WhileStep2 _ _ _ _ _ _ _ _)); (fail_if_success (with_reducible show InvEndN _ _ _ _ _ _ _)); (fail_if_success (with_reducible show wpAny _ _ (exec (PySem.Stmt.For _ _ _ _ _) _) _ _ _)); (fail_if_success (with_reducible show wpAny _ _ (exec (PySem.Stmt.Assign _ (PySem.Expr.ListComp _ _ _ _) _) _) _ _ _)); (fail_if_success (with_reducible show wpAny _ _ (getMethod (Value.ref _) _ _) _ _ _)); (fail_if_success (with_reducible show wpAny _ _ (call (Value.builtin "dict.get") _) _ _ _)); (fail_if_success (with_reducible show wpAny _ _ (call (Value.builtin "str.join") _) _ _ _)); (fail_if_success (with_reducible show wpAny _ _ (call (Value.ref 105) _) _ _ _)); (fail_if_success (with_reducible show wpAny _ _ (pyIter _) _ _ _)); (fail_if_success (with_reducible show wpAny _ _ (subscriptTail _ _ (Value.ref _) _) _ _ _)); (fail_if_success (with_reducible show wpAny _ _ (setItem _ _ _) _ _ _)); (fail_if_success (with_reducible show wpAny _ _ (call (Value.builtin "str.replace") _) _ _ _)); (fail_if_success (with_reducible show wpAny _ _ (call (Value.builtin "str.split") _) _ _ _)); (fail_if_success (with_reducible show wpAny _ _ (call (Value.builtin "str.rstrip") _) _ _ _)); (fail_if_success (with_reducible show wpAny _ _ (binaryOp _ (Value.str _ _) (Value.str _ _)) _ _ _)); (first | (k_unfold; (try dsimp only)) | walk1 | (dsimp only; walk1) | (leave1; (try dsimp only)) | fail "no step")))
              ·
                refine PostIs.use hPP ?_
                exact ed2 (by assumption) (by assumption) (by (first | (refine bmo_ext2 _ ?_ ?_; (· ((repeat refine And.intro rfl ?_); exact True.intro)); (· (intro y hy; (repeat (refine ite_skip (by first | exact hy.1 | exact hy.2.1 | exact hy.2.2.1 | exact hy.2.2.2.1 | exact hy.2.2.2.2.1 | exact hy.2.2.2.2.2.1) ?_)); rfl))) | (refine bmo_ext _ ?_ ?_; (· ((repeat refine List.forall_mem_cons.mpr ⟨rfl, ?_⟩); exact List.forall_mem_nil _)); (· (intro y hy; (try simp only [List.forall_mem_cons] at hy); (try simp only [hy, ↓reduceIte]); (try rfl)))))) (by simp; omega) (by
                  rw [← hgo2, keep_eq hdr, hb, Bool.or_true, hgo3]
                  unfold dueLine
                  rw [if_pos rfl, hgD]
                  simp)
            · with_reducible rename ¬ (_ : Int) < _ => hc
              with_reducible rename (_ == _) = false => hb
              rw [tail_sp] at hb
              refine sub_last (isl (vs := pv) (n := pn) (by assumption) (.head _)) (v := .str (S pl) tpl) hvl5 ?_
              (repeat' ((fail_if_success (with_reducible show InvPostN _ _ _ _ _ _ _ _ _)); (fail_if_success (with_reducible show WhileStep2 _ _ _ _ _ _ _ _)); (fail_if_success (with_reducible show InvEndN _ _ _ _ _ _ _)); (fail_if_success (with_reducible show wpAny _ _ (exec (PySem.Stmt.For _ _ _ _ _) _) _ _ _)); (fail_if_success (with_reducible show wpAny _ _ (exec (PySem.Stmt.Assign _ (PySem.Expr.ListComp _ _ _ _) _) _) _ _ _)); (fail_if_success (with_reducible show wpAny _ _ (getMethod (Value.ref _) _ _) _ _ _)); (fail_if_success (with_reducible show wpAny _ _ (call (Value.builtin "dict.get") _) _ _ _)); (fail_if_success (with_reducible show wpAny _ _ (call (Value.builtin "str.join") _) _ _ _)); (fail_if_success (with_reducible show wpAny _ _ (call (Value.ref 105) _) _ _ _)); (fail_if_success (with_reducible show wpAny _ _ (pyIter _) _ _ _)); (fail_if_success (with_reducible show wpAny _ _ (subscriptTail _ _ (Value.ref _) _) _ _ _)); (fail_if_success (with_reducible show wpAny _ _ (setItem _ _ _) _ _ _)); (fail_if_success (with_reducible show wpAny _ _ (call (Value.builtin "str.replace") _) _ _ _)); (fail_if_success (with_reducible show wpAny _ _ (call (Value.builtin "str.split") _) _ _ _)); (fail_if_success (with_reducible show wpAny _ _ (call (Value.builtin "str.rstrip") _) _ _ _)); (fail_if_success (with_reducible show wpAny _ _ (binaryOp _ (Value.str _ _) (Value.str _ _)) _ _ _)); (first | (k_unfold; (try dsimp only)) | walk1 | (dsimp only; walk1) | (leave1; (try dsimp only)) | fail "no step")))
              have hrs := rstripL_len bt pl
              have e329 : Txt.rstripChars (S pl) (Str.ofString " \t") = S (rstripL bt pl) := by
                rw [show Str.ofString " \t" = S [32, 9] from by decide +kernel]
                exact rstripChars_S pl
              refine SCL.rstripChars (hsz := ?hz29) ?_
              case hz29 => rw [S_len]; exact le54 hpll
              intro t18 k18 _
              rw [e329]
              (repeat' ((fail_if_success (with_reducible show InvPostN _ _ _ _ _ _ _ _ _)); (fail_if_success (with_reducible show WhileStep2 _ _ _ _ _ _ _ _)); (fail_if_success (with_reducible show InvEndN _ _ _ _ _ _ _)); (fail_if_success (with_reducible show wpAny _ _ (exec (PySem.Stmt.For _ _ _ _ _) _) _ _ _)); (fail_if_success (with_reducible show wpAny _ _ (exec (PySem.Stmt.Assign _ (PySem.Expr.ListComp _ _ _ _) _) _) _ _ _)); (fail_if_success (with_reducible show wpAny _ _ (getMethod (Value.ref _) _ _) _ _ _)); (fail_if_success (with_reducible show wpAny _ _ (call (Value.builtin "dict.get") _) _ _ _)); (fail_if_success (with_reducible show wpAny _ _ (call (Value.builtin "str.join") _) _ _ _)); (fail_if_success (with_reducible show wpAny _ _ (call (Value.ref 105) _) _ _ _)); (fail_if_success (with_reducible show wpAny _ _ (pyIter _) _ _ _)); (fail_if_success (with_reducible show wpAny _ _ (subscriptTail _ _ (Value.ref _) _) _ _ _)); (fail_if_success (with_reducible show wpAny _ _ (setItem _ _ _) _ _ _)); (fail_if_success (with_reducible show wpAny _ _ (call (Value.builtin "str.replace") _) _ _ _)); (fail_if_success (with_reducible show wpAny _ _ (call (Value.builtin "str.split") _) _ _ _)); (fail_if_success (with_reducible show wpAny _ _ (call (Value.builtin "str.rstrip") _) _ _ _)); (fail_if_success (with_reducible show wpAny _ _ (binaryOp _ (Value.str _ _) (Value.str _ _)) _ _ _)); (first | (k_unfold; (try dsimp only)) | walk1 | (dsimp only; walk1) | (leave1; (try dsimp only)) | fail "no step")))
              refine SBL.add (hsz := ?hz22) ?_
              case hz22 => rw [S_len, S_len]; exact (bd hacc3 hi hkM (Nat.le_refl _) (Nat.le_trans hrs hpll)).1
              intro t20 k20
              rw [S_app]
              (repeat' ((fail_if_success (with_reducible show InvPostN _ _ _ _ _ _ _ _ _)); (fail_if_success (with_reducible show WhileStep2 _ _ _ _ _ _ _ _)); (fail_if_success (with_reducible show InvEndN _ _ _ _ _ _ _)); (fail_if_success (with_reducible show wpAny _ _ (exec (PySem.Stmt.For _ _ _ _ _) _) _ _ _)); (fail_if_success (with_reducible show wpAny _ _ (exec (PySem.Stmt.Assign _ (PySem.Expr.ListComp _ _ _ _) _) _) _ _ _)); (fail_if_success (with_reducible show wpAny _ _ (getMethod (Value.ref _) _ _) _ _ _)); (fail_if_success (with_reducible show wpAny _ _ (call (Value.builtin "dict.get") _) _ _ _)); (fail_if_success (with_reducible show wpAny _ _ (call (Value.builtin "str.join") _) _ _ _)); (fail_if_success (with_reducible show wpAny _ _ (call (Value.ref 105) _) _ _ _)); (fail_if_success (with_reducible show wpAny _ _ (pyIter _) _ _ _)); (fail_if_success (with_reducible show wpAny _ _ (subscriptTail _ _ (Value.ref _) _) _ _ _)); (fail_if_success (with_reducible show wpAny _ _ (setItem _ _ _) _ _ _)); (fail_if_success (with_reducible show wpAny _ _ (call (Value.builtin "str.replace") _) _ _ _)); (fail_if_success (with_reducible show wpAny _ _ (call (Value.builtin "str.split") _) _ _ _)); (fail_if_success (with_reducible show wpAny _ _ (call (Value.builtin "str.rstrip") _) _ _ _)); (fail_if_success (with_reducible show wpAny _ _ (binaryOp _ (Value.str _ _) (Value.str _ _)) _ _ _)); (first | (k_unfold; (try dsimp only)) | walk1 | (dsimp only; walk1) | (leave1; (try dsimp only)) | fail "no step")))
              ·
                refine PostIs.use hPP ?_
                exact ed2 (by assumption) (by assumption) (by (first | (refine bmo_ext2 _ ?_ ?_; (· ((repeat refine And.intro rfl ?_); exact True.intro)); (· (intro y hy; (repeat (refine ite_skip (by first | exact hy.1 | exact hy.2.1 | exact hy.2.2.1 | exact hy.2.2.2.1 | exact hy.2.2.2.2.1 | exact hy.2.2.2.2.2.1) ?_)); rfl))) | (refine bmo_ext _ ?_ ?_; (· ((repeat refine List.forall_mem_cons.mpr ⟨rfl, ?_⟩); exact List.forall_mem_nil _)); (· (intro y hy; (try simp only [List.forall_mem_cons] at hy); (try simp only [hy, ↓reduceIte]); (try rfl)))))) (by simp; omega) (by
                  rw [← hgo2, keep_eq hdr, hll, decide_eq_false (p := i + 1 < kM + 1) (by omega), hb, Bool.or_false, hgo3]
                  unfold dueLine
                  rw [if_neg Bool.false_ne_true, hgD]
                  simp)
        case kdone =>
          intro m₁ nx h12 tk12 hJ0
          refine J2.elim (G := fun z => Fr _ _ _ _ → News _ _ _ z → _) hJ0 ?_
          clear hJ0
          intro acc ta uk2 upa upt hm2 hacc hgo2 F12 N12'
          replace F12 := frAs F12 hm2
          dsimp only [bmo] at F12
          clear hm2
          replace hgo2 : acc ++ dueGo (decide (text.getLast? = some 32)) (lines.drop (kM + 1)) = dueGo (decide (text.getLast? = some 32)) lines := hgo2
          rw [List.drop_eq_nil_of_le (by omega)] at hgo2
          have hacc2 : acc = due b m text := by
            unfold due
            rw [← hgo, ← hgo2]
            exact (List.append_nil _).symm
          subst hacc2
          dsimp only
          (repeat' ((fail_if_success (with_reducible show InvPostN _ _ _ _ _ _ _ _ _)); (fail_if_success (with_reducible show WhileStep2 _ _ _ _ _ _ _ _)); (fail_if_success (with_reducible show InvEndN _ _ _ _ _ _ _)); (fail_if_success (with_reducible show wpAny _ _ (exec (PySem.Stmt.For _ _ _ _ _) _) _ _ _)); (fail_if_success (with_reducible show wpAny _ _ (exec (PySem.Stmt.Assign _ (PySem.Expr.ListComp _ _ _ _) _) _) _ _ _)); (fail_if_success (with_reducible show wpAny _ _ (getMethod (Value.ref _) _ _) _ _ _)); (fail_if_success (with_reducible show wpAny _ _ (call (Value.builtin "dict.get") _) _ _ _)); (fail_if_success (with_reducible show wpAny _ _ (call (Value.builtin "str.join") _) _ _ _)); (fail_if_success (with_reducible show wpAny _ _ (call (Value.ref 105) _) _ _ _)); (fail_if_success (with_reducible show wpAny _ _ (pyIter _) _ _ _)); (fail_if_success (with_reducible show wpAny _ _ (subscriptTail _ _ (Value.ref _) _) _ _ _)); (fail_if_success (with_reducible show wpAny _ _ (setItem _ _ _) _ _ _)); (fail_if_success (with_reducible show wpAny _ _ (call (Value.builtin "str.replace") _) _ _ _)); (fail_if_success (with_reducible show wpAny _ _ (call (Value.builtin "str.split") _) _ _ _)); (fail_if_success (with_reducible show wpAny _ _ (call (Value.builtin "str.rstrip") _) _ _ _)); (fail_if_success (with_reducible show wpAny _ _ (binaryOp _ (Value.str _ _) (Value.str _ _)) _ _ _)); (first | (k_unfold; (try dsimp only)) | walk1 | (dsimp only; walk1) | (leave1; (try dsimp only)) | fail "no step")))
          exact h _ _ _ F12.keep
end Mine
end
section
open PySem PySem.W PySem.Calls PyProof.Rows PySem.Spec
set_option Elab.async false
set_option maxRecDepth 100000
set_option linter.unusedVariables false
namespace Mine
theorem ints_ex : ∀ {vs : List Value}, (∀ v ∈ vs, ∃ n t, v = .int n t) → ∃ ns, IntsAre vs ns
  | [], _ => ⟨[], .nil⟩
  | v :: vs, h => by
    obtain ⟨n, t, rfl⟩ := h v (by simp)
    obtain ⟨ns, hn⟩ := ints_ex (vs := vs) fun u hu => h u (List.mem_cons_of_mem _ hu)
    exact ⟨n :: ns, .cons n t hn⟩
theorem ints_mem : ∀ {vs : List Value} {ns : List Int}, IntsAre vs ns → ∀ v ∈ vs, ∃ n t, v = .int n t
  | _, _, .nil, v, h => by simp at h
  | _, _, .cons n t r, v, h => by
    rcases List.mem_cons.mp h with rfl | h
    · exact ⟨n, t, rfl⟩
    · exact ints_mem r v h
theorem pick_mem {items : Array Value} {lo hi st : Option Int} {v : Value} (h : v ∈ (slicePick items lo hi st).toList) : v ∈ items.toList := by
  unfold slicePick at h
  simp at h
  obtain ⟨k, hk, hv⟩ := h
  exact Array.mem_toList_iff.mpr (Array.mem_of_getElem? hv)
theorem pick_ints {items : Array Value} {lo hi st : Option Int} {ns : List Int} (h : IntsAre items.toList ns) : ∃ ms, IntsAre (slicePick items lo hi st).toList ms :=
  ints_ex fun v hv => ints_mem h v (pick_mem hv)
section
variable {prog : Program} {w : World} {A : Around} {E : Value → Shared → Prop} {s : Shared}
theorem sub_ex {value slice : PySem.Expr} {l : Addr} {vs : Array Value} {k : Int} {u : Tok} {Q : Value → Shared → Prop} (hl : s.heap.IsList l vs) (h0 : 0 ≤ k) (hfit : k < 2 ^ 63) (hx : ∃ n t, vs[k.toNat]? = some (.int n t)) (h : ∀ n t, Q (.int n t) s)
    (hs : subscripted slice false (.ref l) (.int k u) = operate [.ref l, .int k u] (getItem (.ref l) (.int k u)) := by with_unfolding_all rfl) :
    wpAny (model prog w) A (subscriptTail value slice (.ref l) (.int k u)) Q E s := by
  obtain ⟨n, t, hx⟩ := hx
  exact sub_nn hl h0 hfit hx (h n t) hs
end
theorem base_get {t0 t1 t2 t3 t4 t5 t6 t7 t8 t9 t10 : Tok} {i : Nat} (h : i < 11) : ∃ n t, (#[Value.int 0 t0, Value.int 1 t1, Value.int 3 t2, Value.int 5 t3, Value.int 10 t4, Value.int 11 t5, Value.int 12 t6, Value.int 6 t7, Value.int 4 t8, Value.int 0 t9, Value.int 6 t10] : Array Value)[(0 + (i : Int)).toNat]? = some (.int n t) := by
  have e : (0 + (i : Int)).toNat = i := by omega
  rw [e]
  have hI : IntsAre (#[Value.int 0 t0, Value.int 1 t1, Value.int 3 t2, Value.int 5 t3, Value.int 10 t4, Value.int 11 t5, Value.int 12 t6, Value.int 6 t7, Value.int 4 t8, Value.int 0 t9, Value.int 6 t10] : Array Value).toList [0, 1, 3, 5, 10, 11, 12, 6, 4, 0, 6] :=
    .cons _ _ (.cons _ _ (.cons _ _ (.cons _ _ (.cons _ _ (.cons _ _ (.cons _ _ (.cons _ _ (.cons _ _ (.cons _ _ (.cons _ _ .nil))))))))))
  have hl : i < ([0, 1, 3, 5, 10, 11, 12, 6, 4, 0, 6] : List Int).length := h
  obtain ⟨t, ht⟩ := ints_get hI (List.getElem?_eq_getElem hl)
  exact ⟨_, t, by rw [← Array.getElem?_toList]; exact ht⟩
theorem texts_cons {X : PySem.Str} {x : List Nat} {t : Tok} {vs : List Value} {xs : List (List Nat)} (e : X = S x) (h : TextsAre vs xs) : TextsAre (.str X t :: vs) (x :: xs) := by
  subst e
  exact .cons x t h
noncomputable def sgs : List (List Nat) := [[97], [32], [9], [10], [13], [38], [60], [62], [34], [61], [108], [116], [59], [233], []]
theorem sgs_ok : ∀ x ∈ sgs, x = [] ∨ ∃ c, x = [c] ∧ sign c = true := by
  intro x hx
  simp only [sgs, List.mem_cons, List.not_mem_nil, or_false] at hx
  rcases hx with rfl | rfl | rfl | rfl | rfl | rfl | rfl | rfl | rfl | rfl | rfl | rfl | rfl | rfl | rfl
  all_goals first | exact Or.inr ⟨_, rfl, rfl⟩ | exact Or.inl rfl
theorem signs_get {t0 t1 t2 t3 t4 t5 t6 t7 t8 t9 t10 t11 t12 t13 t14 : Tok} {i : Nat} (h : i < 15) : ∃ x t, (#[Value.str (Str.ofString "a") t0, Value.str (Str.ofString " ") t1, Value.str (Str.ofString "\t") t2, Value.str (Str.ofString "\n") t3, Value.str (Str.ofString "\r") t4, Value.str (Str.ofString "&") t5, Value.str (Str.ofString "<") t6, Value.str (Str.ofString ">") t7, Value.str (Str.ofString "\"") t8, Value.str (Str.ofString "=") t9, Value.str (Str.ofString "l") t10, Value.str (Str.ofString "t") t11, Value.str (Str.ofString ";") t12, Value.str (Str.ofString "é") t13, Value.str (Str.ofString "") t14] : Array Value)[i]? = some (.str (S x) t) ∧ (x = [] ∨ ∃ c, x = [c] ∧ sign c = true) := by
  have hT : TextsAre (#[Value.str (Str.ofString "a") t0, Value.str (Str.ofString " ") t1, Value.str (Str.ofString "\t") t2, Value.str (Str.ofString "\n") t3, Value.str (Str.ofString "\r") t4, Value.str (Str.ofString "&") t5, Value.str (Str.ofString "<") t6, Value.str (Str.ofString ">") t7, Value.str (Str.ofString "\"") t8, Value.str (Str.ofString "=") t9, Value.str (Str.ofString "l") t10, Value.str (Str.ofString "t") t11, Value.str (Str.ofString ";") t12, Value.str (Str.ofString "é") t13, Value.str (Str.ofString "") t14] : Array Value).toList sgs :=
    texts_cons (by decide +kernel) (texts_cons (by decide +kernel) (texts_cons (by decide +kernel) (texts_cons (by decide +kernel) (texts_cons (by decide +kernel) (texts_cons (by decide +kernel) (texts_cons (by decide +kernel) (texts_cons (by decide +kernel) (texts_cons (by decide +kernel) (texts_cons (by decide +kernel) (texts_cons (by decide +kernel) (texts_cons (by decide +kernel) (texts_cons (by decide +kernel) (texts_cons (by decide +kernel) (texts_cons (by decide +kernel) (.nil)))))))))))))))
  have hl : i < sgs.length := h
  obtain ⟨t, ht⟩ := hT.at (List.getElem?_eq_getElem hl)
  exact ⟨_, t, by rw [← Array.getElem?_toList]; exact ht, sgs_ok _ (List.getElem_mem hl)⟩
section
variable {prog : Program} {w : World} {A : Around} {E : Value → Shared → Prop} {s : Shared}
theorem sub_exT {value slice : PySem.Expr} {l : Addr} {vs : Array Value} {k : Int} {u : Tok} {Q : Value → Shared → Prop} (hl : s.heap.IsList l vs) (h0 : 0 ≤ k) (hfit : k < 2 ^ 63) (hx : ∃ x t, vs[k.toNat]? = some (.str (S x) t) ∧ (x = [] ∨ ∃ c, x = [c] ∧ sign c = true)) (h : ∀ x t, (x = [] ∨ ∃ c, x = [c] ∧ sign c = true) → Q (.str (S x) t) s)
    (hs : subscripted slice false (.ref l) (.int k u) = operate [.ref l, .int k u] (getItem (.ref l) (.int k u)) := by with_unfolding_all rfl) :
    wpAny (model prog w) A (subscriptTail value slice (.ref l) (.int k u)) Q E s := by
  obtain ⟨x, t, hx, hs'⟩ := hx
  exact sub_nn hl h0 hfit hx (h x t hs') hs
end
end Mine
end
section
open PySem PySem.W PySem.Calls PyProof.Rows PySem.Spec
set_option Elab.async false
set_option maxRecDepth 100000
set_option linter.unusedVariables false
namespace Mine
noncomputable def cost (R : List (List Nat)) : Nat := (R.map fun r => r.length + 1).sum
theorem cost_cons (r : List Nat) (R : List (List Nat)) : cost (r :: R) = r.length + 1 + cost R := by simp [cost]
theorem cost_num {a b c n : Nat} (h : c ≤ 3 * (n - a) + 1) (h2 : b + 1 ≤ 3 * a) (h3 : a ≤ n) : min b n + 1 + c ≤ 3 * n + 1 := by
  have : min b n ≤ b := Nat.min_le_left _ _
  omega
theorem cost_num2 {a b c n : Nat} (h : c ≤ 3 * (n - a) + 1) (h2 : b + 2 ≤ 3 * a) (h3 : a ≤ n) : min b n + 1 + 1 + c ≤ 3 * n + 1 := by
  have : min b n ≤ b := Nat.min_le_left _ _
  omega
theorem sub_facts {m : Nat} (hm : 4 ≤ m) : m - 2 + 1 ≤ 3 * (m - 3) ∧ m - 1 + 1 ≤ 3 * (m - 2) ∧ m - 1 + 2 ≤ 3 * (m - 1) := by omega
theorem rows_cost {m : Nat} (hm : 4 ≤ m) : ∀ (f : Nat) (t : List Nat), cost (rowsOf m f t) ≤ 3 * t.length + 1
  | 0, t => by
    unfold rowsOf
    rw [cost_cons]
    show t.length + 1 + 0 ≤ _
    omega
  | f + 1, t => by
    unfold rowsOf
    split
    · rw [cost_cons]
      show t.length + 1 + 0 ≤ _
      omega
    · rename_i hle
      have hge : m ≤ t.length := Nat.le_of_lt (Nat.lt_of_not_le hle)
      have hs := sub_facts hm
      split
      · have := rows_cost hm f (t.drop (m - 3))
        rw [cost_cons, List.length_take]
        rw [List.length_drop] at this
        exact cost_num this hs.1 (Nat.le_trans (Nat.sub_le _ _) hge)
      · split
        · have := rows_cost hm f (t.drop (m - 2))
          rw [cost_cons, List.length_take]
          rw [List.length_drop] at this
          exact cost_num this hs.2.1 (Nat.le_trans (Nat.sub_le _ _) hge)
        · have := rows_cost hm f (t.drop (m - 1))
          rw [cost_cons, List.length_append, List.length_take]
          rw [List.length_drop] at this
          exact cost_num2 this hs.2.2 (Nat.le_trans (Nat.sub_le _ _) hge)
theorem join_cost : ∀ R : List (List Nat), (joinNl R).length ≤ cost R
  | [] => Nat.zero_le _
  | [r] => by
    show r.length ≤ _
    rw [cost_cons]
    omega
  | r :: s :: l => by
    have := join_cost (s :: l)
    show (r ++ 10 :: joinNl (s :: l)).length ≤ _
    rw [cost_cons, List.length_append, List.length_cons]
    omega
theorem lastRow_len (m : Nat) (r : List Nat) : (lastRow m r).length ≤ r.length + 4 := by
  have hd : r.dropLast.length ≤ r.length := by rw [List.length_dropLast]; exact Nat.sub_le _ _
  unfold lastRow
  repeat' split
  · rw [List.length_append]
    exact Nat.add_le_add hd (by decide)
  · rw [List.length_append]
    exact Nat.add_le_add (Nat.le_refl _) (by decide)
  · rw [List.length_append]
    show _ + 5 ≤ _
    rw [List.length_dropLast]
    have : 0 < r.length := List.length_pos_iff.mpr (by rintro rfl; simp_all)
    omega
  · exact Nat.le_add_right _ _
theorem fin_cost (m : Nat) : ∀ R : List (List Nat), cost (finish m R) ≤ cost R + 4
  | [] => Nat.zero_le _
  | [r] => by
    have := lastRow_len m r
    show cost [lastRow m r] ≤ _
    rw [cost_cons, cost_cons]
    omega
  | r :: s :: l => by
    have := fin_cost m (s :: l)
    show cost (r :: finish m (s :: l)) ≤ _
    rw [cost_cons, cost_cons r]
    omega
theorem enc_len {m : Nat} (hm : 4 ≤ m) (t : List Nat) : (enc m t).length ≤ 3 * t.length + 5 := by
  unfold enc
  split
  · exact Nat.zero_le _
  · have h1 := join_cost (finish m (rowsOf m t.length t))
    have h2 := fin_cost m (rowsOf m t.length t)
    have h3 := rows_cost hm t.length t
    omega
theorem esc_len6 (b : Bool) (c : Nat) : (esc b c).length ≤ 6 := by
  unfold esc
  repeat' split
  all_goals first | decide | simp
theorem escL_len (b : Bool) : ∀ t : List Nat, (escL b t).length ≤ 6 * t.length
  | [] => Nat.zero_le _
  | c :: t => by
    have := escL_len b t
    have := esc_len6 b c
    show (esc b c ++ escL b t).length ≤ _
    rw [List.length_append, List.length_cons]
    omega
theorem rep_le (p z : List Nat) (hp : 0 < p.length) (hz : z.length ≤ p.length) (x : List Nat) : (rep p z x).length ≤ x.length := rep_len_le hp hz _ x (Nat.le_refl _)
theorem unref_len (b : Bool) (x : List Nat) : (unref b x).length ≤ x.length := by
  unfold unref
  split
  · refine Nat.le_trans (rep_le _ _ (by decide) (by decide) _) ?_
    refine Nat.le_trans (rep_le _ _ (by decide) (by decide) _) ?_
    refine Nat.le_trans (rep_le _ _ (by decide) (by decide) _) ?_
    refine Nat.le_trans (rep_le _ _ (by decide) (by decide) _) ?_
    refine Nat.le_trans (rep_le _ _ (by decide) (by decide) _) ?_
    exact rep_le _ _ (by decide) (by decide) _
  · refine Nat.le_trans (rep_le _ _ (by decide) (by decide) _) ?_
    refine Nat.le_trans (rep_le _ _ (by decide) (by decide) _) ?_
    refine Nat.le_trans (rep_le _ _ (by decide) (by decide) _) ?_
    refine Nat.le_trans (rep_le _ _ (by decide) (by decide) _) ?_
    refine Nat.le_trans (rep_le _ _ (by decide) (by decide) _) ?_
    refine Nat.le_trans (rep_le _ _ (by decide) (by decide) _) ?_
    exact rep_le _ _ (by decide) (by decide) _
theorem newsD2 {h₀ h : Heap} {L : Addr} {a b : Addr × Obj} {r : List (Addr × Obj)} (N : News h₀ L h (a :: b :: r)) : News h₀ L h (a :: r) :=
  newsSub N fun p hp => by
    rcases List.mem_cons.mp hp with rfl | hp
    · exact .head _
    · exact .tail _ (.tail _ hp)
theorem newsD1 {h₀ h : Heap} {L : Addr} {a : Addr × Obj} {r : List (Addr × Obj)} (N : News h₀ L h (a :: r)) : News h₀ L h r :=
  newsSub N fun p hp => .tail _ hp
theorem escX_specB {w : World} {A : Around} {s : Shared} {Q : Value → Shared → Prop} {E : Value → Shared → Prop} {mean : ExcName → Option Value} {mg mb : Str → Option Value} {t : Tok} {x : List Nat} {b : Bool} (hb : b = true)
    (X : (hd.heap_1 w.params).In s.heap) (T : TopH mean mg mb s.heap) (hroom : A.depth + 6 < recursionLimit) (hun : A.units + 40 < cLine) (hh : A.handled = none) (hx : x.length ≤ 9)
    (h : ∀ h' tk tk', Ext s.heap h' → Q (.str (S (escL b x)) tk) { s with heap := h', toks := tk' }) :
    wpAny (model pg w) A (call (.ref 35) [.str (S x) t]) Q E s := by
  subst hb
  exact escX_spec X T hroom hun hh hx h
theorem esc_specB {w : World} {A : Around} {s : Shared} {Q : Value → Shared → Prop} {E : Value → Shared → Prop} {mean : ExcName → Option Value} {mg mb : Str → Option Value} {t : Tok} {x : List Nat} {b : Bool} (hb : b = false)
    (X : (hd.heap_1 w.params).In s.heap) (T : TopH mean mg mb s.heap) (hroom : A.depth + 6 < recursionLimit) (hun : A.units + 40 < cLine) (hh : A.handled = none) (hx : x.length ≤ 9)
    (h : ∀ h' tk tk', Ext s.heap h' → Q (.str (S (escL b x)) tk) { s with heap := h', toks := tk' }) :
    wpAny (model pg w) A (call (.ref 28) [.str (S x) t]) Q E s := by
  subst hb
  exact esc_spec X T hroom hun hh hx h
theorem trL_le : ∀ t : List Nat, (trL t).length ≤ 3 * t.length
  | [] => Nat.zero_le _
  | c :: t => by
    have := trL_le t
    have := tr_len3 c
    show (tr c ++ trL t).length ≤ _
    rw [List.length_append, List.length_cons]
    omega
structure PostV (P R : Value → Shared → Prop) : Prop where
  h : ∀ v s, R v s → P v s
theorem PostV.use {P R : Value → Shared → Prop} {v : Value} {s : Shared} (h : PostV P R) (r : R v s) : P v s := h.h v s r
theorem postV {M : Model} {A : Around} {t : Sem Value} {R : Value → Shared → Prop} {E : Value → Shared → Prop} {s : Shared} (h : ∀ P : Value → Shared → Prop, PostV P R → wpAny M A t P E s) : wpAny M A t R E s := h R ⟨fun _ _ z => z⟩
theorem neNat {a b : Addr} (h : a ≠ b) : @Ne Nat a b := h
theorem not_sys {a : Addr} {h h' : Heap} {L : Addr} (h1 : 28 < h.objs.size) (h2 : h.objs.size ≤ L) (h3 : L < h'.objs.size) (h4 : h'.objs.size ≤ a) : (a == sysModules) = false := by
  have g : (28 : Nat) < a := Nat.lt_trans h1 (Nat.lt_of_le_of_lt h2 (Nat.lt_of_lt_of_le h3 h4))
  exact beq_eq_false_iff_ne.mpr (fun e => absurd (e ▸ g : (28 : Nat) < sysModules) (by decide))
theorem law_raises {args : List WData} : ∀ cls, PySem.Challenge.rw_re0097_01.row.claim.raises args cls = false := raisesW_false (by wrow_none_raised)
theorem law_post {args : List WData} : PySem.Challenge.rw_re0097_01.row.claim.post args (.bool true) args = true := by wrow_post
end Mine
end
section
open PySem PySem.W PySem.Calls PyProof.Rows PySem.Spec
set_option Elab.async false
set_option maxRecDepth 100000
set_option maxHeartbeats 0
set_option pp.maxSteps 30000
set_option linter.unusedVariables false
namespace Mine
local macro_rules | `(tactic| k_qdec) => `(tactic| fail "no twin")
noncomputable def baseN : List Int := [0, 1, 3, 5, 10, 11, 12, 6, 4, 0, 6]
theorem law_walk : PySem.Challenge.rw_re0097_01.Holds := Mine.hd (by
  k_go0
  (all_goals try k_fold)
  with_reducible rename Fr _ _ _ _ => F
  replace F := frAs F (m' := fun _ => none) (fun z => by rfl)
  (repeat' ((fail_if_success (with_reducible (show Exists _))); (fail_if_success (with_reducible (show LCg.CompSrc _ _ _ _ _ _ _ _ _ _ _ _ _ _))); (fail_if_success (with_reducible (show wpAny _ _ (exec (PySem.Stmt.Assign _ (PySem.Expr.ListComp _ _ _ _) _) _) _ _ _))); (fail_if_success (with_reducible (show wpAny _ _ (eval (PySem.Expr.ListComp _ _ _ _) _) _ _ _))); (fail_if_success (with_reducible (show wpAny _ _ (subscriptTail _ _ (Value.ref _) _) _ _ _))); (fail_if_success (with_reducible (show wpAny _ _ (call (Value.ref 28) _) _ _ _))); (fail_if_success (with_reducible (show wpAny _ _ (call (Value.ref 35) _) _ _ _))); (fail_if_success (with_reducible (show wpAny _ _ (call (Value.ref 93) _) _ _ _))); (fail_if_success (with_reducible (show wpAny _ _ (call (Value.ref 78) _) _ _ _))); (fail_if_success (with_reducible (show wpAny _ _ (call (Value.ref 86) _) _ _ _))); (fail_if_success (with_reducible (show wpAny _ _ (call (Value.ref 100) _) _ _ _))); (fail_if_success (with_reducible (show wpAny _ _ (call (Value.ref 110) _) _ _ _))); (fail_if_success (with_reducible (show wpAny _ _ (call (Value.builtin "sum") _) _ _ _))); (fail_if_success (with_reducible (show wpAny _ _ (call (Value.builtin "str.join") _) _ _ _))); (fail_if_success (with_reducible (show wpAny _ _ (call (Value.builtin "dict.get") _) _ _ _))); (fail_if_success (with_reducible (show wpAny _ _ (getMethod (Value.ref _) _ _) _ _ _))); (fail_if_success (with_reducible (show wpAny _ _ (storeName _ (PySem.Str.ofString "mail") _) _ _ _))); (first | (k_unfold; (try dsimp only)) | walk1 | (dsimp only; walk1) | (leave1; (try dsimp only)) | fail "no step")))
  with_reducible rename Fr _ _ _ _ => F
  with_reducible rename News _ _ _ _ => N
  with_reducible rename Frag.In _ _ => KX
  with_reducible rename IntsAre _ _ => hI
  refine LCg.Assign_ListComp_U F rfl (by with_unfolding_all rfl) (by rfl) (by decide) (by rfl) (by decide) (by rfl) (by rfl) (by rfl) ?_
  (repeat' ((fail_if_success (with_reducible (show Exists _))); (fail_if_success (with_reducible (show LCg.CompSrc _ _ _ _ _ _ _ _ _ _ _ _ _ _))); (fail_if_success (with_reducible (show wpAny _ _ (exec (PySem.Stmt.Assign _ (PySem.Expr.ListComp _ _ _ _) _) _) _ _ _))); (fail_if_success (with_reducible (show wpAny _ _ (eval (PySem.Expr.ListComp _ _ _ _) _) _ _ _))); (fail_if_success (with_reducible (show wpAny _ _ (subscriptTail _ _ (Value.ref _) _) _ _ _))); (fail_if_success (with_reducible (show wpAny _ _ (call (Value.ref 28) _) _ _ _))); (fail_if_success (with_reducible (show wpAny _ _ (call (Value.ref 35) _) _ _ _))); (fail_if_success (with_reducible (show wpAny _ _ (call (Value.ref 93) _) _ _ _))); (fail_if_success (with_reducible (show wpAny _ _ (call (Value.ref 78) _) _ _ _))); (fail_if_success (with_reducible (show wpAny _ _ (call (Value.ref 86) _) _ _ _))); (fail_if_success (with_reducible (show wpAny _ _ (call (Value.ref 100) _) _ _ _))); (fail_if_success (with_reducible (show wpAny _ _ (call (Value.ref 110) _) _ _ _))); (fail_if_success (with_reducible (show wpAny _ _ (call (Value.builtin "sum") _) _ _ _))); (fail_if_success (with_reducible (show wpAny _ _ (call (Value.builtin "str.join") _) _ _ _))); (fail_if_success (with_reducible (show wpAny _ _ (call (Value.builtin "dict.get") _) _ _ _))); (fail_if_success (with_reducible (show wpAny _ _ (getMethod (Value.ref _) _ _) _ _ _))); (fail_if_success (with_reducible (show wpAny _ _ (storeName _ (PySem.Str.ofString "mail") _) _ _ _))); (first | (k_unfold; (try dsimp only)) | walk1 | (dsimp only; walk1) | (leave1; (try dsimp only)) | fail "no step")))
  with_reducible rename IsRange _ _ _ _ _ _ _ _ => hIR
  with_reducible rename Fr _ _ _ _ => F7
  with_reducible rename News _ _ _ _ => N7
  refine LCg.CompSrc.range (n := 11) rfl F7 N7 hIR (by decide) (by decide) (by decide) ?_
  intro g7
  refine rest_all (n := 11) (fun i ys => ∃ ns : List Int, IntsAre ys ns ∧ ns.length = i) ?step trivial ?fin 11 0 [] (by simp) ⟨[], .nil, rfl⟩
  case step =>
    intro i v I oI C oC D9 m₂ h9 tk9 E' ys9 hilt hv0 hn hm2 F9 N9 off hR0
    refine postV ?_
    intro PV hPV
    obtain ⟨tv, rfl⟩ := hv0
    obtain ⟨ns, hns, hnl⟩ := hR0
    (repeat' ((fail_if_success (with_reducible (show Exists _))); (fail_if_success (with_reducible (show LCg.CompSrc _ _ _ _ _ _ _ _ _ _ _ _ _ _))); (fail_if_success (with_reducible (show wpAny _ _ (exec (PySem.Stmt.Assign _ (PySem.Expr.ListComp _ _ _ _) _) _) _ _ _))); (fail_if_success (with_reducible (show wpAny _ _ (eval (PySem.Expr.ListComp _ _ _ _) _) _ _ _))); (fail_if_success (with_reducible (show wpAny _ _ (subscriptTail _ _ (Value.ref _) _) _ _ _))); (fail_if_success (with_reducible (show wpAny _ _ (call (Value.ref 28) _) _ _ _))); (fail_if_success (with_reducible (show wpAny _ _ (call (Value.ref 35) _) _ _ _))); (fail_if_success (with_reducible (show wpAny _ _ (call (Value.ref 93) _) _ _ _))); (fail_if_success (with_reducible (show wpAny _ _ (call (Value.ref 78) _) _ _ _))); (fail_if_success (with_reducible (show wpAny _ _ (call (Value.ref 86) _) _ _ _))); (fail_if_success (with_reducible (show wpAny _ _ (call (Value.ref 100) _) _ _ _))); (fail_if_success (with_reducible (show wpAny _ _ (call (Value.ref 110) _) _ _ _))); (fail_if_success (with_reducible (show wpAny _ _ (call (Value.builtin "sum") _) _ _ _))); (fail_if_success (with_reducible (show wpAny _ _ (call (Value.builtin "str.join") _) _ _ _))); (fail_if_success (with_reducible (show wpAny _ _ (call (Value.builtin "dict.get") _) _ _ _))); (fail_if_success (with_reducible (show wpAny _ _ (getMethod (Value.ref _) _ _) _ _ _))); (fail_if_success (with_reducible (show wpAny _ _ (storeName _ (PySem.Str.ofString "mail") _) _ _ _))); (first | (k_unfold; (try dsimp only)) | walk1 | (dsimp only; walk1) | (leave1; (try dsimp only)) | fail "no step")))
    refine sub_ex (isl N9 (.tail _ (.tail _ (.tail _ (.head _))))) (by omega) (by omega) (base_get hilt) ?_
    intro nb tb
    (repeat' ((fail_if_success (with_reducible (show Exists _))); (fail_if_success (with_reducible (show LCg.CompSrc _ _ _ _ _ _ _ _ _ _ _ _ _ _))); (fail_if_success (with_reducible (show wpAny _ _ (exec (PySem.Stmt.Assign _ (PySem.Expr.ListComp _ _ _ _) _) _) _ _ _))); (fail_if_success (with_reducible (show wpAny _ _ (eval (PySem.Expr.ListComp _ _ _ _) _) _ _ _))); (fail_if_success (with_reducible (show wpAny _ _ (subscriptTail _ _ (Value.ref _) _) _ _ _))); (fail_if_success (with_reducible (show wpAny _ _ (call (Value.ref 28) _) _ _ _))); (fail_if_success (with_reducible (show wpAny _ _ (call (Value.ref 35) _) _ _ _))); (fail_if_success (with_reducible (show wpAny _ _ (call (Value.ref 93) _) _ _ _))); (fail_if_success (with_reducible (show wpAny _ _ (call (Value.ref 78) _) _ _ _))); (fail_if_success (with_reducible (show wpAny _ _ (call (Value.ref 86) _) _ _ _))); (fail_if_success (with_reducible (show wpAny _ _ (call (Value.ref 100) _) _ _ _))); (fail_if_success (with_reducible (show wpAny _ _ (call (Value.ref 110) _) _ _ _))); (fail_if_success (with_reducible (show wpAny _ _ (call (Value.builtin "sum") _) _ _ _))); (fail_if_success (with_reducible (show wpAny _ _ (call (Value.builtin "str.join") _) _ _ _))); (fail_if_success (with_reducible (show wpAny _ _ (call (Value.builtin "dict.get") _) _ _ _))); (fail_if_success (with_reducible (show wpAny _ _ (getMethod (Value.ref _) _ _) _ _ _))); (fail_if_success (with_reducible (show wpAny _ _ (storeName _ (PySem.Str.ofString "mail") _) _ _ _))); (first | (k_unfold; (try dsimp only)) | walk1 | (dsimp only; walk1) | (leave1; (try dsimp only)) | fail "no step")))
    refine LCg.ListComp_U F9 (by with_unfolding_all rfl) (by decide) (by rfl) (by decide) (by rfl) ?_
    (repeat' ((fail_if_success (with_reducible (show Exists _))); (fail_if_success (with_reducible (show LCg.CompSrc _ _ _ _ _ _ _ _ _ _ _ _ _ _))); (fail_if_success (with_reducible (show wpAny _ _ (exec (PySem.Stmt.Assign _ (PySem.Expr.ListComp _ _ _ _) _) _) _ _ _))); (fail_if_success (with_reducible (show wpAny _ _ (eval (PySem.Expr.ListComp _ _ _ _) _) _ _ _))); (fail_if_success (with_reducible (show wpAny _ _ (subscriptTail _ _ (Value.ref _) _) _ _ _))); (fail_if_success (with_reducible (show wpAny _ _ (call (Value.ref 28) _) _ _ _))); (fail_if_success (with_reducible (show wpAny _ _ (call (Value.ref 35) _) _ _ _))); (fail_if_success (with_reducible (show wpAny _ _ (call (Value.ref 93) _) _ _ _))); (fail_if_success (with_reducible (show wpAny _ _ (call (Value.ref 78) _) _ _ _))); (fail_if_success (with_reducible (show wpAny _ _ (call (Value.ref 86) _) _ _ _))); (fail_if_success (with_reducible (show wpAny _ _ (call (Value.ref 100) _) _ _ _))); (fail_if_success (with_reducible (show wpAny _ _ (call (Value.ref 110) _) _ _ _))); (fail_if_success (with_reducible (show wpAny _ _ (call (Value.builtin "sum") _) _ _ _))); (fail_if_success (with_reducible (show wpAny _ _ (call (Value.builtin "str.join") _) _ _ _))); (fail_if_success (with_reducible (show wpAny _ _ (call (Value.builtin "dict.get") _) _ _ _))); (fail_if_success (with_reducible (show wpAny _ _ (getMethod (Value.ref _) _ _) _ _ _))); (fail_if_success (with_reducible (show wpAny _ _ (storeName _ (PySem.Str.ofString "mail") _) _ _ _))); (first | (k_unfold; (try dsimp only)) | walk1 | (dsimp only; walk1) | (leave1; (try dsimp only)) | fail "no step")))
    with_reducible rename Heap.IsList _ _ _ => hL
    have hLs := hL
    obtain ⟨oL, hoL, rL⟩ := hLs
    with_reducible rename ¬ _ < _ => hcd
    have hsz9 := hI.length
    refine slice_list3 F9 N9 ⟨oL, F9.keep _ _ hoL, rL⟩ (.int _ _) (.int _ _) (.int _ _) (by decide) ?_ (by with_unfolding_all rfl) (by intro _; with_unfolding_all rfl) ?hz
    case hz =>
      rw [List.size_toArray, hI.length]
      unfold sizeLine
      omega
    intro h12 F12 N12
    obtain ⟨ms, hms⟩ := pick_ints (lo := some (0 + (i : Int))) (hi := some 60) (st := some 11) (items := (_ : List Value).toArray) hI
    refine LCg.CompSrc.ledger rfl F12 N12 (.head _) ?hz2 ?_
    case hz2 =>
      refine Nat.le_trans (slicePick_size_le ..) ?_
      rw [List.size_toArray, hsz9]
      unfold sizeLine
      omega
    intro g13
    refine rest_all (fun i ys => ∃ ns : List Int, IntsAre ys ns) ?step3 (.inr ⟨_, .head _, rfl, _, rfl⟩) ?fin3 _ 0 [] (Nat.zero_add _) ⟨[], .nil⟩
    case step3 =>
      intro i3 v3 I3 oI3 C3 oC3 D3 m3 h13 tk13 E3 ys3 hilt3 hv3 hn3 hm3 F13 N13 off3 hR3
      refine postV ?_
      intro PV3 hPV3
      obtain ⟨ns3, hns3⟩ := hR3
      have hv3' := ints_mem hms v3 (List.mem_of_getElem? (by rw [Array.getElem?_toList]; exact hv3))
      obtain ⟨n3, t3, rfl⟩ := hv3'
      (repeat' ((fail_if_success (with_reducible (show Exists _))); (fail_if_success (with_reducible (show LCg.CompSrc _ _ _ _ _ _ _ _ _ _ _ _ _ _))); (fail_if_success (with_reducible (show wpAny _ _ (exec (PySem.Stmt.Assign _ (PySem.Expr.ListComp _ _ _ _) _) _) _ _ _))); (fail_if_success (with_reducible (show wpAny _ _ (eval (PySem.Expr.ListComp _ _ _ _) _) _ _ _))); (fail_if_success (with_reducible (show wpAny _ _ (subscriptTail _ _ (Value.ref _) _) _ _ _))); (fail_if_success (with_reducible (show wpAny _ _ (call (Value.ref 28) _) _ _ _))); (fail_if_success (with_reducible (show wpAny _ _ (call (Value.ref 35) _) _ _ _))); (fail_if_success (with_reducible (show wpAny _ _ (call (Value.ref 93) _) _ _ _))); (fail_if_success (with_reducible (show wpAny _ _ (call (Value.ref 78) _) _ _ _))); (fail_if_success (with_reducible (show wpAny _ _ (call (Value.ref 86) _) _ _ _))); (fail_if_success (with_reducible (show wpAny _ _ (call (Value.ref 100) _) _ _ _))); (fail_if_success (with_reducible (show wpAny _ _ (call (Value.ref 110) _) _ _ _))); (fail_if_success (with_reducible (show wpAny _ _ (call (Value.builtin "sum") _) _ _ _))); (fail_if_success (with_reducible (show wpAny _ _ (call (Value.builtin "str.join") _) _ _ _))); (fail_if_success (with_reducible (show wpAny _ _ (call (Value.builtin "dict.get") _) _ _ _))); (fail_if_success (with_reducible (show wpAny _ _ (getMethod (Value.ref _) _ _) _ _ _))); (fail_if_success (with_reducible (show wpAny _ _ (storeName _ (PySem.Str.ofString "mail") _) _ _ _))); (first | (k_unfold; (try dsimp only)) | walk1 | (dsimp only; walk1) | (leave1; (try dsimp only)) | fail "no step")))
      refine PostV.use hPV3 ?_
      refine ⟨h13, _, rfl, F13, N13, _, ints_snoc _ _ hns3⟩
    case fin3 =>
      rintro ys3 ⟨ns3, hns3⟩
      rintro D3 h14 tk14 F14 N14 off3
      dsimp only
      (repeat' ((fail_if_success (with_reducible (show Exists _))); (fail_if_success (with_reducible (show LCg.CompSrc _ _ _ _ _ _ _ _ _ _ _ _ _ _))); (fail_if_success (with_reducible (show wpAny _ _ (exec (PySem.Stmt.Assign _ (PySem.Expr.ListComp _ _ _ _) _) _) _ _ _))); (fail_if_success (with_reducible (show wpAny _ _ (eval (PySem.Expr.ListComp _ _ _ _) _) _ _ _))); (fail_if_success (with_reducible (show wpAny _ _ (subscriptTail _ _ (Value.ref _) _) _ _ _))); (fail_if_success (with_reducible (show wpAny _ _ (call (Value.ref 28) _) _ _ _))); (fail_if_success (with_reducible (show wpAny _ _ (call (Value.ref 35) _) _ _ _))); (fail_if_success (with_reducible (show wpAny _ _ (call (Value.ref 93) _) _ _ _))); (fail_if_success (with_reducible (show wpAny _ _ (call (Value.ref 78) _) _ _ _))); (fail_if_success (with_reducible (show wpAny _ _ (call (Value.ref 86) _) _ _ _))); (fail_if_success (with_reducible (show wpAny _ _ (call (Value.ref 100) _) _ _ _))); (fail_if_success (with_reducible (show wpAny _ _ (call (Value.ref 110) _) _ _ _))); (fail_if_success (with_reducible (show wpAny _ _ (call (Value.builtin "sum") _) _ _ _))); (fail_if_success (with_reducible (show wpAny _ _ (call (Value.builtin "str.join") _) _ _ _))); (fail_if_success (with_reducible (show wpAny _ _ (call (Value.builtin "dict.get") _) _ _ _))); (fail_if_success (with_reducible (show wpAny _ _ (getMethod (Value.ref _) _ _) _ _ _))); (fail_if_success (with_reducible (show wpAny _ _ (storeName _ (PySem.Str.ofString "mail") _) _ _ _))); (first | (k_unfold; (try dsimp only)) | walk1 | (dsimp only; walk1) | (leave1; (try dsimp only)) | fail "no step")))
      refine sumK rfl F14 N14 ⟨_, (N14 _ (.head _)).1, rfl, _, rfl⟩ hns3 ?_
      intro h15 t15 k15 F15 N15
      (repeat' ((fail_if_success (with_reducible (show Exists _))); (fail_if_success (with_reducible (show LCg.CompSrc _ _ _ _ _ _ _ _ _ _ _ _ _ _))); (fail_if_success (with_reducible (show wpAny _ _ (exec (PySem.Stmt.Assign _ (PySem.Expr.ListComp _ _ _ _) _) _) _ _ _))); (fail_if_success (with_reducible (show wpAny _ _ (eval (PySem.Expr.ListComp _ _ _ _) _) _ _ _))); (fail_if_success (with_reducible (show wpAny _ _ (subscriptTail _ _ (Value.ref _) _) _ _ _))); (fail_if_success (with_reducible (show wpAny _ _ (call (Value.ref 28) _) _ _ _))); (fail_if_success (with_reducible (show wpAny _ _ (call (Value.ref 35) _) _ _ _))); (fail_if_success (with_reducible (show wpAny _ _ (call (Value.ref 93) _) _ _ _))); (fail_if_success (with_reducible (show wpAny _ _ (call (Value.ref 78) _) _ _ _))); (fail_if_success (with_reducible (show wpAny _ _ (call (Value.ref 86) _) _ _ _))); (fail_if_success (with_reducible (show wpAny _ _ (call (Value.ref 100) _) _ _ _))); (fail_if_success (with_reducible (show wpAny _ _ (call (Value.ref 110) _) _ _ _))); (fail_if_success (with_reducible (show wpAny _ _ (call (Value.builtin "sum") _) _ _ _))); (fail_if_success (with_reducible (show wpAny _ _ (call (Value.builtin "str.join") _) _ _ _))); (fail_if_success (with_reducible (show wpAny _ _ (call (Value.builtin "dict.get") _) _ _ _))); (fail_if_success (with_reducible (show wpAny _ _ (getMethod (Value.ref _) _ _) _ _ _))); (fail_if_success (with_reducible (show wpAny _ _ (storeName _ (PySem.Str.ofString "mail") _) _ _ _))); (first | (k_unfold; (try dsimp only)) | walk1 | (dsimp only; walk1) | (leave1; (try dsimp only)) | fail "no step")))
      refine PostV.use hPV ?_
      refine ⟨_, _, rfl, F15, newsSub N15 (fun p hp => List.mem_cons_of_mem _ (List.mem_cons_of_mem _ hp)), _, ints_snoc _ _ hns, by simp [hnl]⟩
  case fin =>
    rintro ys ⟨ns, hns, hnl⟩
    rintro D h2 tk2 F2 N2 off
    obtain ⟨o1, o2, o3, o4, o5, -⟩ := off
    dsimp only at o1 o2 o3 o4 o5
    (repeat' ((fail_if_success (with_reducible (show Exists _))); (fail_if_success (with_reducible (show LCg.CompSrc _ _ _ _ _ _ _ _ _ _ _ _ _ _))); (fail_if_success (with_reducible (show wpAny _ _ (exec (PySem.Stmt.Assign _ (PySem.Expr.ListComp _ _ _ _) _) _) _ _ _))); (fail_if_success (with_reducible (show wpAny _ _ (eval (PySem.Expr.ListComp _ _ _ _) _) _ _ _))); (fail_if_success (with_reducible (show wpAny _ _ (subscriptTail _ _ (Value.ref _) _) _ _ _))); (fail_if_success (with_reducible (show wpAny _ _ (call (Value.ref 28) _) _ _ _))); (fail_if_success (with_reducible (show wpAny _ _ (call (Value.ref 35) _) _ _ _))); (fail_if_success (with_reducible (show wpAny _ _ (call (Value.ref 93) _) _ _ _))); (fail_if_success (with_reducible (show wpAny _ _ (call (Value.ref 78) _) _ _ _))); (fail_if_success (with_reducible (show wpAny _ _ (call (Value.ref 86) _) _ _ _))); (fail_if_success (with_reducible (show wpAny _ _ (call (Value.ref 100) _) _ _ _))); (fail_if_success (with_reducible (show wpAny _ _ (call (Value.ref 110) _) _ _ _))); (fail_if_success (with_reducible (show wpAny _ _ (call (Value.builtin "sum") _) _ _ _))); (fail_if_success (with_reducible (show wpAny _ _ (call (Value.builtin "str.join") _) _ _ _))); (fail_if_success (with_reducible (show wpAny _ _ (call (Value.builtin "dict.get") _) _ _ _))); (fail_if_success (with_reducible (show wpAny _ _ (getMethod (Value.ref _) _ _) _ _ _))); (fail_if_success (with_reducible (show wpAny _ _ (storeName _ (PySem.Str.ofString "mail") _) _ _ _))); (first | (k_unfold; (try dsimp only)) | walk1 | (dsimp only; walk1) | (leave1; (try dsimp only)) | fail "no step")))
    with_reducible rename Fr _ _ _ _ => F3
    with_reducible rename News _ _ _ _ => N3
    try clear F2
    try clear N2
    refine LCg.ListComp_U F3 (by with_unfolding_all rfl) (by decide) (by rfl) (by decide) (by rfl) ?_
    (repeat' ((fail_if_success (with_reducible (show Exists _))); (fail_if_success (with_reducible (show LCg.CompSrc _ _ _ _ _ _ _ _ _ _ _ _ _ _))); (fail_if_success (with_reducible (show wpAny _ _ (exec (PySem.Stmt.Assign _ (PySem.Expr.ListComp _ _ _ _) _) _) _ _ _))); (fail_if_success (with_reducible (show wpAny _ _ (eval (PySem.Expr.ListComp _ _ _ _) _) _ _ _))); (fail_if_success (with_reducible (show wpAny _ _ (subscriptTail _ _ (Value.ref _) _) _ _ _))); (fail_if_success (with_reducible (show wpAny _ _ (call (Value.ref 28) _) _ _ _))); (fail_if_success (with_reducible (show wpAny _ _ (call (Value.ref 35) _) _ _ _))); (fail_if_success (with_reducible (show wpAny _ _ (call (Value.ref 93) _) _ _ _))); (fail_if_success (with_reducible (show wpAny _ _ (call (Value.ref 78) _) _ _ _))); (fail_if_success (with_reducible (show wpAny _ _ (call (Value.ref 86) _) _ _ _))); (fail_if_success (with_reducible (show wpAny _ _ (call (Value.ref 100) _) _ _ _))); (fail_if_success (with_reducible (show wpAny _ _ (call (Value.ref 110) _) _ _ _))); (fail_if_success (with_reducible (show wpAny _ _ (call (Value.builtin "sum") _) _ _ _))); (fail_if_success (with_reducible (show wpAny _ _ (call (Value.builtin "str.join") _) _ _ _))); (fail_if_success (with_reducible (show wpAny _ _ (call (Value.builtin "dict.get") _) _ _ _))); (fail_if_success (with_reducible (show wpAny _ _ (getMethod (Value.ref _) _ _) _ _ _))); (fail_if_success (with_reducible (show wpAny _ _ (storeName _ (PySem.Str.ofString "mail") _) _ _ _))); (first | (k_unfold; (try dsimp only)) | walk1 | (dsimp only; walk1) | (leave1; (try dsimp only)) | fail "no step")))
    refine slice_list F3 N3 (isl (vs := ys.toArray) (n := ys.length) N3 (.tail _ (.head _))) .none (.int _ _) ?_ (by with_unfolding_all rfl) (by intro _; with_unfolding_all rfl) ?hz
    case hz => rw [List.size_toArray, hns.length, hnl]; decide
    intro h4 F4 N4
    have h9 := kmk_upto (y := 9) hns (by decide)
    refine LCg.CompSrc.ledger rfl F4 N4 (.head _) ?hz2 ?_
    case hz2 =>
      refine Nat.le_trans (slicePick_size_le ..) ?_
      rw [List.size_toArray, hns.length, hnl]
      decide
    intro g5
    refine rest_all (fun i vs => ∃ xs : List (List Nat), TextsAre vs xs ∧ xs.length = i ∧ ∀ x ∈ xs, x = [] ∨ ∃ c, x = [c] ∧ sign c = true) ?step4 (.inr ⟨_, .head _, rfl, _, rfl⟩) ?fin4 _ 0 [] (Nat.zero_add _) ⟨[], .nil, rfl, fun _ h => nomatch h⟩
    case step4 =>
      intro i3 v3 I3 oI3 C3 oC3 D3 m3 h13 tk13 E3 ys3 hilt3 hv3 hn3 hm3 F13 N13 off3 hR3
      refine postV ?_
      intro PV3 hPV3
      obtain ⟨xs3, hxs3, hxl3, hxc3⟩ := hR3
      obtain ⟨n3, t3, rfl⟩ := ints_mem h9 v3 (List.mem_of_getElem? (by rw [Array.getElem?_toList]; exact hv3))
      (repeat' ((fail_if_success (with_reducible (show Exists _))); (fail_if_success (with_reducible (show LCg.CompSrc _ _ _ _ _ _ _ _ _ _ _ _ _ _))); (fail_if_success (with_reducible (show wpAny _ _ (exec (PySem.Stmt.Assign _ (PySem.Expr.ListComp _ _ _ _) _) _) _ _ _))); (fail_if_success (with_reducible (show wpAny _ _ (eval (PySem.Expr.ListComp _ _ _ _) _) _ _ _))); (fail_if_success (with_reducible (show wpAny _ _ (subscriptTail _ _ (Value.ref _) _) _ _ _))); (fail_if_success (with_reducible (show wpAny _ _ (call (Value.ref 28) _) _ _ _))); (fail_if_success (with_reducible (show wpAny _ _ (call (Value.ref 35) _) _ _ _))); (fail_if_success (with_reducible (show wpAny _ _ (call (Value.ref 93) _) _ _ _))); (fail_if_success (with_reducible (show wpAny _ _ (call (Value.ref 78) _) _ _ _))); (fail_if_success (with_reducible (show wpAny _ _ (call (Value.ref 86) _) _ _ _))); (fail_if_success (with_reducible (show wpAny _ _ (call (Value.ref 100) _) _ _ _))); (fail_if_success (with_reducible (show wpAny _ _ (call (Value.ref 110) _) _ _ _))); (fail_if_success (with_reducible (show wpAny _ _ (call (Value.builtin "sum") _) _ _ _))); (fail_if_success (with_reducible (show wpAny _ _ (call (Value.builtin "str.join") _) _ _ _))); (fail_if_success (with_reducible (show wpAny _ _ (call (Value.builtin "dict.get") _) _ _ _))); (fail_if_success (with_reducible (show wpAny _ _ (getMethod (Value.ref _) _ _) _ _ _))); (fail_if_success (with_reducible (show wpAny _ _ (storeName _ (PySem.Str.ofString "mail") _) _ _ _))); (first | (k_unfold; (try dsimp only)) | walk1 | (dsimp only; walk1) | (leave1; (try dsimp only)) | fail "no step")))
      have hf0 : 0 ≤ n3.fmod 15 := Int.fmod_nonneg_of_pos _ (by decide)
      have hf1 : n3.fmod 15 < 15 := Int.fmod_lt_of_pos _ (by decide)
      refine sub_exT (isl N13 (.tail _ (.tail _ (.tail _ (.tail _ (.head _)))))) hf0 (by omega) (signs_get (by omega)) ?_
      intro x t hx
      refine PostV.use hPV3 ?_
      refine ⟨_, _, rfl, F13, N13, xs3 ++ [x], hxs3.snoc _ _, by simp [hxl3], fun y hy => ?_⟩
      rcases List.mem_append.mp hy with hy | hy
      · exact hxc3 y hy
      · rw [List.mem_singleton.mp hy]; exact hx
    case fin4 =>
      rintro ys3 ⟨xs3, hxs3, hxl3, hxc3⟩
      rintro D3 h14 tk14 F14 N14 off3
      dsimp only
      (repeat' ((fail_if_success (with_reducible (show Exists _))); (fail_if_success (with_reducible (show LCg.CompSrc _ _ _ _ _ _ _ _ _ _ _ _ _ _))); (fail_if_success (with_reducible (show wpAny _ _ (exec (PySem.Stmt.Assign _ (PySem.Expr.ListComp _ _ _ _) _) _) _ _ _))); (fail_if_success (with_reducible (show wpAny _ _ (eval (PySem.Expr.ListComp _ _ _ _) _) _ _ _))); (fail_if_success (with_reducible (show wpAny _ _ (subscriptTail _ _ (Value.ref _) _) _ _ _))); (fail_if_success (with_reducible (show wpAny _ _ (call (Value.ref 28) _) _ _ _))); (fail_if_success (with_reducible (show wpAny _ _ (call (Value.ref 35) _) _ _ _))); (fail_if_success (with_reducible (show wpAny _ _ (call (Value.ref 93) _) _ _ _))); (fail_if_success (with_reducible (show wpAny _ _ (call (Value.ref 78) _) _ _ _))); (fail_if_success (with_reducible (show wpAny _ _ (call (Value.ref 86) _) _ _ _))); (fail_if_success (with_reducible (show wpAny _ _ (call (Value.ref 100) _) _ _ _))); (fail_if_success (with_reducible (show wpAny _ _ (call (Value.ref 110) _) _ _ _))); (fail_if_success (with_reducible (show wpAny _ _ (call (Value.builtin "sum") _) _ _ _))); (fail_if_success (with_reducible (show wpAny _ _ (call (Value.builtin "str.join") _) _ _ _))); (fail_if_success (with_reducible (show wpAny _ _ (call (Value.builtin "dict.get") _) _ _ _))); (fail_if_success (with_reducible (show wpAny _ _ (getMethod (Value.ref _) _ _) _ _ _))); (fail_if_success (with_reducible (show wpAny _ _ (storeName _ (PySem.Str.ofString "mail") _) _ _ _))); (first | (k_unfold; (try dsimp only)) | walk1 | (dsimp only; walk1) | (leave1; (try dsimp only)) | fail "no step")))
      have hjl : xs3.length = 9 := by
        rw [hxl3, ← Array.length_toList, h9.length, List.length_take, hnl]
        decide
      have hfl : ∀ l : List (List Nat), (∀ x ∈ l, x = [] ∨ ∃ c, x = [c] ∧ sign c = true) → l.flatten.length ≤ l.length ∧ ∀ c ∈ l.flatten, sign c = true := by
        intro l
        induction l with
        | nil => intro _; exact ⟨Nat.le_refl _, by simp⟩
        | cons a l ih =>
          intro hl
          have ih := ih fun x hx => hl x (List.mem_cons_of_mem _ hx)
          rcases hl a (by simp) with rfl | ⟨c, rfl, hc⟩
          · exact ⟨by rw [List.flatten_cons, List.length_append, List.length_cons]; have := ih.1; simp only [List.length_nil]; omega, by simpa using ih.2⟩
          · refine ⟨by simp only [List.flatten_cons, List.length_append, List.length_cons, List.length_nil]; have := ih.1; omega, ?_⟩
            intro c' hc'
            simp at hc'
            rcases hc' with rfl | hc'
            · exact hc
            · exact ih.2 c' (by simpa using hc')
      obtain ⟨htl, hts⟩ := hfl xs3 hxc3
      generalize htx : xs3.flatten = text at *
      refine join_listW (items := ys3.toArray) (ys := xs3.map S) ⟨_, (N14 _ (List.Mem.head _)).1, rfl, _, rfl⟩ (by simpa using hxs3.strs) (by decide +kernel) (by
        rw [List.map_map, List.length_map]
        have e : (PySem.Str.length ∘ S) = List.length := by funext r; exact S_len r
        rw [e, ← List.length_flatten, htx]
        omega) ?_
      intro t9 k9
      rw [join0, htx]
      (repeat' ((fail_if_success (with_reducible (show Exists _))); (fail_if_success (with_reducible (show LCg.CompSrc _ _ _ _ _ _ _ _ _ _ _ _ _ _))); (fail_if_success (with_reducible (show wpAny _ _ (exec (PySem.Stmt.Assign _ (PySem.Expr.ListComp _ _ _ _) _) _) _ _ _))); (fail_if_success (with_reducible (show wpAny _ _ (eval (PySem.Expr.ListComp _ _ _ _) _) _ _ _))); (fail_if_success (with_reducible (show wpAny _ _ (subscriptTail _ _ (Value.ref _) _) _ _ _))); (fail_if_success (with_reducible (show wpAny _ _ (call (Value.ref 28) _) _ _ _))); (fail_if_success (with_reducible (show wpAny _ _ (call (Value.ref 35) _) _ _ _))); (fail_if_success (with_reducible (show wpAny _ _ (call (Value.ref 93) _) _ _ _))); (fail_if_success (with_reducible (show wpAny _ _ (call (Value.ref 78) _) _ _ _))); (fail_if_success (with_reducible (show wpAny _ _ (call (Value.ref 86) _) _ _ _))); (fail_if_success (with_reducible (show wpAny _ _ (call (Value.ref 100) _) _ _ _))); (fail_if_success (with_reducible (show wpAny _ _ (call (Value.ref 110) _) _ _ _))); (fail_if_success (with_reducible (show wpAny _ _ (call (Value.builtin "sum") _) _ _ _))); (fail_if_success (with_reducible (show wpAny _ _ (call (Value.builtin "str.join") _) _ _ _))); (fail_if_success (with_reducible (show wpAny _ _ (call (Value.builtin "dict.get") _) _ _ _))); (fail_if_success (with_reducible (show wpAny _ _ (getMethod (Value.ref _) _ _) _ _ _))); (fail_if_success (with_reducible (show wpAny _ _ (storeName _ (PySem.Str.ofString "mail") _) _ _ _))); (first | (k_unfold; (try dsimp only)) | walk1 | (dsimp only; walk1) | (leave1; (try dsimp only)) | fail "no step")))
      with_reducible rename Fr _ _ _ _ => F15
      with_reducible rename News _ _ _ _ => N15
      obtain ⟨n9, hn9⟩ : ∃ n, ns[9]? = some n := ⟨_, List.getElem?_eq_getElem (by omega)⟩
      obtain ⟨n10, hn10⟩ : ∃ n, ns[10]? = some n := ⟨_, List.getElem?_eq_getElem (by omega)⟩
      obtain ⟨u9, hv9⟩ := ints_get hns hn9
      obtain ⟨u10, hv10⟩ := ints_get hns hn10
      refine sub_nn (isl (vs := ys.toArray) (n := ys.length) N15 (.tail _ (.tail _ (.tail _ (.head _))))) (by decide) (by decide) (v := .int n9 u9) (by simpa using hv9) ?_
      (repeat' ((fail_if_success (with_reducible (show Exists _))); (fail_if_success (with_reducible (show LCg.CompSrc _ _ _ _ _ _ _ _ _ _ _ _ _ _))); (fail_if_success (with_reducible (show wpAny _ _ (exec (PySem.Stmt.Assign _ (PySem.Expr.ListComp _ _ _ _) _) _) _ _ _))); (fail_if_success (with_reducible (show wpAny _ _ (eval (PySem.Expr.ListComp _ _ _ _) _) _ _ _))); (fail_if_success (with_reducible (show wpAny _ _ (subscriptTail _ _ (Value.ref _) _) _ _ _))); (fail_if_success (with_reducible (show wpAny _ _ (call (Value.ref 28) _) _ _ _))); (fail_if_success (with_reducible (show wpAny _ _ (call (Value.ref 35) _) _ _ _))); (fail_if_success (with_reducible (show wpAny _ _ (call (Value.ref 93) _) _ _ _))); (fail_if_success (with_reducible (show wpAny _ _ (call (Value.ref 78) _) _ _ _))); (fail_if_success (with_reducible (show wpAny _ _ (call (Value.ref 86) _) _ _ _))); (fail_if_success (with_reducible (show wpAny _ _ (call (Value.ref 100) _) _ _ _))); (fail_if_success (with_reducible (show wpAny _ _ (call (Value.ref 110) _) _ _ _))); (fail_if_success (with_reducible (show wpAny _ _ (call (Value.builtin "sum") _) _ _ _))); (fail_if_success (with_reducible (show wpAny _ _ (call (Value.builtin "str.join") _) _ _ _))); (fail_if_success (with_reducible (show wpAny _ _ (call (Value.builtin "dict.get") _) _ _ _))); (fail_if_success (with_reducible (show wpAny _ _ (getMethod (Value.ref _) _ _) _ _ _))); (fail_if_success (with_reducible (show wpAny _ _ (storeName _ (PySem.Str.ofString "mail") _) _ _ _))); (first | (k_unfold; (try dsimp only)) | walk1 | (dsimp only; walk1) | (leave1; (try dsimp only)) | fail "no step")))
      have hsz1 := Heap.lt_size (KX 28 _ (by k_is))
      with_reducible rename Top _ _ _ _ _ _ => T
      refine nm_spec (KX.keeps F15.keep) (T.keeps F15.keep) (Nat.le_of_ble_eq_true rfl) (Nat.le_of_ble_eq_true rfl) rfl ?_
      intro dn h16 tk16 kvs hx16 hDn hNK hsz16
      dsimp only at hx16 hsz16
      have hds : (dn == sysModules) = false := not_sys hsz1 F15.above F15.ns.lt hsz16
      obtain ⟨on, hon, hDo⟩ := hDn
      have hnn := Heap.get?_none_of_le hsz16
      have N16 := newsAdd F15 N15 hx16 hon hnn
      have F16 := frExt F15 hx16
      have hdc := neNat (newsNe N15 hnn _ (.tail _ (.tail _ (.tail _ (.tail _ (.tail _ (.head _)))))))
      have o2' := neNat o2
      dsimp only at hdc o2'
      replace N16 := newsD2 (newsD2 (newsD2 N16))
      clear F15 N15 hx16 hon hnn
      (repeat' ((fail_if_success (with_reducible (show Exists _))); (fail_if_success (with_reducible (show LCg.CompSrc _ _ _ _ _ _ _ _ _ _ _ _ _ _))); (fail_if_success (with_reducible (show wpAny _ _ (exec (PySem.Stmt.Assign _ (PySem.Expr.ListComp _ _ _ _) _) _) _ _ _))); (fail_if_success (with_reducible (show wpAny _ _ (eval (PySem.Expr.ListComp _ _ _ _) _) _ _ _))); (fail_if_success (with_reducible (show wpAny _ _ (subscriptTail _ _ (Value.ref _) _) _ _ _))); (fail_if_success (with_reducible (show wpAny _ _ (call (Value.ref 28) _) _ _ _))); (fail_if_success (with_reducible (show wpAny _ _ (call (Value.ref 35) _) _ _ _))); (fail_if_success (with_reducible (show wpAny _ _ (call (Value.ref 93) _) _ _ _))); (fail_if_success (with_reducible (show wpAny _ _ (call (Value.ref 78) _) _ _ _))); (fail_if_success (with_reducible (show wpAny _ _ (call (Value.ref 86) _) _ _ _))); (fail_if_success (with_reducible (show wpAny _ _ (call (Value.ref 100) _) _ _ _))); (fail_if_success (with_reducible (show wpAny _ _ (call (Value.ref 110) _) _ _ _))); (fail_if_success (with_reducible (show wpAny _ _ (call (Value.builtin "sum") _) _ _ _))); (fail_if_success (with_reducible (show wpAny _ _ (call (Value.builtin "str.join") _) _ _ _))); (fail_if_success (with_reducible (show wpAny _ _ (call (Value.builtin "dict.get") _) _ _ _))); (fail_if_success (with_reducible (show wpAny _ _ (getMethod (Value.ref _) _ _) _ _ _))); (fail_if_success (with_reducible (show wpAny _ _ (storeName _ (PySem.Str.ofString "mail") _) _ _ _))); (first | (k_unfold; (try dsimp only)) | walk1 | (dsimp only; walk1) | (leave1; (try dsimp only)) | fail "no step")))
      with_reducible rename Fr _ _ _ _ => F17
      with_reducible rename News _ _ _ _ => N17
      refine sub_nn (isl (vs := ys.toArray) (n := ys.length) N17 (.tail _ (.head _))) (by decide) (by decide) (v := .int n10 u10) (by simpa using hv10) ?_
      (repeat' ((fail_if_success (with_reducible (show Exists _))); (fail_if_success (with_reducible (show LCg.CompSrc _ _ _ _ _ _ _ _ _ _ _ _ _ _))); (fail_if_success (with_reducible (show wpAny _ _ (exec (PySem.Stmt.Assign _ (PySem.Expr.ListComp _ _ _ _) _) _) _ _ _))); (fail_if_success (with_reducible (show wpAny _ _ (eval (PySem.Expr.ListComp _ _ _ _) _) _ _ _))); (fail_if_success (with_reducible (show wpAny _ _ (subscriptTail _ _ (Value.ref _) _) _ _ _))); (fail_if_success (with_reducible (show wpAny _ _ (call (Value.ref 28) _) _ _ _))); (fail_if_success (with_reducible (show wpAny _ _ (call (Value.ref 35) _) _ _ _))); (fail_if_success (with_reducible (show wpAny _ _ (call (Value.ref 93) _) _ _ _))); (fail_if_success (with_reducible (show wpAny _ _ (call (Value.ref 78) _) _ _ _))); (fail_if_success (with_reducible (show wpAny _ _ (call (Value.ref 86) _) _ _ _))); (fail_if_success (with_reducible (show wpAny _ _ (call (Value.ref 100) _) _ _ _))); (fail_if_success (with_reducible (show wpAny _ _ (call (Value.ref 110) _) _ _ _))); (fail_if_success (with_reducible (show wpAny _ _ (call (Value.builtin "sum") _) _ _ _))); (fail_if_success (with_reducible (show wpAny _ _ (call (Value.builtin "str.join") _) _ _ _))); (fail_if_success (with_reducible (show wpAny _ _ (call (Value.builtin "dict.get") _) _ _ _))); (fail_if_success (with_reducible (show wpAny _ _ (getMethod (Value.ref _) _ _) _ _ _))); (fail_if_success (with_reducible (show wpAny _ _ (storeName _ (PySem.Str.ofString "mail") _) _ _ _))); (first | (k_unfold; (try dsimp only)) | walk1 | (dsimp only; walk1) | (leave1; (try dsimp only)) | fail "no step")))
      with_reducible rename Fr _ _ _ _ => F18
      with_reducible rename News _ _ _ _ => N18
      dsimp only at F18
      have hfm0 : 0 ≤ n10.fmod 20 := Int.fmod_nonneg_of_pos _ (by decide)
      have hfm1 : n10.fmod 20 < 20 := Int.fmod_lt_of_pos _ (by decide)
      obtain ⟨m, hm⟩ : ∃ m : Nat, 4 + n10.fmod 20 = (m : Int) := ⟨(4 + n10.fmod 20).toNat, by omega⟩
      have hm4 : 4 ≤ m := by omega
      have hm23 : m ≤ 23 := by omega
      rw [hm] at F18
      have htl9 : text.length ≤ 9 := by omega
      have hTl : (S text).length ≤ 9 := by rw [S_len]; exact htl9
      generalize hbb : (n9.fmod 2 == 1) = b at hNK
      refine sub_nn (isl (vs := ys.toArray) (n := ys.length) N18 (.tail _ (.head _))) (by decide) (by decide) (v := .int n9 u9) (by simpa using hv9) ?_
      (repeat' ((fail_if_success (with_reducible (show Exists _))); (fail_if_success (with_reducible (show LCg.CompSrc _ _ _ _ _ _ _ _ _ _ _ _ _ _))); (fail_if_success (with_reducible (show wpAny _ _ (exec (PySem.Stmt.Assign _ (PySem.Expr.ListComp _ _ _ _) _) _) _ _ _))); (fail_if_success (with_reducible (show wpAny _ _ (eval (PySem.Expr.ListComp _ _ _ _) _) _ _ _))); (fail_if_success (with_reducible (show wpAny _ _ (subscriptTail _ _ (Value.ref _) _) _ _ _))); (fail_if_success (with_reducible (show wpAny _ _ (call (Value.ref 28) _) _ _ _))); (fail_if_success (with_reducible (show wpAny _ _ (call (Value.ref 35) _) _ _ _))); (fail_if_success (with_reducible (show wpAny _ _ (call (Value.ref 93) _) _ _ _))); (fail_if_success (with_reducible (show wpAny _ _ (call (Value.ref 78) _) _ _ _))); (fail_if_success (with_reducible (show wpAny _ _ (call (Value.ref 86) _) _ _ _))); (fail_if_success (with_reducible (show wpAny _ _ (call (Value.ref 100) _) _ _ _))); (fail_if_success (with_reducible (show wpAny _ _ (call (Value.ref 110) _) _ _ _))); (fail_if_success (with_reducible (show wpAny _ _ (call (Value.builtin "sum") _) _ _ _))); (fail_if_success (with_reducible (show wpAny _ _ (call (Value.builtin "str.join") _) _ _ _))); (fail_if_success (with_reducible (show wpAny _ _ (call (Value.builtin "dict.get") _) _ _ _))); (fail_if_success (with_reducible (show wpAny _ _ (getMethod (Value.ref _) _ _) _ _ _))); (fail_if_success (with_reducible (show wpAny _ _ (storeName _ (PySem.Str.ofString "mail") _) _ _ _))); (first | (k_unfold; (try dsimp only)) | walk1 | (dsimp only; walk1) | (leave1; (try dsimp only)) | fail "no step")))
      all_goals
        first
        | (with_reducible rename n9.fmod 2 = 1 => hc
           refine escX_specB (b := b) (by rw [← hbb, hc]; rfl) (KX.keeps F18.keep) (T.keeps F18.keep) (Nat.le_of_ble_eq_true rfl) (Nat.le_of_ble_eq_true rfl) rfl htl9 ?_)
        | (with_reducible rename ¬ n9.fmod 2 = 1 => hc
           refine esc_specB (b := b) (by rw [← hbb, beq_eq_false_iff_ne]; exact hc) (KX.keeps F18.keep) (T.keeps F18.keep) (Nat.le_of_ble_eq_true rfl) (Nat.le_of_ble_eq_true rfl) rfl htl9 ?_)
        intro h19 tk19 tk19' hx19
        dsimp only at hx19
        replace F18 := frExt F18 hx19
        replace N18 := newsExt N18 hx19
        clear hx19
        (repeat' ((fail_if_success (with_reducible (show Exists _))); (fail_if_success (with_reducible (show LCg.CompSrc _ _ _ _ _ _ _ _ _ _ _ _ _ _))); (fail_if_success (with_reducible (show wpAny _ _ (exec (PySem.Stmt.Assign _ (PySem.Expr.ListComp _ _ _ _) _) _) _ _ _))); (fail_if_success (with_reducible (show wpAny _ _ (eval (PySem.Expr.ListComp _ _ _ _) _) _ _ _))); (fail_if_success (with_reducible (show wpAny _ _ (subscriptTail _ _ (Value.ref _) _) _ _ _))); (fail_if_success (with_reducible (show wpAny _ _ (call (Value.ref 28) _) _ _ _))); (fail_if_success (with_reducible (show wpAny _ _ (call (Value.ref 35) _) _ _ _))); (fail_if_success (with_reducible (show wpAny _ _ (call (Value.ref 93) _) _ _ _))); (fail_if_success (with_reducible (show wpAny _ _ (call (Value.ref 78) _) _ _ _))); (fail_if_success (with_reducible (show wpAny _ _ (call (Value.ref 86) _) _ _ _))); (fail_if_success (with_reducible (show wpAny _ _ (call (Value.ref 100) _) _ _ _))); (fail_if_success (with_reducible (show wpAny _ _ (call (Value.ref 110) _) _ _ _))); (fail_if_success (with_reducible (show wpAny _ _ (call (Value.builtin "sum") _) _ _ _))); (fail_if_success (with_reducible (show wpAny _ _ (call (Value.builtin "str.join") _) _ _ _))); (fail_if_success (with_reducible (show wpAny _ _ (call (Value.builtin "dict.get") _) _ _ _))); (fail_if_success (with_reducible (show wpAny _ _ (getMethod (Value.ref _) _ _) _ _ _))); (fail_if_success (with_reducible (show wpAny _ _ (storeName _ (PySem.Str.ofString "mail") _) _ _ _))); (first | (k_unfold; (try dsimp only)) | walk1 | (dsimp only; walk1) | (leave1; (try dsimp only)) | fail "no step")))
        with_reducible rename Fr _ _ _ _ => F20
        with_reducible rename News _ _ _ _ => N20
        refine ListComp_S F20 (by with_unfolding_all rfl) (by decide) (by rfl) (by decide) (by rfl) ?_
        walk1
        refine ⟨S text, t9, _, rfl, rfl, F20, N20, by unfold sizeLine; omega, ?_⟩
        rintro s₂ ⟨g21, rfl⟩
        refine rest_all (n := text.length) (fun i ys => TextsAre ys ((text.take i).map (esc b))) ?zstep trivial ?zfin text.length 0 [] (by simp) (by simpa using TextsAre.nil)
        case zstep =>
          intro i v I oI C oC D m₂ h2 tk2 E' ys hilt hv0 hn hm2 F2 N2 off hR
          refine postV ?_
          intro PV hPV
          obtain ⟨c, uu, hc, rfl⟩ := hv0
          (repeat' ((fail_if_success (with_reducible (show Exists _))); (fail_if_success (with_reducible (show LCg.CompSrc _ _ _ _ _ _ _ _ _ _ _ _ _ _))); (fail_if_success (with_reducible (show wpAny _ _ (exec (PySem.Stmt.Assign _ (PySem.Expr.ListComp _ _ _ _) _) _) _ _ _))); (fail_if_success (with_reducible (show wpAny _ _ (eval (PySem.Expr.ListComp _ _ _ _) _) _ _ _))); (fail_if_success (with_reducible (show wpAny _ _ (subscriptTail _ _ (Value.ref _) _) _ _ _))); (fail_if_success (with_reducible (show wpAny _ _ (call (Value.ref 28) _) _ _ _))); (fail_if_success (with_reducible (show wpAny _ _ (call (Value.ref 35) _) _ _ _))); (fail_if_success (with_reducible (show wpAny _ _ (call (Value.ref 93) _) _ _ _))); (fail_if_success (with_reducible (show wpAny _ _ (call (Value.ref 78) _) _ _ _))); (fail_if_success (with_reducible (show wpAny _ _ (call (Value.ref 86) _) _ _ _))); (fail_if_success (with_reducible (show wpAny _ _ (call (Value.ref 100) _) _ _ _))); (fail_if_success (with_reducible (show wpAny _ _ (call (Value.ref 110) _) _ _ _))); (fail_if_success (with_reducible (show wpAny _ _ (call (Value.builtin "sum") _) _ _ _))); (fail_if_success (with_reducible (show wpAny _ _ (call (Value.builtin "str.join") _) _ _ _))); (fail_if_success (with_reducible (show wpAny _ _ (call (Value.builtin "dict.get") _) _ _ _))); (fail_if_success (with_reducible (show wpAny _ _ (getMethod (Value.ref _) _ _) _ _ _))); (fail_if_success (with_reducible (show wpAny _ _ (storeName _ (PySem.Str.ofString "mail") _) _ _ _))); (first | (k_unfold; (try dsimp only)) | walk1 | (dsimp only; walk1) | (leave1; (try dsimp only)) | fail "no step")))
          have hci : text[i]? = some c := by rw [← get_S]; exact hc
          have hD2 : DX _ h2 dn kvs := ⟨on, (N2 _ (.tail _ (.tail _ (.tail _ (.head _))))).1, hDo⟩
          refine gm_get hD2 hNK hds ?_
          dsimp only
          (repeat' ((fail_if_success (with_reducible (show Exists _))); (fail_if_success (with_reducible (show LCg.CompSrc _ _ _ _ _ _ _ _ _ _ _ _ _ _))); (fail_if_success (with_reducible (show wpAny _ _ (exec (PySem.Stmt.Assign _ (PySem.Expr.ListComp _ _ _ _) _) _) _ _ _))); (fail_if_success (with_reducible (show wpAny _ _ (eval (PySem.Expr.ListComp _ _ _ _) _) _ _ _))); (fail_if_success (with_reducible (show wpAny _ _ (subscriptTail _ _ (Value.ref _) _) _ _ _))); (fail_if_success (with_reducible (show wpAny _ _ (call (Value.ref 28) _) _ _ _))); (fail_if_success (with_reducible (show wpAny _ _ (call (Value.ref 35) _) _ _ _))); (fail_if_success (with_reducible (show wpAny _ _ (call (Value.ref 93) _) _ _ _))); (fail_if_success (with_reducible (show wpAny _ _ (call (Value.ref 78) _) _ _ _))); (fail_if_success (with_reducible (show wpAny _ _ (call (Value.ref 86) _) _ _ _))); (fail_if_success (with_reducible (show wpAny _ _ (call (Value.ref 100) _) _ _ _))); (fail_if_success (with_reducible (show wpAny _ _ (call (Value.ref 110) _) _ _ _))); (fail_if_success (with_reducible (show wpAny _ _ (call (Value.builtin "sum") _) _ _ _))); (fail_if_success (with_reducible (show wpAny _ _ (call (Value.builtin "str.join") _) _ _ _))); (fail_if_success (with_reducible (show wpAny _ _ (call (Value.builtin "dict.get") _) _ _ _))); (fail_if_success (with_reducible (show wpAny _ _ (getMethod (Value.ref _) _ _) _ _ _))); (fail_if_success (with_reducible (show wpAny _ _ (storeName _ (PySem.Str.ofString "mail") _) _ _ _))); (first | (k_unfold; (try dsimp only)) | walk1 | (dsimp only; walk1) | (leave1; (try dsimp only)) | fail "no step")))
          refine get_esc (c := c) hD2 hNK hds (fun tk9 => ?_)
          refine PostV.use hPV ?_
          refine ⟨h2, _, rfl, F2, N2, ?_⟩
          rw [List.take_add_one, hci]
          simp only [Option.toList, List.map_append, List.map_cons, List.map_nil]
          exact hR.snoc _ _
        case zfin =>
          intro ys5 hR
          rintro D5 h22 tk22 F22 N22 off22
          rw [List.take_length] at hR
          dsimp only
          (repeat' ((fail_if_success (with_reducible (show Exists _))); (fail_if_success (with_reducible (show LCg.CompSrc _ _ _ _ _ _ _ _ _ _ _ _ _ _))); (fail_if_success (with_reducible (show wpAny _ _ (exec (PySem.Stmt.Assign _ (PySem.Expr.ListComp _ _ _ _) _) _) _ _ _))); (fail_if_success (with_reducible (show wpAny _ _ (eval (PySem.Expr.ListComp _ _ _ _) _) _ _ _))); (fail_if_success (with_reducible (show wpAny _ _ (subscriptTail _ _ (Value.ref _) _) _ _ _))); (fail_if_success (with_reducible (show wpAny _ _ (call (Value.ref 28) _) _ _ _))); (fail_if_success (with_reducible (show wpAny _ _ (call (Value.ref 35) _) _ _ _))); (fail_if_success (with_reducible (show wpAny _ _ (call (Value.ref 93) _) _ _ _))); (fail_if_success (with_reducible (show wpAny _ _ (call (Value.ref 78) _) _ _ _))); (fail_if_success (with_reducible (show wpAny _ _ (call (Value.ref 86) _) _ _ _))); (fail_if_success (with_reducible (show wpAny _ _ (call (Value.ref 100) _) _ _ _))); (fail_if_success (with_reducible (show wpAny _ _ (call (Value.ref 110) _) _ _ _))); (fail_if_success (with_reducible (show wpAny _ _ (call (Value.builtin "sum") _) _ _ _))); (fail_if_success (with_reducible (show wpAny _ _ (call (Value.builtin "str.join") _) _ _ _))); (fail_if_success (with_reducible (show wpAny _ _ (call (Value.builtin "dict.get") _) _ _ _))); (fail_if_success (with_reducible (show wpAny _ _ (getMethod (Value.ref _) _ _) _ _ _))); (fail_if_success (with_reducible (show wpAny _ _ (storeName _ (PySem.Str.ofString "mail") _) _ _ _))); (first | (k_unfold; (try dsimp only)) | walk1 | (dsimp only; walk1) | (leave1; (try dsimp only)) | fail "no step")))
          have hWe : (text.map (esc b)).flatten = escL b text := by unfold escL; rw [List.flatMap_def]
          have hEl : (escL b text).length ≤ 54 := Nat.le_trans (escL_len b text) (by omega)
          refine join_listW (items := ys5.toArray) (ys := (text.map (esc b)).map S) ⟨_, (N22 _ (List.Mem.head _)).1, rfl, _, rfl⟩ (by simpa using hR.strs) (by decide +kernel) (by
            rw [List.map_map, List.length_map]
            have e : (PySem.Str.length ∘ S) = List.length := by funext r; exact S_len r
            rw [e, ← List.length_flatten, hWe, List.length_map]
            omega) ?_
          intro t23 k23
          rw [join0, hWe]
          (repeat' ((fail_if_success (with_reducible (show Exists _))); (fail_if_success (with_reducible (show LCg.CompSrc _ _ _ _ _ _ _ _ _ _ _ _ _ _))); (fail_if_success (with_reducible (show wpAny _ _ (exec (PySem.Stmt.Assign _ (PySem.Expr.ListComp _ _ _ _) _) _) _ _ _))); (fail_if_success (with_reducible (show wpAny _ _ (eval (PySem.Expr.ListComp _ _ _ _) _) _ _ _))); (fail_if_success (with_reducible (show wpAny _ _ (subscriptTail _ _ (Value.ref _) _) _ _ _))); (fail_if_success (with_reducible (show wpAny _ _ (call (Value.ref 28) _) _ _ _))); (fail_if_success (with_reducible (show wpAny _ _ (call (Value.ref 35) _) _ _ _))); (fail_if_success (with_reducible (show wpAny _ _ (call (Value.ref 93) _) _ _ _))); (fail_if_success (with_reducible (show wpAny _ _ (call (Value.ref 78) _) _ _ _))); (fail_if_success (with_reducible (show wpAny _ _ (call (Value.ref 86) _) _ _ _))); (fail_if_success (with_reducible (show wpAny _ _ (call (Value.ref 100) _) _ _ _))); (fail_if_success (with_reducible (show wpAny _ _ (call (Value.ref 110) _) _ _ _))); (fail_if_success (with_reducible (show wpAny _ _ (call (Value.builtin "sum") _) _ _ _))); (fail_if_success (with_reducible (show wpAny _ _ (call (Value.builtin "str.join") _) _ _ _))); (fail_if_success (with_reducible (show wpAny _ _ (call (Value.builtin "dict.get") _) _ _ _))); (fail_if_success (with_reducible (show wpAny _ _ (getMethod (Value.ref _) _ _) _ _ _))); (fail_if_success (with_reducible (show wpAny _ _ (storeName _ (PySem.Str.ofString "mail") _) _ _ _))); (first | (k_unfold; (try dsimp only)) | walk1 | (dsimp only; walk1) | (leave1; (try dsimp only)) | fail "no step")))
          · exfalso
            with_reducible rename (_ != _) = true => hne
            simp at hne
          · have hwch := escL_wch (b := b) hts
            clear hR off22
            refine enc_spec (KX.keeps F22.keep) (T.keeps F22.keep) (Nat.le_of_ble_eq_true rfl) (Nat.le_of_ble_eq_true rfl) rfl hwch (by omega) hm4 hm23 ?_
            intro h24 tk24 tk24' hx24
            dsimp only at hx24
            have F24 := frExt F22 hx24
            have N24 := newsD1 (newsExt N22 hx24)
            clear F22 N22 hx24
            (repeat' ((fail_if_success (with_reducible (show Exists _))); (fail_if_success (with_reducible (show LCg.CompSrc _ _ _ _ _ _ _ _ _ _ _ _ _ _))); (fail_if_success (with_reducible (show wpAny _ _ (exec (PySem.Stmt.Assign _ (PySem.Expr.ListComp _ _ _ _) _) _) _ _ _))); (fail_if_success (with_reducible (show wpAny _ _ (eval (PySem.Expr.ListComp _ _ _ _) _) _ _ _))); (fail_if_success (with_reducible (show wpAny _ _ (subscriptTail _ _ (Value.ref _) _) _ _ _))); (fail_if_success (with_reducible (show wpAny _ _ (call (Value.ref 28) _) _ _ _))); (fail_if_success (with_reducible (show wpAny _ _ (call (Value.ref 35) _) _ _ _))); (fail_if_success (with_reducible (show wpAny _ _ (call (Value.ref 93) _) _ _ _))); (fail_if_success (with_reducible (show wpAny _ _ (call (Value.ref 78) _) _ _ _))); (fail_if_success (with_reducible (show wpAny _ _ (call (Value.ref 86) _) _ _ _))); (fail_if_success (with_reducible (show wpAny _ _ (call (Value.ref 100) _) _ _ _))); (fail_if_success (with_reducible (show wpAny _ _ (call (Value.ref 110) _) _ _ _))); (fail_if_success (with_reducible (show wpAny _ _ (call (Value.builtin "sum") _) _ _ _))); (fail_if_success (with_reducible (show wpAny _ _ (call (Value.builtin "str.join") _) _ _ _))); (fail_if_success (with_reducible (show wpAny _ _ (call (Value.builtin "dict.get") _) _ _ _))); (fail_if_success (with_reducible (show wpAny _ _ (getMethod (Value.ref _) _ _) _ _ _))); (fail_if_success (with_reducible (show wpAny _ _ (storeName _ (PySem.Str.ofString "mail") _) _ _ _))); (first | (k_unfold; (try dsimp only)) | walk1 | (dsimp only; walk1) | (leave1; (try dsimp only)) | fail "no step")))
            walk1
            refine gen_pos ?_
            intro tk25 hp25
            (repeat' ((fail_if_success (with_reducible (show Exists _))); (fail_if_success (with_reducible (show LCg.CompSrc _ _ _ _ _ _ _ _ _ _ _ _ _ _))); (fail_if_success (with_reducible (show wpAny _ _ (exec (PySem.Stmt.Assign _ (PySem.Expr.ListComp _ _ _ _) _) _) _ _ _))); (fail_if_success (with_reducible (show wpAny _ _ (eval (PySem.Expr.ListComp _ _ _ _) _) _ _ _))); (fail_if_success (with_reducible (show wpAny _ _ (subscriptTail _ _ (Value.ref _) _) _ _ _))); (fail_if_success (with_reducible (show wpAny _ _ (call (Value.ref 28) _) _ _ _))); (fail_if_success (with_reducible (show wpAny _ _ (call (Value.ref 35) _) _ _ _))); (fail_if_success (with_reducible (show wpAny _ _ (call (Value.ref 93) _) _ _ _))); (fail_if_success (with_reducible (show wpAny _ _ (call (Value.ref 78) _) _ _ _))); (fail_if_success (with_reducible (show wpAny _ _ (call (Value.ref 86) _) _ _ _))); (fail_if_success (with_reducible (show wpAny _ _ (call (Value.ref 100) _) _ _ _))); (fail_if_success (with_reducible (show wpAny _ _ (call (Value.ref 110) _) _ _ _))); (fail_if_success (with_reducible (show wpAny _ _ (call (Value.builtin "sum") _) _ _ _))); (fail_if_success (with_reducible (show wpAny _ _ (call (Value.builtin "str.join") _) _ _ _))); (fail_if_success (with_reducible (show wpAny _ _ (call (Value.builtin "dict.get") _) _ _ _))); (fail_if_success (with_reducible (show wpAny _ _ (getMethod (Value.ref _) _ _) _ _ _))); (fail_if_success (with_reducible (show wpAny _ _ (storeName _ (PySem.Str.ofString "mail") _) _ _ _))); (first | (k_unfold; (try dsimp only)) | walk1 | (dsimp only; walk1) | (leave1; (try dsimp only)) | fail "no step")))
            with_reducible rename Fr _ _ _ _ => F25
            with_reducible rename News _ _ _ _ => N25
            have hml : (enc m (trL (escL b text))).length ≤ 1000 := by
              have h1 := enc_len hm4 (trL (escL b text))
              have h2 := trL_le (escL b text)
              omega
            have hone : decG lb wsp (enc m (trL (escL b text))) = escL b text := law_one lb_ech sp_ech hm4 hwch
            have htwo : decG lb wsp (unref b (enc m (trL (escL b text)))) = due b (m : Int) text := law_two lb_ech sp_ech hm4 b hts
            refine wpAny_with_toks (n := 1) hp25 ?_
            refine dec_spec (KX.keeps F25.keep) (T.keeps F25.keep) (Nat.le_of_ble_eq_true rfl) (Nat.le_of_ble_eq_true rfl) rfl hml ?_
            intro h26 tk26 tk26' hx26 hp26
            dsimp only at hx26 hp26
            rw [hone]
            have F26 := frExt F25 hx26
            have N26 := newsExt N25 hx26
            clear F25 N25 hx26
            (repeat' ((fail_if_success (with_reducible (show Exists _))); (fail_if_success (with_reducible (show LCg.CompSrc _ _ _ _ _ _ _ _ _ _ _ _ _ _))); (fail_if_success (with_reducible (show wpAny _ _ (exec (PySem.Stmt.Assign _ (PySem.Expr.ListComp _ _ _ _) _) _) _ _ _))); (fail_if_success (with_reducible (show wpAny _ _ (eval (PySem.Expr.ListComp _ _ _ _) _) _ _ _))); (fail_if_success (with_reducible (show wpAny _ _ (subscriptTail _ _ (Value.ref _) _) _ _ _))); (fail_if_success (with_reducible (show wpAny _ _ (call (Value.ref 28) _) _ _ _))); (fail_if_success (with_reducible (show wpAny _ _ (call (Value.ref 35) _) _ _ _))); (fail_if_success (with_reducible (show wpAny _ _ (call (Value.ref 93) _) _ _ _))); (fail_if_success (with_reducible (show wpAny _ _ (call (Value.ref 78) _) _ _ _))); (fail_if_success (with_reducible (show wpAny _ _ (call (Value.ref 86) _) _ _ _))); (fail_if_success (with_reducible (show wpAny _ _ (call (Value.ref 100) _) _ _ _))); (fail_if_success (with_reducible (show wpAny _ _ (call (Value.ref 110) _) _ _ _))); (fail_if_success (with_reducible (show wpAny _ _ (call (Value.builtin "sum") _) _ _ _))); (fail_if_success (with_reducible (show wpAny _ _ (call (Value.builtin "str.join") _) _ _ _))); (fail_if_success (with_reducible (show wpAny _ _ (call (Value.builtin "dict.get") _) _ _ _))); (fail_if_success (with_reducible (show wpAny _ _ (getMethod (Value.ref _) _ _) _ _ _))); (fail_if_success (with_reducible (show wpAny _ _ (storeName _ (PySem.Str.ofString "mail") _) _ _ _))); (first | (k_unfold; (try dsimp only)) | walk1 | (dsimp only; walk1) | (leave1; (try dsimp only)) | fail "no step")))
            refine wpAny_with_toks (n := 1) hp26 ?_
            refine refs_spec (KX.keeps F26.keep) (T.keeps F26.keep) (Nat.le_of_ble_eq_true rfl) (Nat.le_of_ble_eq_true rfl) rfl hml ⟨on, (N26 _ (.head _)).1, hDo⟩ hNK hds ?_
            intro h28 tk28 tk28' hx28 hp28
            dsimp only at hx28 hp28
            have F28 := frExt F26 hx28
            have N28 := newsExt N26 hx28
            clear F26 N26 hx28
            (repeat' ((fail_if_success (with_reducible (show Exists _))); (fail_if_success (with_reducible (show LCg.CompSrc _ _ _ _ _ _ _ _ _ _ _ _ _ _))); (fail_if_success (with_reducible (show wpAny _ _ (exec (PySem.Stmt.Assign _ (PySem.Expr.ListComp _ _ _ _) _) _) _ _ _))); (fail_if_success (with_reducible (show wpAny _ _ (eval (PySem.Expr.ListComp _ _ _ _) _) _ _ _))); (fail_if_success (with_reducible (show wpAny _ _ (subscriptTail _ _ (Value.ref _) _) _ _ _))); (fail_if_success (with_reducible (show wpAny _ _ (call (Value.ref 28) _) _ _ _))); (fail_if_success (with_reducible (show wpAny _ _ (call (Value.ref 35) _) _ _ _))); (fail_if_success (with_reducible (show wpAny _ _ (call (Value.ref 93) _) _ _ _))); (fail_if_success (with_reducible (show wpAny _ _ (call (Value.ref 78) _) _ _ _))); (fail_if_success (with_reducible (show wpAny _ _ (call (Value.ref 86) _) _ _ _))); (fail_if_success (with_reducible (show wpAny _ _ (call (Value.ref 100) _) _ _ _))); (fail_if_success (with_reducible (show wpAny _ _ (call (Value.ref 110) _) _ _ _))); (fail_if_success (with_reducible (show wpAny _ _ (call (Value.builtin "sum") _) _ _ _))); (fail_if_success (with_reducible (show wpAny _ _ (call (Value.builtin "str.join") _) _ _ _))); (fail_if_success (with_reducible (show wpAny _ _ (call (Value.builtin "dict.get") _) _ _ _))); (fail_if_success (with_reducible (show wpAny _ _ (getMethod (Value.ref _) _ _) _ _ _))); (fail_if_success (with_reducible (show wpAny _ _ (storeName _ (PySem.Str.ofString "mail") _) _ _ _))); (first | (k_unfold; (try dsimp only)) | walk1 | (dsimp only; walk1) | (leave1; (try dsimp only)) | fail "no step")))
            refine wpAny_with_toks (n := 1) hp28 ?_
            refine dec_spec (KX.keeps F28.keep) (T.keeps F28.keep) (Nat.le_of_ble_eq_true rfl) (Nat.le_of_ble_eq_true rfl) rfl (Nat.le_trans (unref_len b _) hml) ?_
            intro h30 tk30 tk30' hx30 hp30
            dsimp only at hx30 hp30
            rw [htwo]
            have F30 := frExt F28 hx30
            have N30 := newsExt N28 hx30
            clear F28 N28 hx30
            (repeat' ((fail_if_success (with_reducible (show Exists _))); (fail_if_success (with_reducible (show LCg.CompSrc _ _ _ _ _ _ _ _ _ _ _ _ _ _))); (fail_if_success (with_reducible (show wpAny _ _ (exec (PySem.Stmt.Assign _ (PySem.Expr.ListComp _ _ _ _) _) _) _ _ _))); (fail_if_success (with_reducible (show wpAny _ _ (eval (PySem.Expr.ListComp _ _ _ _) _) _ _ _))); (fail_if_success (with_reducible (show wpAny _ _ (subscriptTail _ _ (Value.ref _) _) _ _ _))); (fail_if_success (with_reducible (show wpAny _ _ (call (Value.ref 28) _) _ _ _))); (fail_if_success (with_reducible (show wpAny _ _ (call (Value.ref 35) _) _ _ _))); (fail_if_success (with_reducible (show wpAny _ _ (call (Value.ref 93) _) _ _ _))); (fail_if_success (with_reducible (show wpAny _ _ (call (Value.ref 78) _) _ _ _))); (fail_if_success (with_reducible (show wpAny _ _ (call (Value.ref 86) _) _ _ _))); (fail_if_success (with_reducible (show wpAny _ _ (call (Value.ref 100) _) _ _ _))); (fail_if_success (with_reducible (show wpAny _ _ (call (Value.ref 110) _) _ _ _))); (fail_if_success (with_reducible (show wpAny _ _ (call (Value.builtin "sum") _) _ _ _))); (fail_if_success (with_reducible (show wpAny _ _ (call (Value.builtin "str.join") _) _ _ _))); (fail_if_success (with_reducible (show wpAny _ _ (call (Value.builtin "dict.get") _) _ _ _))); (fail_if_success (with_reducible (show wpAny _ _ (getMethod (Value.ref _) _ _) _ _ _))); (fail_if_success (with_reducible (show wpAny _ _ (storeName _ (PySem.Str.ofString "mail") _) _ _ _))); (first | (k_unfold; (try dsimp only)) | walk1 | (dsimp only; walk1) | (leave1; (try dsimp only)) | fail "no step")))
            refine due_spec (KX.keeps F30.keep) (T.keeps F30.keep) (Nat.le_of_ble_eq_true rfl) (Nat.le_of_ble_eq_true rfl) rfl htl9 hm4 hm23 hp30 ⟨on, (N30 _ (.head _)).1, hDo⟩ hNK hds hts ?_
            intro h32 tk32 tk32' hx32
            dsimp only at hx32
            have F32 := frExt F30 hx32
            have N32 := newsExt N30 hx32
            clear F30 N30 hx32
            (repeat' ((fail_if_success (with_reducible (show Exists _))); (fail_if_success (with_reducible (show LCg.CompSrc _ _ _ _ _ _ _ _ _ _ _ _ _ _))); (fail_if_success (with_reducible (show wpAny _ _ (exec (PySem.Stmt.Assign _ (PySem.Expr.ListComp _ _ _ _) _) _) _ _ _))); (fail_if_success (with_reducible (show wpAny _ _ (eval (PySem.Expr.ListComp _ _ _ _) _) _ _ _))); (fail_if_success (with_reducible (show wpAny _ _ (subscriptTail _ _ (Value.ref _) _) _ _ _))); (fail_if_success (with_reducible (show wpAny _ _ (call (Value.ref 28) _) _ _ _))); (fail_if_success (with_reducible (show wpAny _ _ (call (Value.ref 35) _) _ _ _))); (fail_if_success (with_reducible (show wpAny _ _ (call (Value.ref 93) _) _ _ _))); (fail_if_success (with_reducible (show wpAny _ _ (call (Value.ref 78) _) _ _ _))); (fail_if_success (with_reducible (show wpAny _ _ (call (Value.ref 86) _) _ _ _))); (fail_if_success (with_reducible (show wpAny _ _ (call (Value.ref 100) _) _ _ _))); (fail_if_success (with_reducible (show wpAny _ _ (call (Value.ref 110) _) _ _ _))); (fail_if_success (with_reducible (show wpAny _ _ (call (Value.builtin "sum") _) _ _ _))); (fail_if_success (with_reducible (show wpAny _ _ (call (Value.builtin "str.join") _) _ _ _))); (fail_if_success (with_reducible (show wpAny _ _ (call (Value.builtin "dict.get") _) _ _ _))); (fail_if_success (with_reducible (show wpAny _ _ (getMethod (Value.ref _) _ _) _ _ _))); (fail_if_success (with_reducible (show wpAny _ _ (storeName _ (PySem.Str.ofString "mail") _) _ _ _))); (first | (k_unfold; (try dsimp only)) | walk1 | (dsimp only; walk1) | (leave1; (try dsimp only)) | fail "no step")))
            rw [beq_self_eq_true]
            with_reducible rename Shared.gens _ = _ => hg
            exact goodW_bool F32 hg law_raises law_post)
end Mine
end
set_option maxRecDepth 100000 in
theorem PySem.Challenge.cw_re0097_01_holds : PySem.Challenge.rw_re0097_01.Holds := by
  exact Mine.law_walk
