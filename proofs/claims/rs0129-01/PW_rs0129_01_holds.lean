import PyProof.Rows.All
import Wide.All
import OpenK.AllK
import Wide.FinOn
import PySem.Challenge.RW_rs0129_01
set_option Elab.async false
section -- HBase
open PySem PySem.W PyProof.Rows
set_option maxRecDepth 1000000
set_option maxHeartbeats 0
set_option linter.unusedVariables false
namespace Mine
noncomputable abbrev S := Str.ofString
/-- the program, and its body behind the first line -/
noncomputable abbrev pE : Program := PySem.Challenge.pw_rs0129_01
noncomputable abbrev bE : List Stmt := behindTheImports pE
noncomputable def en (P : Params) (n : String) (t : Tok) (v : Value) : DictEntry := ⟨PyData.keyHash P (Str.ofString n), .str (Str.ofString n) t, v⟩
/-- the def at place i, as data -/
noncomputable def fnp (i : Nat) : FuncData := match bE[i]? with
  | some (.FunctionDef n a b _ _ _ sc _ _ _) => { name := n, qualname := n, params := a, body := .stmts b, scope := sc, globals := 0, closure := [], defaults := .none, kwdefaults := .none }
  | _ => default
noncomputable def qm : List Value := [.str (S "=00") 325, .str (S "=01") 329, .str (S "=02") 333, .str (S "=03") 337, .str (S "=04") 341, .str (S "=05") 345, .str (S "=06") 349, .str (S "=07") 353, .str (S "=08") 357, .str (S "=09") 361, .str (S "=0A") 365, .str (S "=0B") 369, .str (S "=0C") 373, .str (S "=0D") 377, .str (S "=0E") 381, .str (S "=0F") 385, .str (S "=10") 389, .str (S "=11") 393, .str (S "=12") 397, .str (S "=13") 401, .str (S "=14") 405, .str (S "=15") 409, .str (S "=16") 413, .str (S "=17") 417, .str (S "=18") 421, .str (S "=19") 425, .str (S "=1A") 429, .str (S "=1B") 433, .str (S "=1C") 437, .str (S "=1D") 441, .str (S "=1E") 445, .str (S "=1F") 449, .str (S "=20") 453, .str (S "=21") 457, .str (S "=22") 461, .str (S "=23") 465, .str (S "=24") 469, .str (S "=25") 473, .str (S "=26") 477, .str (S "=27") 481, .str (S "=28") 485, .str (S "=29") 489, .str (S "=2A") 493, .str (S "=2B") 497, .str (S "=2C") 501, .str (S "=2D") 505, .str (S "=2E") 509, .str (S "=2F") 513, .str (S "=30") 517, .str (S "=31") 521, .str (S "=32") 525, .str (S "=33") 529, .str (S "=34") 533, .str (S "=35") 537, .str (S "=36") 541, .str (S "=37") 545, .str (S "=38") 549, .str (S "=39") 553, .str (S "=3A") 557, .str (S "=3B") 561, .str (S "=3C") 565, .str (S "=3D") 569, .str (S "=3E") 573, .str (S "=3F") 577, .str (S "=40") 581, .str (S "=41") 585, .str (S "=42") 589, .str (S "=43") 593, .str (S "=44") 597, .str (S "=45") 601, .str (S "=46") 605, .str (S "=47") 609, .str (S "=48") 613, .str (S "=49") 617, .str (S "=4A") 621, .str (S "=4B") 625, .str (S "=4C") 629, .str (S "=4D") 633, .str (S "=4E") 637, .str (S "=4F") 641, .str (S "=50") 645, .str (S "=51") 649, .str (S "=52") 653, .str (S "=53") 657, .str (S "=54") 661, .str (S "=55") 665, .str (S "=56") 669, .str (S "=57") 673, .str (S "=58") 677, .str (S "=59") 681, .str (S "=5A") 685, .str (S "=5B") 689, .str (S "=5C") 693, .str (S "=5D") 697, .str (S "=5E") 701, .str (S "=5F") 705, .str (S "=60") 709, .str (S "=61") 713, .str (S "=62") 717, .str (S "=63") 721, .str (S "=64") 725, .str (S "=65") 729, .str (S "=66") 733, .str (S "=67") 737, .str (S "=68") 741, .str (S "=69") 745, .str (S "=6A") 749, .str (S "=6B") 753, .str (S "=6C") 757, .str (S "=6D") 761, .str (S "=6E") 765, .str (S "=6F") 769, .str (S "=70") 773, .str (S "=71") 777, .str (S "=72") 781, .str (S "=73") 785, .str (S "=74") 789, .str (S "=75") 793, .str (S "=76") 797, .str (S "=77") 801, .str (S "=78") 805, .str (S "=79") 809, .str (S "=7A") 813, .str (S "=7B") 817, .str (S "=7C") 821, .str (S "=7D") 825, .str (S "=7E") 829, .str (S "=7F") 833, .str (S "=80") 837, .str (S "=81") 841, .str (S "=82") 845, .str (S "=83") 849, .str (S "=84") 853, .str (S "=85") 857, .str (S "=86") 861, .str (S "=87") 865, .str (S "=88") 869, .str (S "=89") 873, .str (S "=8A") 877, .str (S "=8B") 881, .str (S "=8C") 885, .str (S "=8D") 889, .str (S "=8E") 893, .str (S "=8F") 897, .str (S "=90") 901, .str (S "=91") 905, .str (S "=92") 909, .str (S "=93") 913, .str (S "=94") 917, .str (S "=95") 921, .str (S "=96") 925, .str (S "=97") 929, .str (S "=98") 933, .str (S "=99") 937, .str (S "=9A") 941, .str (S "=9B") 945, .str (S "=9C") 949, .str (S "=9D") 953, .str (S "=9E") 957, .str (S "=9F") 961, .str (S "=A0") 965, .str (S "=A1") 969, .str (S "=A2") 973, .str (S "=A3") 977, .str (S "=A4") 981, .str (S "=A5") 985, .str (S "=A6") 989, .str (S "=A7") 993, .str (S "=A8") 997, .str (S "=A9") 1001, .str (S "=AA") 1005, .str (S "=AB") 1009, .str (S "=AC") 1013, .str (S "=AD") 1017, .str (S "=AE") 1021, .str (S "=AF") 1025, .str (S "=B0") 1029, .str (S "=B1") 1033, .str (S "=B2") 1037, .str (S "=B3") 1041, .str (S "=B4") 1045, .str (S "=B5") 1049, .str (S "=B6") 1053, .str (S "=B7") 1057, .str (S "=B8") 1061, .str (S "=B9") 1065, .str (S "=BA") 1069, .str (S "=BB") 1073, .str (S "=BC") 1077, .str (S "=BD") 1081, .str (S "=BE") 1085, .str (S "=BF") 1089, .str (S "=C0") 1093, .str (S "=C1") 1097, .str (S "=C2") 1101, .str (S "=C3") 1105, .str (S "=C4") 1109, .str (S "=C5") 1113, .str (S "=C6") 1117, .str (S "=C7") 1121, .str (S "=C8") 1125, .str (S "=C9") 1129, .str (S "=CA") 1133, .str (S "=CB") 1137, .str (S "=CC") 1141, .str (S "=CD") 1145, .str (S "=CE") 1149, .str (S "=CF") 1153, .str (S "=D0") 1157, .str (S "=D1") 1161, .str (S "=D2") 1165, .str (S "=D3") 1169, .str (S "=D4") 1173, .str (S "=D5") 1177, .str (S "=D6") 1181, .str (S "=D7") 1185, .str (S "=D8") 1189, .str (S "=D9") 1193, .str (S "=DA") 1197, .str (S "=DB") 1201, .str (S "=DC") 1205, .str (S "=DD") 1209, .str (S "=DE") 1213, .str (S "=DF") 1217, .str (S "=E0") 1221, .str (S "=E1") 1225, .str (S "=E2") 1229, .str (S "=E3") 1233, .str (S "=E4") 1237, .str (S "=E5") 1241, .str (S "=E6") 1245, .str (S "=E7") 1249, .str (S "=E8") 1253, .str (S "=E9") 1257, .str (S "=EA") 1261, .str (S "=EB") 1265, .str (S "=EC") 1269, .str (S "=ED") 1273, .str (S "=EE") 1277, .str (S "=EF") 1281, .str (S "=F0") 1285, .str (S "=F1") 1289, .str (S "=F2") 1293, .str (S "=F3") 1297, .str (S "=F4") 1301, .str (S "=F5") 1305, .str (S "=F6") 1309, .str (S "=F7") 1313, .str (S "=F8") 1317, .str (S "=F9") 1321, .str (S "=FA") 1325, .str (S "=FB") 1329, .str (S "=FC") 1333, .str (S "=FD") 1337, .str (S "=FE") 1341, .str (S "=FF") 1345]
noncomputable def o0 (P : Params) : Obj := { cls := .type "dict", data := .dict #[en P "__name__" 1 (.str (S "builtins") 160), en P "__doc__" 2 (.builtin "builtins.__doc__:str#opaque"), en P "__package__" 3 (.builtin "builtins.__package__:str#opaque"), en P "__loader__" 4 (.builtin "builtins.__loader__:shared#opaque"), en P "__spec__" 5 (.builtin "builtins.__spec__#opaque"), en P "__build_class__" 6 (.builtin "__build_class__"), en P "__import__" 7 (.builtin "__import__"), en P "abs" 8 (.builtin "abs"), en P "all" 9 (.builtin "all"), en P "any" 10 (.builtin "any"), en P "ascii" 11 (.builtin "ascii"), en P "bin" 12 (.builtin "bin"), en P "breakpoint" 13 (.builtin "breakpoint"), en P "callable" 14 (.builtin "callable"), en P "chr" 15 (.builtin "chr"), en P "compile" 16 (.builtin "compile"), en P "delattr" 17 (.builtin "delattr"), en P "dir" 18 (.builtin "dir"), en P "divmod" 19 (.builtin "divmod"), en P "eval" 20 (.builtin "eval"), en P "exec" 21 (.builtin "exec"), en P "format" 22 (.builtin "format"), en P "getattr" 23 (.builtin "getattr"), en P "globals" 24 (.builtin "globals"), en P "hasattr" 25 (.builtin "hasattr"), en P "hash" 26 (.builtin "hash"), en P "hex" 27 (.builtin "hex"), en P "id" 28 (.builtin "id"), en P "input" 29 (.builtin "input"), en P "isinstance" 30 (.builtin "isinstance"), en P "issubclass" 31 (.builtin "issubclass"), en P "iter" 32 (.builtin "iter"), en P "aiter" 33 (.builtin "aiter"), en P "len" 34 (.builtin "len"), en P "locals" 35 (.builtin "locals"), en P "max" 36 (.builtin "max"), en P "min" 37 (.builtin "min"), en P "next" 38 (.builtin "next"), en P "anext" 39 (.builtin "anext"), en P "oct" 40 (.builtin "oct"), en P "ord" 41 (.builtin "ord"), en P "pow" 42 (.builtin "pow"), en P "print" 43 (.builtin "print"), en P "repr" 44 (.builtin "repr"), en P "round" 45 (.builtin "round"), en P "setattr" 46 (.builtin "setattr"), en P "sorted" 47 (.builtin "sorted"), en P "sum" 48 (.builtin "sum"), en P "vars" 49 (.builtin "vars"), en P "None" 50 (.none), en P "Ellipsis" 51 (.ellipsis), en P "NotImplemented" 52 (.notImplemented), en P "False" 53 (.bool false), en P "True" 54 (.bool true), en P "bool" 55 (.type "bool"), en P "memoryview" 56 (.type "memoryview"), en P "bytearray" 57 (.type "bytearray"), en P "bytes" 58 (.type "bytes"), en P "classmethod" 59 (.type "classmethod"), en P "complex" 60 (.type "complex"), en P "dict" 61 (.type "dict"), en P "enumerate" 62 (.type "enumerate"), en P "filter" 63 (.type "filter"), en P "float" 64 (.type "float"), en P "frozenset" 65 (.type "frozenset"), en P "property" 66 (.type "property"), en P "int" 67 (.type "int"), en P "list" 68 (.type "list"), en P "map" 69 (.type "map"), en P "object" 70 (.type "object"), en P "range" 71 (.type "range"), en P "reversed" 72 (.type "reversed"), en P "set" 73 (.type "set"), en P "slice" 74 (.type "slice"), en P "staticmethod" 75 (.type "staticmethod"), en P "str" 76 (.type "str"), en P "super" 77 (.type "super"), en P "tuple" 78 (.type "tuple"), en P "type" 79 (.type "type"), en P "zip" 80 (.type "zip"), en P "__debug__" 81 (.bool true), en P "BaseException" 82 (.type "BaseException"), en P "BaseExceptionGroup" 83 (.type "BaseExceptionGroup"), en P "Exception" 84 (.type "Exception"), en P "GeneratorExit" 85 (.type "GeneratorExit"), en P "KeyboardInterrupt" 86 (.type "KeyboardInterrupt"), en P "SystemExit" 87 (.type "SystemExit"), en P "ArithmeticError" 88 (.type "ArithmeticError"), en P "AssertionError" 89 (.type "AssertionError"), en P "AttributeError" 90 (.type "AttributeError"), en P "BufferError" 91 (.type "BufferError"), en P "EOFError" 92 (.type "EOFError"), en P "ImportError" 93 (.type "ImportError"), en P "LookupError" 94 (.type "LookupError"), en P "MemoryError" 95 (.type "MemoryError"), en P "NameError" 96 (.type "NameError"), en P "OSError" 97 (.type "OSError"), en P "ReferenceError" 98 (.type "ReferenceError"), en P "RuntimeError" 99 (.type "RuntimeError"), en P "StopAsyncIteration" 100 (.type "StopAsyncIteration"), en P "StopIteration" 101 (.type "StopIteration"), en P "SyntaxError" 102 (.type "SyntaxError"), en P "SystemError" 103 (.type "SystemError"), en P "TypeError" 104 (.type "TypeError"), en P "ValueError" 105 (.type "ValueError"), en P "Warning" 106 (.type "Warning"), en P "FloatingPointError" 107 (.type "FloatingPointError"), en P "OverflowError" 108 (.type "OverflowError"), en P "ZeroDivisionError" 109 (.type "ZeroDivisionError"), en P "BytesWarning" 110 (.type "BytesWarning"), en P "DeprecationWarning" 111 (.type "DeprecationWarning"), en P "EncodingWarning" 112 (.type "EncodingWarning"), en P "FutureWarning" 113 (.type "FutureWarning"), en P "ImportWarning" 114 (.type "ImportWarning"), en P "PendingDeprecationWarning" 115 (.type "PendingDeprecationWarning"), en P "ResourceWarning" 116 (.type "ResourceWarning"), en P "RuntimeWarning" 117 (.type "RuntimeWarning"), en P "SyntaxWarning" 118 (.type "SyntaxWarning"), en P "UnicodeWarning" 119 (.type "UnicodeWarning"), en P "UserWarning" 120 (.type "UserWarning"), en P "BlockingIOError" 121 (.type "BlockingIOError"), en P "ChildProcessError" 122 (.type "ChildProcessError"), en P "ConnectionError" 123 (.type "ConnectionError"), en P "FileExistsError" 124 (.type "FileExistsError"), en P "FileNotFoundError" 125 (.type "FileNotFoundError"), en P "InterruptedError" 126 (.type "InterruptedError"), en P "IsADirectoryError" 127 (.type "IsADirectoryError"), en P "NotADirectoryError" 128 (.type "NotADirectoryError"), en P "PermissionError" 129 (.type "PermissionError"), en P "ProcessLookupError" 130 (.type "ProcessLookupError"), en P "TimeoutError" 131 (.type "TimeoutError"), en P "IndentationError" 132 (.type "IndentationError"), en P "_IncompleteInputError" 133 (.type "_IncompleteInputError"), en P "IndexError" 134 (.type "IndexError"), en P "KeyError" 135 (.type "KeyError"), en P "ModuleNotFoundError" 136 (.type "ModuleNotFoundError"), en P "NotImplementedError" 137 (.type "NotImplementedError"), en P "PythonFinalizationError" 138 (.type "PythonFinalizationError"), en P "RecursionError" 139 (.type "RecursionError"), en P "UnboundLocalError" 140 (.type "UnboundLocalError"), en P "UnicodeError" 141 (.type "UnicodeError"), en P "BrokenPipeError" 142 (.type "BrokenPipeError"), en P "ConnectionAbortedError" 143 (.type "ConnectionAbortedError"), en P "ConnectionRefusedError" 144 (.type "ConnectionRefusedError"), en P "ConnectionResetError" 145 (.type "ConnectionResetError"), en P "TabError" 146 (.type "TabError"), en P "UnicodeDecodeError" 147 (.type "UnicodeDecodeError"), en P "UnicodeEncodeError" 148 (.type "UnicodeEncodeError"), en P "UnicodeTranslateError" 149 (.type "UnicodeTranslateError"), en P "ExceptionGroup" 150 (.type "ExceptionGroup"), en P "EnvironmentError" 151 (.type "OSError"), en P "IOError" 152 (.type "OSError"), en P "open" 153 (.builtin "open"), en P "quit" 154 (.builtin "builtins.quit#opaque"), en P "exit" 155 (.builtin "builtins.exit#opaque"), en P "copyright" 156 (.builtin "builtins.copyright#opaque"), en P "credits" 157 (.builtin "builtins.credits#opaque"), en P "license" 158 (.builtin "builtins.license#opaque"), en P "help" 159 (.builtin "builtins.help#opaque")] 159 }
noncomputable def o1 (P : Params) : Obj := { cls := .type "dict", data := .dict #[en P "builtins" 162 (.ref 4), en P "__main__" 163 (.ref 5), en P "_sre" 244 (.ref 12)] 3 }
noncomputable def o2 (P : Params) : Obj := { cls := .none, data := .dict #[en P "\x69mport.loaded._sre" 183 (.bool true), en P "class._frozen_importlib.BuiltinImporter" 185 (.ref 14), en P "watched.\x69mport" 206 (.ref 18), en P "class._frozen_importlib.ModuleSpec" 216 (.ref 22), en P "sys.modules.booked-epoch" 245 (.int 3 0), en P "\x69mport.later-laid._sre" 270 (.bool true), en P "watched.library" 272 (.ref 27), en P "watched.library-objects" 0 (.str (Str.mk #[12]) 0), en P "watched.library-deep._sre" 273 (.str (Str.mk #[4, 0, 0, 11, 4, 0, 0, 11, 4, 0, 0, 3, 4, 0, 0, 11, 8, 4, 100, 105, 99, 116, 2]) 0)] 9 }
noncomputable def o3 (P : Params) : Obj := { cls := .type "dict", data := .dict #[en P "__name__" 165 (.str (S "__main__") 164), en P "__doc__" 166 (.none), en P "__package__" 167 (.none), en P "__loader__" 168 (.builtin "__main__.__loader__#opaque"), en P "__spec__" 169 (.none), en P "__annotations__" 170 (.ref 6), en P "__builtins__" 171 (.ref 4), en P "__file__" 173 (.str (S "/claim/cut.py") 172), en P "__cached__" 174 (.none), en P "_sre" 275 (.ref 12)] 10 }
noncomputable def o4 (P : Params) : Obj := { cls := .type "module", dict := some 0 }
noncomputable def o5 (P : Params) : Obj := { cls := .type "module", dict := some 3 }
noncomputable def o6 (P : Params) : Obj := { cls := .type "dict", data := .dict #[] 0 }
noncomputable def o7 (P : Params) : Obj := { cls := .type "tuple", data := .seq #[] 0 }
noncomputable def o8 (P : Params) : Obj := { cls := .none, data := .fields #[] }
noncomputable def o9 (P : Params) : Obj := { cls := .type "code", data := .fields #[.str (S "<module>") 176, .str (S "<module>") 177, .str (S "/claim/cut.py") 178, .int 1 0, .int 0 0, .int 0 0, .int 0 0, .int 0 0, .ref 7, .bool false, .int 175 0, .ref 8, .none, .none, .none, .none, .int 179 0, .int 1 0, .str (S "/claim/cut.py") 180] }
noncomputable def o10 (P : Params) : Obj := { cls := .type "frame", slots := #[(some (.ref 9)), (some (.ref 3)), (some (.ref 3)), none, (some (.str (S "__main__") 164)), none, (some (.ref 0))] }
noncomputable def o11 (P : Params) : Obj := { cls := .type "dict", data := .dict #[en P "__name__" 247 (.str (S "_sre") 246), en P "__doc__" 248 (.none), en P "__package__" 250 (.str (S "") 249), en P "__loader__" 251 (.ref 14), en P "__spec__" 252 (.ref 26), en P "compile" 253 (.builtin "_sre.compile"), en P "template" 254 (.builtin "_sre.template"), en P "getcodesize" 255 (.builtin "_sre.getcodesize"), en P "ascii_iscased" 256 (.builtin "_sre.ascii_iscased"), en P "unicode_iscased" 257 (.builtin "_sre.unicode_iscased"), en P "ascii_tolower" 258 (.builtin "_sre.ascii_tolower"), en P "unicode_tolower" 259 (.builtin "_sre.unicode_tolower"), en P "MAGIC" 261 (.int 20230612 260), en P "CODESIZE" 263 (.int 4 262), en P "MAXREPEAT" 265 (.int 4294967295 264), en P "MAXGROUPS" 267 (.int 1073741823 266), en P "copyright" 269 (.str (S " SRE 2.2.2 Copyright (c) 1997-2002 by Secret Labs AB ") 268)] 17 }
noncomputable def o12 (P : Params) : Obj := { cls := .type "module", dict := some 11 }
noncomputable def o13 (P : Params) : Obj := { cls := .type "dict", data := .dict #[en P "__module__" 189 (.str (S "_frozen_importlib") 186), en P "__firstlineno__" 190 (.int 971 187), en P "__doc__" 191 (.builtin "_frozen_importlib.BuiltinImporter.__doc__:str#opaque"), en P "_ORIGIN" 192 (.str (S "built-in") 188), en P "find_spec" 193 (.builtin "_frozen_importlib.BuiltinImporter.find_spec#opaque"), en P "create_module" 194 (.builtin "_frozen_importlib.BuiltinImporter.create_module#opaque"), en P "exec_module" 195 (.builtin "_frozen_importlib.BuiltinImporter.exec_module#opaque"), en P "get_code" 196 (.builtin "_frozen_importlib.BuiltinImporter.get_code#opaque"), en P "get_source" 197 (.builtin "_frozen_importlib.BuiltinImporter.get_source#opaque"), en P "is_package" 198 (.builtin "_frozen_importlib.BuiltinImporter.is_package#opaque"), en P "load_module" 199 (.builtin "_frozen_importlib.BuiltinImporter.load_module#opaque"), en P "__static_attributes__" 200 (.ref 15), en P "__dict__" 202 (.ref 16), en P "__weakref__" 204 (.ref 17)] 14 }
noncomputable def o14 (P : Params) : Obj := { cls := .type "type", data := .cls { name := (S "BuiltinImporter"), bases := [.type "object"], mro := [.ref 14, .type "object"], ns := 13, qualname := (S "BuiltinImporter"), hasDict := true, slotNames := [], subclasses := [], abstract := false, collection := none, hasDel := false } }
noncomputable def o15 (P : Params) : Obj := { cls := .type "getset_descriptor", data := .fields #[.str (S "__dict__") 201, .ref 14, .builtin "function.__dict__", .builtin "function.__dict__#set"] }
noncomputable def o16 (P : Params) : Obj := { cls := .type "getset_descriptor", data := .fields #[.str (S "__weakref__") 203, .ref 14, .builtin "ExceptionGroup.__weakref__", .none] }
noncomputable def o17 (P : Params) : Obj := { cls := .none, data := .seq #[.int 13 0, .str (Str.mk #[6, 189, 10, 95, 95, 109, 111, 100, 117, 108, 101, 95, 95, 6, 186, 17, 95, 102, 114, 111, 122, 101, 110, 95, 105, 109, 112, 111, 114, 116, 108, 105, 98, 6, 190, 15, 95, 95, 102, 105, 114, 115, 116, 108, 105, 110, 101, 110, 111, 95, 95, 4, 187, 0, 971, 6, 191, 7, 95, 95, 100, 111, 99, 95, 95, 9, 52, 95, 102, 114, 111, 122, 101, 110, 95, 105, 109, 112, 111, 114, 116, 108, 105, 98, 46, 66, 117, 105, 108, 116, 105, 110, 73, 109, 112, 111, 114, 116, 101, 114, 46, 95, 95, 100, 111, 99, 95, 95, 58, 115, 116, 114, 35, 111, 112, 97, 113, 117, 101, 6, 192, 7, 95, 79, 82, 73, 71, 73, 78, 6, 188, 8, 98, 117, 105, 108, 116, 45, 105, 110, 6, 193, 9, 102, 105, 110, 100, 95, 115, 112, 101, 99, 9, 50, 95, 102, 114, 111, 122, 101, 110, 95, 105, 109, 112, 111, 114, 116, 108, 105, 98, 46, 66, 117, 105, 108, 116, 105, 110, 73, 109, 112, 111, 114, 116, 101, 114, 46, 102, 105, 110, 100, 95, 115, 112, 101, 99, 35, 111, 112, 97, 113, 117, 101, 6, 194, 13, 99, 114, 101, 97, 116, 101, 95, 109, 111, 100, 117, 108, 101, 9, 54, 95, 102, 114, 111, 122, 101, 110, 95, 105, 109, 112, 111, 114, 116, 108, 105, 98, 46, 66, 117, 105, 108, 116, 105, 110, 73, 109, 112, 111, 114, 116, 101, 114, 46, 99, 114, 101, 97, 116, 101, 95, 109, 111, 100, 117, 108, 101, 35, 111, 112, 97, 113, 117, 101, 6, 195, 11, 101, 120, 101, 99, 95, 109, 111, 100, 117, 108, 101, 9, 52, 95, 102, 114, 111, 122, 101, 110, 95, 105, 109, 112, 111, 114, 116, 108, 105, 98, 46, 66, 117, 105, 108, 116, 105, 110, 73, 109, 112, 111, 114, 116, 101, 114, 46, 101, 120, 101, 99, 95, 109, 111, 100, 117, 108, 101, 35, 111, 112, 97, 113, 117, 101, 6, 196, 8, 103, 101, 116, 95, 99, 111, 100, 101, 9, 49, 95, 102, 114, 111, 122, 101, 110, 95, 105, 109, 112, 111, 114, 116, 108, 105, 98, 46, 66, 117, 105, 108, 116, 105, 110, 73, 109, 112, 111, 114, 116, 101, 114, 46, 103, 101, 116, 95, 99, 111, 100, 101, 35, 111, 112, 97, 113, 117, 101, 6, 197, 10, 103, 101, 116, 95, 115, 111, 117, 114, 99, 101, 9, 51, 95, 102, 114, 111, 122, 101, 110, 95, 105, 109, 112, 111, 114, 116, 108, 105, 98, 46, 66, 117, 105, 108, 116, 105, 110, 73, 109, 112, 111, 114, 116, 101, 114, 46, 103, 101, 116, 95, 115, 111, 117, 114, 99, 101, 35, 111, 112, 97, 113, 117, 101, 6, 198, 10, 105, 115, 95, 112, 97, 99, 107, 97, 103, 101, 9, 51, 95, 102, 114, 111, 122, 101, 110, 95, 105, 109, 112, 111, 114, 116, 108, 105, 98, 46, 66, 117, 105, 108, 116, 105, 110, 73, 109, 112, 111, 114, 116, 101, 114, 46, 105, 115, 95, 112, 97, 99, 107, 97, 103, 101, 35, 111, 112, 97, 113, 117, 101, 6, 199, 11, 108, 111, 97, 100, 95, 109, 111, 100, 117, 108, 101, 9, 52, 95, 102, 114, 111, 122, 101, 110, 95, 105, 109, 112, 111, 114, 116, 108, 105, 98, 46, 66, 117, 105, 108, 116, 105, 110, 73, 109, 112, 111, 114, 116, 101, 114, 46, 108, 111, 97, 100, 95, 109, 111, 100, 117, 108, 101, 35, 111, 112, 97, 113, 117, 101, 6, 200, 21, 95, 95, 115, 116, 97, 116, 105, 99, 95, 97, 116, 116, 114, 105, 98, 117, 116, 101, 115, 95, 95, 4, 0, 0, 15, 6, 202, 8, 95, 95, 100, 105, 99, 116, 95, 95, 4, 0, 0, 16, 6, 204, 11, 95, 95, 119, 101, 97, 107, 114, 101, 102, 95, 95, 4, 0, 0, 17]) 0, .bool true, .bool true, .str (S "") 205, .int 21 0, .str (Str.mk #[6, 227, 10, 95, 95, 109, 111, 100, 117, 108, 101, 95, 95, 6, 217, 17, 95, 102, 114, 111, 122, 101, 110, 95, 105, 109, 112, 111, 114, 116, 108, 105, 98, 6, 228, 15, 95, 95, 102, 105, 114, 115, 116, 108, 105, 110, 101, 110, 111, 95, 95, 4, 218, 0, 562, 6, 229, 7, 95, 95, 100, 111, 99, 95, 95, 9, 47, 95, 102, 114, 111, 122, 101, 110, 95, 105, 109, 112, 111, 114, 116, 108, 105, 98, 46, 77, 111, 100, 117, 108, 101, 83, 112, 101, 99, 46, 95, 95, 100, 111, 99, 95, 95, 58, 115, 116, 114, 35, 111, 112, 97, 113, 117, 101, 6, 230, 8, 95, 95, 105, 110, 105, 116, 95, 95, 9, 44, 95, 102, 114, 111, 122, 101, 110, 95, 105, 109, 112, 111, 114, 116, 108, 105, 98, 46, 77, 111, 100, 117, 108, 101, 83, 112, 101, 99, 46, 95, 95, 105, 110, 105, 116, 95, 95, 35, 111, 112, 97, 113, 117, 101, 6, 231, 8, 95, 95, 114, 101, 112, 114, 95, 95, 9, 44, 95, 102, 114, 111, 122, 101, 110, 95, 105, 109, 112, 111, 114, 116, 108, 105, 98, 46, 77, 111, 100, 117, 108, 101, 83, 112, 101, 99, 46, 95, 95, 114, 101, 112, 114, 95, 95, 35, 111, 112, 97, 113, 117, 101, 6, 232, 6, 95, 95, 101, 113, 95, 95, 9, 42, 95, 102, 114, 111, 122, 101, 110, 95, 105, 109, 112, 111, 114, 116, 108, 105, 98, 46, 77, 111, 100, 117, 108, 101, 83, 112, 101, 99, 46, 95, 95, 101, 113, 95, 95, 35, 111, 112, 97, 113, 117, 101, 6, 233, 6, 99, 97, 99, 104, 101, 100, 9, 42, 95, 102, 114, 111, 122, 101, 110, 95, 105, 109, 112, 111, 114, 116, 108, 105, 98, 46, 77, 111, 100, 117, 108, 101, 83, 112, 101, 99, 46, 99, 97, 99, 104, 101, 100, 35, 111, 112, 97, 113, 117, 101, 6, 234, 6, 112, 97, 114, 101, 110, 116, 9, 42, 95, 102, 114, 111, 122, 101, 110, 95, 105, 109, 112, 111, 114, 116, 108, 105, 98, 46, 77, 111, 100, 117, 108, 101, 83, 112, 101, 99, 46, 112, 97, 114, 101, 110, 116, 35, 111, 112, 97, 113, 117, 101, 6, 235, 12, 104, 97, 115, 95, 108, 111, 99, 97, 116, 105, 111, 110, 9, 48, 95, 102, 114, 111, 122, 101, 110, 95, 105, 109, 112, 111, 114, 116, 108, 105, 98, 46, 77, 111, 100, 117, 108, 101, 83, 112, 101, 99, 46, 104, 97, 115, 95, 108, 111, 99, 97, 116, 105, 111, 110, 35, 111, 112, 97, 113, 117, 101, 6, 236, 21, 95, 95, 115, 116, 97, 116, 105, 99, 95, 97, 116, 116, 114, 105, 98, 117, 116, 101, 115, 95, 95, 4, 0, 0, 23, 6, 238, 8, 95, 95, 100, 105, 99, 116, 95, 95, 4, 0, 0, 24, 6, 240, 11, 95, 95, 119, 101, 97, 107, 114, 101, 102, 95, 95, 4, 0, 0, 25, 6, 241, 8, 95, 95, 104, 97, 115, 104, 95, 95, 0]) 0, .bool true, .bool true, .str (S "") 242] 1 }
noncomputable def o18 (P : Params) : Obj := { cls := .type "list", data := .seq #[] 0 }
noncomputable def o19 (P : Params) : Obj := { cls := .type "dict", data := .dict #[en P "name" 208 (.str (S "_sre") 207), en P "loader" 209 (.ref 14), en P "origin" 210 (.str (S "built-in") 184), en P "loader_state" 211 (.none), en P "submodule_search_locations" 212 (.none), en P "_uninitialized_submodules" 213 (.ref 19), en P "_set_fileattr" 214 (.bool false), en P "_cached" 215 (.none), en P "_initializing" 243 (.bool false)] 9 }
noncomputable def o20 (P : Params) : Obj := { cls := .type "dict", data := .dict #[en P "__module__" 227 (.str (S "_frozen_importlib") 217), en P "__firstlineno__" 228 (.int 562 218), en P "__doc__" 229 (.builtin "_frozen_importlib.ModuleSpec.__doc__:str#opaque"), en P "__init__" 230 (.builtin "_frozen_importlib.ModuleSpec.__init__#opaque"), en P "__repr__" 231 (.builtin "_frozen_importlib.ModuleSpec.__repr__#opaque"), en P "__eq__" 232 (.builtin "_frozen_importlib.ModuleSpec.__eq__#opaque"), en P "cached" 233 (.builtin "_frozen_importlib.ModuleSpec.cached#opaque"), en P "parent" 234 (.builtin "_frozen_importlib.ModuleSpec.parent#opaque"), en P "has_location" 235 (.builtin "_frozen_importlib.ModuleSpec.has_location#opaque"), en P "__static_attributes__" 236 (.ref 23), en P "__dict__" 238 (.ref 24), en P "__weakref__" 240 (.ref 25), en P "__hash__" 241 (.none)] 13 }
noncomputable def o21 (P : Params) : Obj := { cls := .type "type", data := .cls { name := (S "ModuleSpec"), bases := [.type "object"], mro := [.ref 22, .type "object"], ns := 21, qualname := (S "ModuleSpec"), hasDict := true, slotNames := [], subclasses := [], abstract := false, collection := none, hasDel := false } }
noncomputable def o22 (P : Params) : Obj := { cls := .type "tuple", data := .seq #[.str (S "_cached") 219, .str (S "_set_fileattr") 220, .str (S "_uninitialized_submodules") 221, .str (S "loader") 222, .str (S "loader_state") 223, .str (S "name") 224, .str (S "origin") 225, .str (S "submodule_search_locations") 226] 0 }
noncomputable def o23 (P : Params) : Obj := { cls := .type "getset_descriptor", data := .fields #[.str (S "__dict__") 237, .ref 22, .builtin "function.__dict__", .builtin "function.__dict__#set"] }
noncomputable def o24 (P : Params) : Obj := { cls := .type "getset_descriptor", data := .fields #[.str (S "__weakref__") 239, .ref 22, .builtin "ExceptionGroup.__weakref__", .none] }
noncomputable def o25 (P : Params) : Obj := { cls := .ref 22, dict := some 20 }
noncomputable def o26 (P : Params) : Obj := { cls := .none, data := .seq #[.int 11 0, .str (Str.mk #[6, 247, 8, 95, 95, 110, 97, 109, 101, 95, 95, 6, 246, 4, 95, 115, 114, 101, 6, 248, 7, 95, 95, 100, 111, 99, 95, 95, 0, 6, 250, 11, 95, 95, 112, 97, 99, 107, 97, 103, 101, 95, 95, 6, 249, 0, 6, 251, 10, 95, 95, 108, 111, 97, 100, 101, 114, 95, 95, 4, 0, 0, 14, 6, 252, 8, 95, 95, 115, 112, 101, 99, 95, 95, 4, 0, 0, 26, 6, 253, 7, 99, 111, 109, 112, 105, 108, 101, 9, 12, 95, 115, 114, 101, 46, 99, 111, 109, 112, 105, 108, 101, 6, 254, 8, 116, 101, 109, 112, 108, 97, 116, 101, 9, 13, 95, 115, 114, 101, 46, 116, 101, 109, 112, 108, 97, 116, 101, 6, 255, 11, 103, 101, 116, 99, 111, 100, 101, 115, 105, 122, 101, 9, 16, 95, 115, 114, 101, 46, 103, 101, 116, 99, 111, 100, 101, 115, 105, 122, 101, 6, 256, 13, 97, 115, 99, 105, 105, 95, 105, 115, 99, 97, 115, 101, 100, 9, 18, 95, 115, 114, 101, 46, 97, 115, 99, 105, 105, 95, 105, 115, 99, 97, 115, 101, 100, 6, 257, 15, 117, 110, 105, 99, 111, 100, 101, 95, 105, 115, 99, 97, 115, 101, 100, 9, 20, 95, 115, 114, 101, 46, 117, 110, 105, 99, 111, 100, 101, 95, 105, 115, 99, 97, 115, 101, 100, 6, 258, 13, 97, 115, 99, 105, 105, 95, 116, 111, 108, 111, 119, 101, 114, 9, 18, 95, 115, 114, 101, 46, 97, 115, 99, 105, 105, 95, 116, 111, 108, 111, 119, 101, 114, 6, 259, 15, 117, 110, 105, 99, 111, 100, 101, 95, 116, 111, 108, 111, 119, 101, 114, 9, 20, 95, 115, 114, 101, 46, 117, 110, 105, 99, 111, 100, 101, 95, 116, 111, 108, 111, 119, 101, 114, 6, 261, 5, 77, 65, 71, 73, 67, 4, 260, 0, 20230612, 6, 263, 8, 67, 79, 68, 69, 83, 73, 90, 69, 4, 262, 0, 4, 6, 265, 9, 77, 65, 88, 82, 69, 80, 69, 65, 84, 4, 264, 0, 4294967295, 6, 267, 9, 77, 65, 88, 71, 82, 79, 85, 80, 83, 4, 266, 0, 1073741823, 6, 269, 9, 99, 111, 112, 121, 114, 105, 103, 104, 116, 6, 268, 53, 32, 83, 82, 69, 32, 50, 46, 50, 46, 50, 32, 67, 111, 112, 121, 114, 105, 103, 104, 116, 32, 40, 99, 41, 32, 49, 57, 57, 55, 45, 50, 48, 48, 50, 32, 98, 121, 32, 83, 101, 99, 114, 101, 116, 32, 76, 97, 98, 115, 32, 65, 66, 32]) 0, .bool true, .bool false, .str (S "_sre") 271] 0 }
noncomputable def o27 (P : Params) : Obj := { cls := .type "dict", data := .dict #[en P "__name__" 247 (.str (S "_sre") 246), en P "__doc__" 248 (.none), en P "__package__" 250 (.str (S "") 249), en P "__loader__" 251 (.builtin "off-the-table:_sre.__loader__:shared#opaque"), en P "__spec__" 252 (.builtin "off-the-table:_sre.__spec__:shared#opaque"), en P "compile" 253 (.builtin "_sre.compile"), en P "template" 254 (.builtin "off-the-table:_sre.template:shared#opaque"), en P "getcodesize" 255 (.builtin "off-the-table:_sre.getcodesize:shared#opaque"), en P "ascii_iscased" 256 (.builtin "off-the-table:_sre.ascii_iscased:shared#opaque"), en P "unicode_iscased" 257 (.builtin "off-the-table:_sre.unicode_iscased:shared#opaque"), en P "ascii_tolower" 258 (.builtin "off-the-table:_sre.ascii_tolower:shared#opaque"), en P "unicode_tolower" 259 (.builtin "off-the-table:_sre.unicode_tolower:shared#opaque"), en P "MAGIC" 261 (.int 20230612 260), en P "CODESIZE" 263 (.int 4 262), en P "MAXREPEAT" 265 (.int 4294967295 264), en P "MAXGROUPS" 267 (.int 1073741823 266), en P "copyright" 269 (.str (S " SRE 2.2.2 Copyright (c) 1997-2002 by Secret Labs AB ") 268)] 17 }
noncomputable def o28 (P : Params) : Obj := { cls := .type "code", data := .fields #[.str (S "<module>") 277, .str (S "<module>") 278, .str (S "/claim/cut.py") 279, .int 1 0, .int 0 0, .int 0 0, .int 0 0, .int 0 0, .ref 28, .bool false, .int 276 0, .ref 29, .none, .none, .none, .none, .int 280 0, .int 1 0, .str (S "/claim/cut.py") 281] }
noncomputable def o29 (P : Params) : Obj := { cls := .type "frame", slots := #[(some (.ref 30)), (some (.ref 3)), (some (.ref 3)), none, (some (.str (S "__main__") 164)), none, (some (.ref 0))] }
noncomputable def o30 (P : Params) : Obj := { cls := .type "dict", data := .dict #[en P "__name__" 165 (.str (S "__main__") 164), en P "__doc__" 166 (.none), en P "__package__" 167 (.none), en P "__loader__" 168 (.builtin "__main__.__loader__#opaque"), en P "__spec__" 169 (.none), en P "__annotations__" 170 (.ref 6), en P "__builtins__" 171 (.ref 4), en P "__file__" 173 (.str (S "/claim/cut.py") 172), en P "__cached__" 174 (.none), en P "_sre" 275 (.ref 12), en P "_twin_re_1" 316 (.ref 36), en P "NL" 318 (.str (Str.mk #[10]) 317)] 12 }
noncomputable def o31 (P : Params) : Obj := { cls := .type "list", data := .seq #[.int 14 285, .int 8 286, .int 1 287, .int 3 288, .int 3 289, .int 1 290, .int 1 291, .int 61 292, .int 0 293, .int 16 294, .int 61 295, .int 24 296, .int 16 297, .int 2 298, .int 2 299, .int 13 300, .int 11 301, .int 9 302, .int 0 303, .int 67043328 304, .int 126 305, .int 126 306, .int 0 307, .int 0 308, .int 0 309, .int 0 310, .int 0 311, .int 1 312, .int 1 313] 0 }
noncomputable def o32 (P : Params) : Obj := { cls := .type "tuple", data := .seq #[.none] 0 }
noncomputable def o33 (P : Params) : Obj := { cls := .type "tuple", data := .seq #[.int 14 0, .int 8 0, .int 1 0, .int 3 0, .int 3 0, .int 1 0, .int 1 0, .int 61 0, .int 0 0, .int 16 0, .int 61 0, .int 24 0, .int 16 0, .int 2 0, .int 2 0, .int 13 0, .int 11 0, .int 9 0, .int 0 0, .int 67043328 0, .int 126 0, .int 126 0, .int 0 0, .int 0 0, .int 0 0, .int 0 0, .int 0 0, .int 1 0, .int 1 0] 0 }
noncomputable def o34 (P : Params) : Obj := { cls := .type "re.Pattern", data := .fields #[.str (S "=[a-fA-F0-9]{2}") 283, .int 256 315, .int 0 0, .none, .none, .ref 35, .int 0 0] }
noncomputable def o35 (P : Params) : Obj := { cls := .type "dict", data := .dict #[en P "__name__" 165 (.str (S "__main__") 164), en P "__doc__" 166 (.none), en P "__package__" 167 (.none), en P "__loader__" 168 (.builtin "__main__.__loader__#opaque"), en P "__spec__" 169 (.none), en P "__annotations__" 170 (.ref 6), en P "__builtins__" 171 (.ref 4), en P "__file__" 173 (.str (S "/claim/cut.py") 172), en P "__cached__" 174 (.none), en P "_sre" 275 (.ref 12), en P "_twin_re_1" 316 (.ref 36), en P "NL" 318 (.str (Str.mk #[10]) 317), en P "_QUOPRI_MAP" 1346 (.ref 39)] 13 }
noncomputable def o36 (P : Params) : Obj := { cls := .type "range", data := .fields #[.int 0 320, .int 256 319, .int 1 321] }
noncomputable def o37 (P : Params) : Obj := { cls := .type "range_iterator", data := .fields #[.int 256 0, .int 0 0, .int 1 0] }
noncomputable def o38 (P : Params) : Obj := { cls := .type "list", data := .seq ⟨qm⟩ 256 }
noncomputable def o39 (P : Params) : Obj := { cls := .type "dict", data := .dict #[] 2 }
noncomputable def o40 (P : Params) : Obj := { cls := .type "StopIteration", data := .fields #[.ref 41, .none, .none, .none, .bool false, .none] }
noncomputable def o41 (P : Params) : Obj := { cls := .type "dict", data := .dict #[en P "__name__" 165 (.str (S "cpy313.email.quoprimime") 1362), en P "__doc__" 166 (.none), en P "__package__" 167 (.none), en P "__loader__" 168 (.builtin "__main__.__loader__#opaque"), en P "__spec__" 169 (.none), en P "__annotations__" 170 (.ref 6), en P "__builtins__" 171 (.ref 4), en P "__file__" 173 (.str (S "/claim/cut.py") 172), en P "__cached__" 174 (.none), en P "_sre" 275 (.ref 12), en P "_twin_re_1" 316 (.ref 36), en P "NL" 318 (.str (Str.mk #[10]) 317), en P "_QUOPRI_MAP" 1346 (.ref 39), en P "_QUOPRI_HEADER_MAP" 1347 (.ref 44), en P "_QUOPRI_BODY_MAP" 1348 (.ref 46), en P "ascii_lowercase" 1350 (.str (S "abcdefghijklmnopqrstuvwxyz") 1349), en P "ascii_uppercase" 1352 (.str (S "ABCDEFGHIJKLMNOPQRSTUVWXYZ") 1351), en P "ascii_letters" 1354 (.str (S "abcdefghijklmnopqrstuvwxyzABCDEFGHIJKLMNOPQRSTUVWXYZ") 1353), en P "digits" 1356 (.str (S "0123456789") 1355), en P "hexdigits" 1361 (.str (S "0123456789abcdefABCDEF") 1360)] 20 }
noncomputable def o42 (P : Params) : Obj := { cls := .type "slice", data := .fields #[.none, .none, .none] }
noncomputable def o43 (P : Params) : Obj := { cls := .type "list", data := .seq #[.str (S "=00") 325, .str (S "=01") 329, .str (S "=02") 333, .str (S "=03") 337, .str (S "=04") 341, .str (S "=05") 345, .str (S "=06") 349, .str (S "=07") 353, .str (S "=08") 357, .str (S "=09") 361, .str (S "=0A") 365, .str (S "=0B") 369, .str (S "=0C") 373, .str (S "=0D") 377, .str (S "=0E") 381, .str (S "=0F") 385, .str (S "=10") 389, .str (S "=11") 393, .str (S "=12") 397, .str (S "=13") 401, .str (S "=14") 405, .str (S "=15") 409, .str (S "=16") 413, .str (S "=17") 417, .str (S "=18") 421, .str (S "=19") 425, .str (S "=1A") 429, .str (S "=1B") 433, .str (S "=1C") 437, .str (S "=1D") 441, .str (S "=1E") 445, .str (S "=1F") 449, .str (S "=20") 453, .str (S "=21") 457, .str (S "=22") 461, .str (S "=23") 465, .str (S "=24") 469, .str (S "=25") 473, .str (S "=26") 477, .str (S "=27") 481, .str (S "=28") 485, .str (S "=29") 489, .str (S "=2A") 493, .str (S "=2B") 497, .str (S "=2C") 501, .str (S "=2D") 505, .str (S "=2E") 509, .str (S "=2F") 513, .str (S "=30") 517, .str (S "=31") 521, .str (S "=32") 525, .str (S "=33") 529, .str (S "=34") 533, .str (S "=35") 537, .str (S "=36") 541, .str (S "=37") 545, .str (S "=38") 549, .str (S "=39") 553, .str (S "=3A") 557, .str (S "=3B") 561, .str (S "=3C") 565, .str (S "=3D") 569, .str (S "=3E") 573, .str (S "=3F") 577, .str (S "=40") 581, .str (S "=41") 585, .str (S "=42") 589, .str (S "=43") 593, .str (S "=44") 597, .str (S "=45") 601, .str (S "=46") 605, .str (S "=47") 609, .str (S "=48") 613, .str (S "=49") 617, .str (S "=4A") 621, .str (S "=4B") 625, .str (S "=4C") 629, .str (S "=4D") 633, .str (S "=4E") 637, .str (S "=4F") 641, .str (S "=50") 645, .str (S "=51") 649, .str (S "=52") 653, .str (S "=53") 657, .str (S "=54") 661, .str (S "=55") 665, .str (S "=56") 669, .str (S "=57") 673, .str (S "=58") 677, .str (S "=59") 681, .str (S "=5A") 685, .str (S "=5B") 689, .str (S "=5C") 693, .str (S "=5D") 697, .str (S "=5E") 701, .str (S "=5F") 705, .str (S "=60") 709, .str (S "=61") 713, .str (S "=62") 717, .str (S "=63") 721, .str (S "=64") 725, .str (S "=65") 729, .str (S "=66") 733, .str (S "=67") 737, .str (S "=68") 741, .str (S "=69") 745, .str (S "=6A") 749, .str (S "=6B") 753, .str (S "=6C") 757, .str (S "=6D") 761, .str (S "=6E") 765, .str (S "=6F") 769, .str (S "=70") 773, .str (S "=71") 777, .str (S "=72") 781, .str (S "=73") 785, .str (S "=74") 789, .str (S "=75") 793, .str (S "=76") 797, .str (S "=77") 801, .str (S "=78") 805, .str (S "=79") 809, .str (S "=7A") 813, .str (S "=7B") 817, .str (S "=7C") 821, .str (S "=7D") 825, .str (S "=7E") 829, .str (S "=7F") 833, .str (S "=80") 837, .str (S "=81") 841, .str (S "=82") 845, .str (S "=83") 849, .str (S "=84") 853, .str (S "=85") 857, .str (S "=86") 861, .str (S "=87") 865, .str (S "=88") 869, .str (S "=89") 873, .str (S "=8A") 877, .str (S "=8B") 881, .str (S "=8C") 885, .str (S "=8D") 889, .str (S "=8E") 893, .str (S "=8F") 897, .str (S "=90") 901, .str (S "=91") 905, .str (S "=92") 909, .str (S "=93") 913, .str (S "=94") 917, .str (S "=95") 921, .str (S "=96") 925, .str (S "=97") 929, .str (S "=98") 933, .str (S "=99") 937, .str (S "=9A") 941, .str (S "=9B") 945, .str (S "=9C") 949, .str (S "=9D") 953, .str (S "=9E") 957, .str (S "=9F") 961, .str (S "=A0") 965, .str (S "=A1") 969, .str (S "=A2") 973, .str (S "=A3") 977, .str (S "=A4") 981, .str (S "=A5") 985, .str (S "=A6") 989, .str (S "=A7") 993, .str (S "=A8") 997, .str (S "=A9") 1001, .str (S "=AA") 1005, .str (S "=AB") 1009, .str (S "=AC") 1013, .str (S "=AD") 1017, .str (S "=AE") 1021, .str (S "=AF") 1025, .str (S "=B0") 1029, .str (S "=B1") 1033, .str (S "=B2") 1037, .str (S "=B3") 1041, .str (S "=B4") 1045, .str (S "=B5") 1049, .str (S "=B6") 1053, .str (S "=B7") 1057, .str (S "=B8") 1061, .str (S "=B9") 1065, .str (S "=BA") 1069, .str (S "=BB") 1073, .str (S "=BC") 1077, .str (S "=BD") 1081, .str (S "=BE") 1085, .str (S "=BF") 1089, .str (S "=C0") 1093, .str (S "=C1") 1097, .str (S "=C2") 1101, .str (S "=C3") 1105, .str (S "=C4") 1109, .str (S "=C5") 1113, .str (S "=C6") 1117, .str (S "=C7") 1121, .str (S "=C8") 1125, .str (S "=C9") 1129, .str (S "=CA") 1133, .str (S "=CB") 1137, .str (S "=CC") 1141, .str (S "=CD") 1145, .str (S "=CE") 1149, .str (S "=CF") 1153, .str (S "=D0") 1157, .str (S "=D1") 1161, .str (S "=D2") 1165, .str (S "=D3") 1169, .str (S "=D4") 1173, .str (S "=D5") 1177, .str (S "=D6") 1181, .str (S "=D7") 1185, .str (S "=D8") 1189, .str (S "=D9") 1193, .str (S "=DA") 1197, .str (S "=DB") 1201, .str (S "=DC") 1205, .str (S "=DD") 1209, .str (S "=DE") 1213, .str (S "=DF") 1217, .str (S "=E0") 1221, .str (S "=E1") 1225, .str (S "=E2") 1229, .str (S "=E3") 1233, .str (S "=E4") 1237, .str (S "=E5") 1241, .str (S "=E6") 1245, .str (S "=E7") 1249, .str (S "=E8") 1253, .str (S "=E9") 1257, .str (S "=EA") 1261, .str (S "=EB") 1265, .str (S "=EC") 1269, .str (S "=ED") 1273, .str (S "=EE") 1277, .str (S "=EF") 1281, .str (S "=F0") 1285, .str (S "=F1") 1289, .str (S "=F2") 1293, .str (S "=F3") 1297, .str (S "=F4") 1301, .str (S "=F5") 1305, .str (S "=F6") 1309, .str (S "=F7") 1313, .str (S "=F8") 1317, .str (S "=F9") 1321, .str (S "=FA") 1325, .str (S "=FB") 1329, .str (S "=FC") 1333, .str (S "=FD") 1337, .str (S "=FE") 1341, .str (S "=FF") 1345] 0 }
noncomputable def o44 (P : Params) : Obj := { cls := .type "dict", data := .dict #[en P "__name__" 165 (.str (S "cpy313.email.quoprimime") 1362), en P "__doc__" 166 (.none), en P "__package__" 167 (.none), en P "__loader__" 168 (.builtin "__main__.__loader__#opaque"), en P "__spec__" 169 (.none), en P "__annotations__" 170 (.ref 6), en P "__builtins__" 171 (.ref 4), en P "__file__" 173 (.str (S "/claim/cut.py") 172), en P "__cached__" 174 (.none), en P "_sre" 275 (.ref 12), en P "_twin_re_1" 316 (.ref 36), en P "NL" 318 (.str (Str.mk #[10]) 317), en P "_QUOPRI_MAP" 1346 (.ref 39), en P "_QUOPRI_HEADER_MAP" 1347 (.ref 44), en P "_QUOPRI_BODY_MAP" 1348 (.ref 46), en P "ascii_lowercase" 1350 (.str (S "abcdefghijklmnopqrstuvwxyz") 1349), en P "ascii_uppercase" 1352 (.str (S "ABCDEFGHIJKLMNOPQRSTUVWXYZ") 1351), en P "ascii_letters" 1354 (.str (S "abcdefghijklmnopqrstuvwxyzABCDEFGHIJKLMNOPQRSTUVWXYZ") 1353), en P "digits" 1356 (.str (S "0123456789") 1355), en P "hexdigits" 1361 (.str (S "0123456789abcdefABCDEF") 1360), en P "c" 1372 (.int 57 1569)] 21 }
noncomputable def o45 (P : Params) : Obj := { cls := .type "list", data := .seq #[.str (S "=00") 325, .str (S "=01") 329, .str (S "=02") 333, .str (S "=03") 337, .str (S "=04") 341, .str (S "=05") 345, .str (S "=06") 349, .str (S "=07") 353, .str (S "=08") 357, .str (S "=09") 361, .str (S "=0A") 365, .str (S "=0B") 369, .str (S "=0C") 373, .str (S "=0D") 377, .str (S "=0E") 381, .str (S "=0F") 385, .str (S "=10") 389, .str (S "=11") 393, .str (S "=12") 397, .str (S "=13") 401, .str (S "=14") 405, .str (S "=15") 409, .str (S "=16") 413, .str (S "=17") 417, .str (S "=18") 421, .str (S "=19") 425, .str (S "=1A") 429, .str (S "=1B") 433, .str (S "=1C") 437, .str (S "=1D") 441, .str (S "=1E") 445, .str (S "=1F") 449, .str (S "=20") 453, .str (S "!") 1376, .str (S "=22") 461, .str (S "=23") 465, .str (S "=24") 469, .str (S "=25") 473, .str (S "=26") 477, .str (S "=27") 481, .str (S "=28") 485, .str (S "=29") 489, .str (S "*") 1379, .str (S "+") 1382, .str (S "=2C") 501, .str (S "-") 1373, .str (S "=2E") 509, .str (S "/") 1385, .str (S "0") 1544, .str (S "1") 1547, .str (S "2") 1550, .str (S "3") 1553, .str (S "4") 1556, .str (S "5") 1559, .str (S "6") 1562, .str (S "7") 1565, .str (S "8") 1568, .str (S "9") 1571, .str (S "=3A") 557, .str (S "=3B") 561, .str (S "=3C") 565, .str (S "=3D") 569, .str (S "=3E") 573, .str (S "=3F") 577, .str (S "=40") 581, .str (S "A") 1466, .str (S "B") 1469, .str (S "C") 1472, .str (S "D") 1475, .str (S "E") 1478, .str (S "F") 1481, .str (S "G") 1484, .str (S "H") 1487, .str (S "I") 1490, .str (S "J") 1493, .str (S "K") 1496, .str (S "L") 1499, .str (S "M") 1502, .str (S "N") 1505, .str (S "O") 1508, .str (S "P") 1511, .str (S "Q") 1514, .str (S "R") 1517, .str (S "S") 1520, .str (S "T") 1523, .str (S "U") 1526, .str (S "V") 1529, .str (S "W") 1532, .str (S "X") 1535, .str (S "Y") 1538, .str (S "Z") 1541, .str (S "=5B") 689, .str (S "=5C") 693, .str (S "=5D") 697, .str (S "=5E") 701, .str (S "=5F") 705, .str (S "=60") 709, .str (S "a") 1388, .str (S "b") 1391, .str (S "c") 1394, .str (S "d") 1397, .str (S "e") 1400, .str (S "f") 1403, .str (S "g") 1406, .str (S "h") 1409, .str (S "i") 1412, .str (S "j") 1415, .str (S "k") 1418, .str (S "l") 1421, .str (S "m") 1424, .str (S "n") 1427, .str (S "o") 1430, .str (S "p") 1433, .str (S "q") 1436, .str (S "r") 1439, .str (S "s") 1442, .str (S "t") 1445, .str (S "u") 1448, .str (S "v") 1451, .str (S "w") 1454, .str (S "x") 1457, .str (S "y") 1460, .str (S "z") 1463, .str (S "=7B") 817, .str (S "=7C") 821, .str (S "=7D") 825, .str (S "=7E") 829, .str (S "=7F") 833, .str (S "=80") 837, .str (S "=81") 841, .str (S "=82") 845, .str (S "=83") 849, .str (S "=84") 853, .str (S "=85") 857, .str (S "=86") 861, .str (S "=87") 865, .str (S "=88") 869, .str (S "=89") 873, .str (S "=8A") 877, .str (S "=8B") 881, .str (S "=8C") 885, .str (S "=8D") 889, .str (S "=8E") 893, .str (S "=8F") 897, .str (S "=90") 901, .str (S "=91") 905, .str (S "=92") 909, .str (S "=93") 913, .str (S "=94") 917, .str (S "=95") 921, .str (S "=96") 925, .str (S "=97") 929, .str (S "=98") 933, .str (S "=99") 937, .str (S "=9A") 941, .str (S "=9B") 945, .str (S "=9C") 949, .str (S "=9D") 953, .str (S "=9E") 957, .str (S "=9F") 961, .str (S "=A0") 965, .str (S "=A1") 969, .str (S "=A2") 973, .str (S "=A3") 977, .str (S "=A4") 981, .str (S "=A5") 985, .str (S "=A6") 989, .str (S "=A7") 993, .str (S "=A8") 997, .str (S "=A9") 1001, .str (S "=AA") 1005, .str (S "=AB") 1009, .str (S "=AC") 1013, .str (S "=AD") 1017, .str (S "=AE") 1021, .str (S "=AF") 1025, .str (S "=B0") 1029, .str (S "=B1") 1033, .str (S "=B2") 1037, .str (S "=B3") 1041, .str (S "=B4") 1045, .str (S "=B5") 1049, .str (S "=B6") 1053, .str (S "=B7") 1057, .str (S "=B8") 1061, .str (S "=B9") 1065, .str (S "=BA") 1069, .str (S "=BB") 1073, .str (S "=BC") 1077, .str (S "=BD") 1081, .str (S "=BE") 1085, .str (S "=BF") 1089, .str (S "=C0") 1093, .str (S "=C1") 1097, .str (S "=C2") 1101, .str (S "=C3") 1105, .str (S "=C4") 1109, .str (S "=C5") 1113, .str (S "=C6") 1117, .str (S "=C7") 1121, .str (S "=C8") 1125, .str (S "=C9") 1129, .str (S "=CA") 1133, .str (S "=CB") 1137, .str (S "=CC") 1141, .str (S "=CD") 1145, .str (S "=CE") 1149, .str (S "=CF") 1153, .str (S "=D0") 1157, .str (S "=D1") 1161, .str (S "=D2") 1165, .str (S "=D3") 1169, .str (S "=D4") 1173, .str (S "=D5") 1177, .str (S "=D6") 1181, .str (S "=D7") 1185, .str (S "=D8") 1189, .str (S "=D9") 1193, .str (S "=DA") 1197, .str (S "=DB") 1201, .str (S "=DC") 1205, .str (S "=DD") 1209, .str (S "=DE") 1213, .str (S "=DF") 1217, .str (S "=E0") 1221, .str (S "=E1") 1225, .str (S "=E2") 1229, .str (S "=E3") 1233, .str (S "=E4") 1237, .str (S "=E5") 1241, .str (S "=E6") 1245, .str (S "=E7") 1249, .str (S "=E8") 1253, .str (S "=E9") 1257, .str (S "=EA") 1261, .str (S "=EB") 1265, .str (S "=EC") 1269, .str (S "=ED") 1273, .str (S "=EE") 1277, .str (S "=EF") 1281, .str (S "=F0") 1285, .str (S "=F1") 1289, .str (S "=F2") 1293, .str (S "=F3") 1297, .str (S "=F4") 1301, .str (S "=F5") 1305, .str (S "=F6") 1309, .str (S "=F7") 1313, .str (S "=F8") 1317, .str (S "=F9") 1321, .str (S "=FA") 1325, .str (S "=FB") 1329, .str (S "=FC") 1333, .str (S "=FD") 1337, .str (S "=FE") 1341, .str (S "=FF") 1345] 0 }
noncomputable def o46 (P : Params) : Obj := { cls := .type "bytes_iterator", data := .fields #[.none, .int 67 0] }
noncomputable def o47 (P : Params) : Obj := { cls := .type "StopIteration", data := .fields #[.ref 48, .none, .none, .none, .bool false, .none] }
noncomputable def o48 (P : Params) : Obj := { cls := .type "list", data := .seq #[.str (S "=00") 325, .str (S "=01") 329, .str (S "=02") 333, .str (S "=03") 337, .str (S "=04") 341, .str (S "=05") 345, .str (S "=06") 349, .str (S "=07") 353, .str (S "=08") 357, .str (S "=09") 361, .str (S "=0A") 365, .str (S "=0B") 369, .str (S "=0C") 373, .str (S "=0D") 377, .str (S "=0E") 381, .str (S "=0F") 385, .str (S "=10") 389, .str (S "=11") 393, .str (S "=12") 397, .str (S "=13") 401, .str (S "=14") 405, .str (S "=15") 409, .str (S "=16") 413, .str (S "=17") 417, .str (S "=18") 421, .str (S "=19") 425, .str (S "=1A") 429, .str (S "=1B") 433, .str (S "=1C") 437, .str (S "=1D") 441, .str (S "=1E") 445, .str (S "=1F") 449, .str (S "_") 1572, .str (S "!") 1376, .str (S "=22") 461, .str (S "=23") 465, .str (S "=24") 469, .str (S "=25") 473, .str (S "=26") 477, .str (S "=27") 481, .str (S "=28") 485, .str (S "=29") 489, .str (S "*") 1379, .str (S "+") 1382, .str (S "=2C") 501, .str (S "-") 1373, .str (S "=2E") 509, .str (S "/") 1385, .str (S "0") 1544, .str (S "1") 1547, .str (S "2") 1550, .str (S "3") 1553, .str (S "4") 1556, .str (S "5") 1559, .str (S "6") 1562, .str (S "7") 1565, .str (S "8") 1568, .str (S "9") 1571, .str (S "=3A") 557, .str (S "=3B") 561, .str (S "=3C") 565, .str (S "=3D") 569, .str (S "=3E") 573, .str (S "=3F") 577, .str (S "=40") 581, .str (S "A") 1466, .str (S "B") 1469, .str (S "C") 1472, .str (S "D") 1475, .str (S "E") 1478, .str (S "F") 1481, .str (S "G") 1484, .str (S "H") 1487, .str (S "I") 1490, .str (S "J") 1493, .str (S "K") 1496, .str (S "L") 1499, .str (S "M") 1502, .str (S "N") 1505, .str (S "O") 1508, .str (S "P") 1511, .str (S "Q") 1514, .str (S "R") 1517, .str (S "S") 1520, .str (S "T") 1523, .str (S "U") 1526, .str (S "V") 1529, .str (S "W") 1532, .str (S "X") 1535, .str (S "Y") 1538, .str (S "Z") 1541, .str (S "=5B") 689, .str (S "=5C") 693, .str (S "=5D") 697, .str (S "=5E") 701, .str (S "=5F") 705, .str (S "=60") 709, .str (S "a") 1388, .str (S "b") 1391, .str (S "c") 1394, .str (S "d") 1397, .str (S "e") 1400, .str (S "f") 1403, .str (S "g") 1406, .str (S "h") 1409, .str (S "i") 1412, .str (S "j") 1415, .str (S "k") 1418, .str (S "l") 1421, .str (S "m") 1424, .str (S "n") 1427, .str (S "o") 1430, .str (S "p") 1433, .str (S "q") 1436, .str (S "r") 1439, .str (S "s") 1442, .str (S "t") 1445, .str (S "u") 1448, .str (S "v") 1451, .str (S "w") 1454, .str (S "x") 1457, .str (S "y") 1460, .str (S "z") 1463, .str (S "=7B") 817, .str (S "=7C") 821, .str (S "=7D") 825, .str (S "=7E") 829, .str (S "=7F") 833, .str (S "=80") 837, .str (S "=81") 841, .str (S "=82") 845, .str (S "=83") 849, .str (S "=84") 853, .str (S "=85") 857, .str (S "=86") 861, .str (S "=87") 865, .str (S "=88") 869, .str (S "=89") 873, .str (S "=8A") 877, .str (S "=8B") 881, .str (S "=8C") 885, .str (S "=8D") 889, .str (S "=8E") 893, .str (S "=8F") 897, .str (S "=90") 901, .str (S "=91") 905, .str (S "=92") 909, .str (S "=93") 913, .str (S "=94") 917, .str (S "=95") 921, .str (S "=96") 925, .str (S "=97") 929, .str (S "=98") 933, .str (S "=99") 937, .str (S "=9A") 941, .str (S "=9B") 945, .str (S "=9C") 949, .str (S "=9D") 953, .str (S "=9E") 957, .str (S "=9F") 961, .str (S "=A0") 965, .str (S "=A1") 969, .str (S "=A2") 973, .str (S "=A3") 977, .str (S "=A4") 981, .str (S "=A5") 985, .str (S "=A6") 989, .str (S "=A7") 993, .str (S "=A8") 997, .str (S "=A9") 1001, .str (S "=AA") 1005, .str (S "=AB") 1009, .str (S "=AC") 1013, .str (S "=AD") 1017, .str (S "=AE") 1021, .str (S "=AF") 1025, .str (S "=B0") 1029, .str (S "=B1") 1033, .str (S "=B2") 1037, .str (S "=B3") 1041, .str (S "=B4") 1045, .str (S "=B5") 1049, .str (S "=B6") 1053, .str (S "=B7") 1057, .str (S "=B8") 1061, .str (S "=B9") 1065, .str (S "=BA") 1069, .str (S "=BB") 1073, .str (S "=BC") 1077, .str (S "=BD") 1081, .str (S "=BE") 1085, .str (S "=BF") 1089, .str (S "=C0") 1093, .str (S "=C1") 1097, .str (S "=C2") 1101, .str (S "=C3") 1105, .str (S "=C4") 1109, .str (S "=C5") 1113, .str (S "=C6") 1117, .str (S "=C7") 1121, .str (S "=C8") 1125, .str (S "=C9") 1129, .str (S "=CA") 1133, .str (S "=CB") 1137, .str (S "=CC") 1141, .str (S "=CD") 1145, .str (S "=CE") 1149, .str (S "=CF") 1153, .str (S "=D0") 1157, .str (S "=D1") 1161, .str (S "=D2") 1165, .str (S "=D3") 1169, .str (S "=D4") 1173, .str (S "=D5") 1177, .str (S "=D6") 1181, .str (S "=D7") 1185, .str (S "=D8") 1189, .str (S "=D9") 1193, .str (S "=DA") 1197, .str (S "=DB") 1201, .str (S "=DC") 1205, .str (S "=DD") 1209, .str (S "=DE") 1213, .str (S "=DF") 1217, .str (S "=E0") 1221, .str (S "=E1") 1225, .str (S "=E2") 1229, .str (S "=E3") 1233, .str (S "=E4") 1237, .str (S "=E5") 1241, .str (S "=E6") 1245, .str (S "=E7") 1249, .str (S "=E8") 1253, .str (S "=E9") 1257, .str (S "=EA") 1261, .str (S "=EB") 1265, .str (S "=EC") 1269, .str (S "=ED") 1273, .str (S "=EE") 1277, .str (S "=EF") 1281, .str (S "=F0") 1285, .str (S "=F1") 1289, .str (S "=F2") 1293, .str (S "=F3") 1297, .str (S "=F4") 1301, .str (S "=F5") 1305, .str (S "=F6") 1309, .str (S "=F7") 1313, .str (S "=F8") 1317, .str (S "=F9") 1321, .str (S "=FA") 1325, .str (S "=FB") 1329, .str (S "=FC") 1333, .str (S "=FD") 1337, .str (S "=FE") 1341, .str (S "=FF") 1345] 0 }
noncomputable def o49 (P : Params) : Obj := { cls := .type "dict", data := .dict #[en P "__name__" 165 (.str (S "cpy313.email.quoprimime") 1362), en P "__doc__" 166 (.none), en P "__package__" 167 (.none), en P "__loader__" 168 (.builtin "__main__.__loader__#opaque"), en P "__spec__" 169 (.none), en P "__annotations__" 170 (.ref 6), en P "__builtins__" 171 (.ref 4), en P "__file__" 173 (.str (S "/claim/cut.py") 172), en P "__cached__" 174 (.none), en P "_sre" 275 (.ref 12), en P "_twin_re_1" 316 (.ref 36), en P "NL" 318 (.str (Str.mk #[10]) 317), en P "_QUOPRI_MAP" 1346 (.ref 39), en P "_QUOPRI_HEADER_MAP" 1347 (.ref 44), en P "_QUOPRI_BODY_MAP" 1348 (.ref 46), en P "ascii_lowercase" 1350 (.str (S "abcdefghijklmnopqrstuvwxyz") 1349), en P "ascii_uppercase" 1352 (.str (S "ABCDEFGHIJKLMNOPQRSTUVWXYZ") 1351), en P "ascii_letters" 1354 (.str (S "abcdefghijklmnopqrstuvwxyzABCDEFGHIJKLMNOPQRSTUVWXYZ") 1353), en P "digits" 1356 (.str (S "0123456789") 1355), en P "hexdigits" 1361 (.str (S "0123456789abcdefABCDEF") 1360), en P "c" 1372 (.int 9 1858)] 21 }
noncomputable def o50 (P : Params) : Obj := { cls := .type "list", data := .seq #[.str (S "=00") 325, .str (S "=01") 329, .str (S "=02") 333, .str (S "=03") 337, .str (S "=04") 341, .str (S "=05") 345, .str (S "=06") 349, .str (S "=07") 353, .str (S "=08") 357, .str (Str.mk #[9]) 1860, .str (S "=0A") 365, .str (S "=0B") 369, .str (S "=0C") 373, .str (S "=0D") 377, .str (S "=0E") 381, .str (S "=0F") 385, .str (S "=10") 389, .str (S "=11") 393, .str (S "=12") 397, .str (S "=13") 401, .str (S "=14") 405, .str (S "=15") 409, .str (S "=16") 413, .str (S "=17") 417, .str (S "=18") 421, .str (S "=19") 425, .str (S "=1A") 429, .str (S "=1B") 433, .str (S "=1C") 437, .str (S "=1D") 441, .str (S "=1E") 445, .str (S "=1F") 449, .str (S " ") 1578, .str (S "!") 1581, .str (S "\"") 1584, .str (S "#") 1587, .str (S "$") 1590, .str (S "%") 1593, .str (S "&") 1596, .str (S "'") 1599, .str (S "(") 1602, .str (S ")") 1605, .str (S "*") 1608, .str (S "+") 1611, .str (S ",") 1614, .str (S "-") 1617, .str (S ".") 1620, .str (S "/") 1623, .str (S "0") 1626, .str (S "1") 1629, .str (S "2") 1632, .str (S "3") 1635, .str (S "4") 1638, .str (S "5") 1641, .str (S "6") 1644, .str (S "7") 1647, .str (S "8") 1650, .str (S "9") 1653, .str (S ":") 1656, .str (S ";") 1659, .str (S "<") 1662, .str (S "=3D") 569, .str (S ">") 1665, .str (S "?") 1668, .str (S "@") 1671, .str (S "A") 1674, .str (S "B") 1677, .str (S "C") 1680, .str (S "D") 1683, .str (S "E") 1686, .str (S "F") 1689, .str (S "G") 1692, .str (S "H") 1695, .str (S "I") 1698, .str (S "J") 1701, .str (S "K") 1704, .str (S "L") 1707, .str (S "M") 1710, .str (S "N") 1713, .str (S "O") 1716, .str (S "P") 1719, .str (S "Q") 1722, .str (S "R") 1725, .str (S "S") 1728, .str (S "T") 1731, .str (S "U") 1734, .str (S "V") 1737, .str (S "W") 1740, .str (S "X") 1743, .str (S "Y") 1746, .str (S "Z") 1749, .str (S "[") 1752, .str (S "\\") 1755, .str (S "]") 1758, .str (S "^") 1761, .str (S "_") 1764, .str (S "`") 1767, .str (S "a") 1770, .str (S "b") 1773, .str (S "c") 1776, .str (S "d") 1779, .str (S "e") 1782, .str (S "f") 1785, .str (S "g") 1788, .str (S "h") 1791, .str (S "i") 1794, .str (S "j") 1797, .str (S "k") 1800, .str (S "l") 1803, .str (S "m") 1806, .str (S "n") 1809, .str (S "o") 1812, .str (S "p") 1815, .str (S "q") 1818, .str (S "r") 1821, .str (S "s") 1824, .str (S "t") 1827, .str (S "u") 1830, .str (S "v") 1833, .str (S "w") 1836, .str (S "x") 1839, .str (S "y") 1842, .str (S "z") 1845, .str (S "{") 1848, .str (S "|") 1851, .str (S "}") 1854, .str (S "~") 1857, .str (S "=7F") 833, .str (S "=80") 837, .str (S "=81") 841, .str (S "=82") 845, .str (S "=83") 849, .str (S "=84") 853, .str (S "=85") 857, .str (S "=86") 861, .str (S "=87") 865, .str (S "=88") 869, .str (S "=89") 873, .str (S "=8A") 877, .str (S "=8B") 881, .str (S "=8C") 885, .str (S "=8D") 889, .str (S "=8E") 893, .str (S "=8F") 897, .str (S "=90") 901, .str (S "=91") 905, .str (S "=92") 909, .str (S "=93") 913, .str (S "=94") 917, .str (S "=95") 921, .str (S "=96") 925, .str (S "=97") 929, .str (S "=98") 933, .str (S "=99") 937, .str (S "=9A") 941, .str (S "=9B") 945, .str (S "=9C") 949, .str (S "=9D") 953, .str (S "=9E") 957, .str (S "=9F") 961, .str (S "=A0") 965, .str (S "=A1") 969, .str (S "=A2") 973, .str (S "=A3") 977, .str (S "=A4") 981, .str (S "=A5") 985, .str (S "=A6") 989, .str (S "=A7") 993, .str (S "=A8") 997, .str (S "=A9") 1001, .str (S "=AA") 1005, .str (S "=AB") 1009, .str (S "=AC") 1013, .str (S "=AD") 1017, .str (S "=AE") 1021, .str (S "=AF") 1025, .str (S "=B0") 1029, .str (S "=B1") 1033, .str (S "=B2") 1037, .str (S "=B3") 1041, .str (S "=B4") 1045, .str (S "=B5") 1049, .str (S "=B6") 1053, .str (S "=B7") 1057, .str (S "=B8") 1061, .str (S "=B9") 1065, .str (S "=BA") 1069, .str (S "=BB") 1073, .str (S "=BC") 1077, .str (S "=BD") 1081, .str (S "=BE") 1085, .str (S "=BF") 1089, .str (S "=C0") 1093, .str (S "=C1") 1097, .str (S "=C2") 1101, .str (S "=C3") 1105, .str (S "=C4") 1109, .str (S "=C5") 1113, .str (S "=C6") 1117, .str (S "=C7") 1121, .str (S "=C8") 1125, .str (S "=C9") 1129, .str (S "=CA") 1133, .str (S "=CB") 1137, .str (S "=CC") 1141, .str (S "=CD") 1145, .str (S "=CE") 1149, .str (S "=CF") 1153, .str (S "=D0") 1157, .str (S "=D1") 1161, .str (S "=D2") 1165, .str (S "=D3") 1169, .str (S "=D4") 1173, .str (S "=D5") 1177, .str (S "=D6") 1181, .str (S "=D7") 1185, .str (S "=D8") 1189, .str (S "=D9") 1193, .str (S "=DA") 1197, .str (S "=DB") 1201, .str (S "=DC") 1205, .str (S "=DD") 1209, .str (S "=DE") 1213, .str (S "=DF") 1217, .str (S "=E0") 1221, .str (S "=E1") 1225, .str (S "=E2") 1229, .str (S "=E3") 1233, .str (S "=E4") 1237, .str (S "=E5") 1241, .str (S "=E6") 1245, .str (S "=E7") 1249, .str (S "=E8") 1253, .str (S "=E9") 1257, .str (S "=EA") 1261, .str (S "=EB") 1265, .str (S "=EC") 1269, .str (S "=ED") 1273, .str (S "=EE") 1277, .str (S "=EF") 1281, .str (S "=F0") 1285, .str (S "=F1") 1289, .str (S "=F2") 1293, .str (S "=F3") 1297, .str (S "=F4") 1301, .str (S "=F5") 1305, .str (S "=F6") 1309, .str (S "=F7") 1313, .str (S "=F8") 1317, .str (S "=F9") 1321, .str (S "=FA") 1325, .str (S "=FB") 1329, .str (S "=FC") 1333, .str (S "=FD") 1337, .str (S "=FE") 1341, .str (S "=FF") 1345] 0 }
noncomputable def o51 (P : Params) : Obj := { cls := .type "bytes_iterator", data := .fields #[.none, .int 95 0] }
noncomputable def o52 (P : Params) : Obj := { cls := .type "StopIteration", data := .fields #[.ref 51, .none, .none, .none, .bool false, .none] }
noncomputable def o53 (P : Params) : Obj := { cls := .type "dict", data := .dict #[en P "__name__" 165 (.str (S "law_rs0129_01") 2131), en P "__doc__" 166 (.none), en P "__package__" 167 (.none), en P "__loader__" 168 (.builtin "__main__.__loader__#opaque"), en P "__spec__" 169 (.none), en P "__annotations__" 170 (.ref 6), en P "__builtins__" 171 (.ref 4), en P "__file__" 173 (.str (S "/claim/cut.py") 172), en P "__cached__" 174 (.none), en P "_sre" 275 (.ref 12), en P "_twin_re_1" 316 (.ref 36), en P "NL" 318 (.str (Str.mk #[10]) 317), en P "_QUOPRI_MAP" 1346 (.ref 39), en P "_QUOPRI_HEADER_MAP" 1347 (.ref 44), en P "_QUOPRI_BODY_MAP" 1348 (.ref 46), en P "ascii_lowercase" 1350 (.str (S "abcdefghijklmnopqrstuvwxyz") 1349), en P "ascii_uppercase" 1352 (.str (S "ABCDEFGHIJKLMNOPQRSTUVWXYZ") 1351), en P "ascii_letters" 1354 (.str (S "abcdefghijklmnopqrstuvwxyzABCDEFGHIJKLMNOPQRSTUVWXYZ") 1353), en P "digits" 1356 (.str (S "0123456789") 1355), en P "hexdigits" 1361 (.str (S "0123456789abcdefABCDEF") 1360), en P "unquote" 1867 (.ref 59), en P "quote" 1874 (.ref 66), en P "_QUOPRI_BODY_ENCODE_MAP" 1875 (.ref 68), en P "decode" 1895 (.ref 79), en P "_unquote_match" 1903 (.ref 86), en P "header_decode" 1910 (.ref 93), en P "ENDMARKER" 1914 (.int 0 1913), en P "LPAR" 1916 (.int 7 1915), en P "RPAR" 1918 (.int 8 1917), en P "LSQB" 1920 (.int 9 1919), en P "RSQB" 1922 (.int 10 1921), en P "COLON" 1924 (.int 11 1923), en P "COMMA" 1926 (.int 12 1925), en P "SEMI" 1928 (.int 13 1927), en P "PLUS" 1930 (.int 14 1929), en P "MINUS" 1932 (.int 15 1931), en P "STAR" 1934 (.int 16 1933), en P "SLASH" 1936 (.int 17 1935), en P "VBAR" 1938 (.int 18 1937), en P "AMPER" 1940 (.int 19 1939), en P "LESS" 1942 (.int 20 1941), en P "GREATER" 1944 (.int 21 1943), en P "EQUAL" 1946 (.int 22 1945), en P "DOT" 1948 (.int 23 1947), en P "PERCENT" 1950 (.int 24 1949), en P "LBRACE" 1952 (.int 25 1951), en P "RBRACE" 1954 (.int 26 1953), en P "EQEQUAL" 1956 (.int 27 1955), en P "NOTEQUAL" 1958 (.int 28 1957), en P "LESSEQUAL" 1960 (.int 29 1959), en P "GREATEREQUAL" 1962 (.int 30 1961), en P "TILDE" 1964 (.int 31 1963), en P "CIRCUMFLEX" 1966 (.int 32 1965), en P "LEFTSHIFT" 1968 (.int 33 1967), en P "RIGHTSHIFT" 1970 (.int 34 1969), en P "DOUBLESTAR" 1972 (.int 35 1971), en P "PLUSEQUAL" 1974 (.int 36 1973), en P "MINEQUAL" 1976 (.int 37 1975), en P "STAREQUAL" 1978 (.int 38 1977), en P "SLASHEQUAL" 1980 (.int 39 1979), en P "PERCENTEQUAL" 1982 (.int 40 1981), en P "AMPEREQUAL" 1984 (.int 41 1983), en P "VBAREQUAL" 1986 (.int 42 1985), en P "CIRCUMFLEXEQUAL" 1988 (.int 43 1987), en P "LEFTSHIFTEQUAL" 1990 (.int 44 1989), en P "RIGHTSHIFTEQUAL" 1992 (.int 45 1991), en P "DOUBLESTAREQUAL" 1994 (.int 46 1993), en P "DOUBLESLASH" 1996 (.int 47 1995), en P "DOUBLESLASHEQUAL" 1998 (.int 48 1997), en P "AT" 2000 (.int 49 1999), en P "ATEQUAL" 2002 (.int 50 2001), en P "RARROW" 2004 (.int 51 2003), en P "ELLIPSIS" 2006 (.int 52 2005), en P "COLONEQUAL" 2008 (.int 53 2007), en P "EXCLAMATION" 2010 (.int 54 2009), en P "NT_OFFSET" 2012 (.int 256 2011), en P "EXACT_TOKEN_TYPES" 2109 (.ref 94), en P "ISTERMINAL" 2116 (.ref 103), en P "ISNONTERMINAL" 2123 (.ref 110), en P "ISEOF" 2130 (.ref 117), en P "_law_operators" 2138 (.ref 124), en P "_law_read" 2149 (.ref 131), en P "_law_units" 2162 (.ref 138), en P "_law_counted" 2168 (.ref 143), en P "law" 2183 (.ref 150)] 87 }
noncomputable def o54 (P : Params) : Obj := { cls := .none, data := .fields #[.int 18 0, .int 0 0, .ref 58, .int 20 0, .int 0 0, .ref 65, .int 26 0, .int 0 0, .ref 78, .int 56 0, .int 0 0, .ref 85, .int 59 0, .int 0 0, .ref 92, .int 114 0, .int 0 0, .ref 102, .int 116 0, .int 0 0, .ref 109, .int 118 0, .int 0 0, .ref 116, .int 121 0, .int 0 0, .ref 123, .int 123 0, .int 0 0, .ref 130, .int 137 0, .int 0 0, .ref 137, .int 154 0, .int 0 0, .ref 142, .int 177 0, .int 0 0, .ref 149] }
noncomputable def o55 (P : Params) : Obj := { cls := .type "tuple", data := .seq #[.str (S "s") 1864] 0 }
noncomputable def o56 (P : Params) : Obj := { cls := .none, data := .func (fnp 14) }
noncomputable def o57 (P : Params) : Obj := { cls := .type "code", data := .fields #[.str (S "unquote") 1861, .str (S "unquote") 1862, .str (S "/claim/cut.py") 1863, .int 18 0, .int 1 0, .int 0 0, .int 0 0, .int 3 0, .ref 53, .bool true, .int 276 0, .ref 54, .none, .ref 55, .ref 56, .ref 57, .int 1865 0, .int 18 0, .str (S "/claim/cut.py") 1866] }
noncomputable def o58 (P : Params) : Obj := { cls := .type "function", data := .func ({ fnp 14 with globals := 3, pyModule := .str (S "cpy313.email.quoprimime") 1362, code := .ref 58 }) }
noncomputable def o59 (P : Params) : Obj := { cls := .type "tuple", data := .seq #[.str (S "c") 1871] 0 }
noncomputable def o60 (P : Params) : Obj := { cls := .none, data := .func (fnp 15) }
noncomputable def o61 (P : Params) : Obj := { cls := .type "code", data := .fields #[.str (S "quote") 1868, .str (S "quote") 1869, .str (S "/claim/cut.py") 1870, .int 20 0, .int 1 0, .int 0 0, .int 0 0, .int 3 0, .ref 60, .bool true, .int 276 0, .ref 61, .none, .ref 62, .ref 63, .ref 64, .int 1872 0, .int 20 0, .str (S "/claim/cut.py") 1873] }
noncomputable def o62 (P : Params) : Obj := { cls := .type "function", data := .func ({ fnp 15 with globals := 3, pyModule := .str (S "cpy313.email.quoprimime") 1362, code := .ref 65 }) }
noncomputable def o63 (P : Params) : Obj := { cls := .type "list", data := .seq #[.str (S "=00") 325, .str (S "=01") 329, .str (S "=02") 333, .str (S "=03") 337, .str (S "=04") 341, .str (S "=05") 345, .str (S "=06") 349, .str (S "=07") 353, .str (S "=08") 357, .str (Str.mk #[9]) 1860, .str (Str.mk #[10]) 1882, .str (S "=0B") 369, .str (S "=0C") 373, .str (Str.mk #[13]) 1879, .str (S "=0E") 381, .str (S "=0F") 385, .str (S "=10") 389, .str (S "=11") 393, .str (S "=12") 397, .str (S "=13") 401, .str (S "=14") 405, .str (S "=15") 409, .str (S "=16") 413, .str (S "=17") 417, .str (S "=18") 421, .str (S "=19") 425, .str (S "=1A") 429, .str (S "=1B") 433, .str (S "=1C") 437, .str (S "=1D") 441, .str (S "=1E") 445, .str (S "=1F") 449, .str (S " ") 1578, .str (S "!") 1581, .str (S "\"") 1584, .str (S "#") 1587, .str (S "$") 1590, .str (S "%") 1593, .str (S "&") 1596, .str (S "'") 1599, .str (S "(") 1602, .str (S ")") 1605, .str (S "*") 1608, .str (S "+") 1611, .str (S ",") 1614, .str (S "-") 1617, .str (S ".") 1620, .str (S "/") 1623, .str (S "0") 1626, .str (S "1") 1629, .str (S "2") 1632, .str (S "3") 1635, .str (S "4") 1638, .str (S "5") 1641, .str (S "6") 1644, .str (S "7") 1647, .str (S "8") 1650, .str (S "9") 1653, .str (S ":") 1656, .str (S ";") 1659, .str (S "<") 1662, .str (S "=3D") 569, .str (S ">") 1665, .str (S "?") 1668, .str (S "@") 1671, .str (S "A") 1674, .str (S "B") 1677, .str (S "C") 1680, .str (S "D") 1683, .str (S "E") 1686, .str (S "F") 1689, .str (S "G") 1692, .str (S "H") 1695, .str (S "I") 1698, .str (S "J") 1701, .str (S "K") 1704, .str (S "L") 1707, .str (S "M") 1710, .str (S "N") 1713, .str (S "O") 1716, .str (S "P") 1719, .str (S "Q") 1722, .str (S "R") 1725, .str (S "S") 1728, .str (S "T") 1731, .str (S "U") 1734, .str (S "V") 1737, .str (S "W") 1740, .str (S "X") 1743, .str (S "Y") 1746, .str (S "Z") 1749, .str (S "[") 1752, .str (S "\\") 1755, .str (S "]") 1758, .str (S "^") 1761, .str (S "_") 1764, .str (S "`") 1767, .str (S "a") 1770, .str (S "b") 1773, .str (S "c") 1776, .str (S "d") 1779, .str (S "e") 1782, .str (S "f") 1785, .str (S "g") 1788, .str (S "h") 1791, .str (S "i") 1794, .str (S "j") 1797, .str (S "k") 1800, .str (S "l") 1803, .str (S "m") 1806, .str (S "n") 1809, .str (S "o") 1812, .str (S "p") 1815, .str (S "q") 1818, .str (S "r") 1821, .str (S "s") 1824, .str (S "t") 1827, .str (S "u") 1830, .str (S "v") 1833, .str (S "w") 1836, .str (S "x") 1839, .str (S "y") 1842, .str (S "z") 1845, .str (S "{") 1848, .str (S "|") 1851, .str (S "}") 1854, .str (S "~") 1857, .str (S "=7F") 833, .str (S "=80") 837, .str (S "=81") 841, .str (S "=82") 845, .str (S "=83") 849, .str (S "=84") 853, .str (S "=85") 857, .str (S "=86") 861, .str (S "=87") 865, .str (S "=88") 869, .str (S "=89") 873, .str (S "=8A") 877, .str (S "=8B") 881, .str (S "=8C") 885, .str (S "=8D") 889, .str (S "=8E") 893, .str (S "=8F") 897, .str (S "=90") 901, .str (S "=91") 905, .str (S "=92") 909, .str (S "=93") 913, .str (S "=94") 917, .str (S "=95") 921, .str (S "=96") 925, .str (S "=97") 929, .str (S "=98") 933, .str (S "=99") 937, .str (S "=9A") 941, .str (S "=9B") 945, .str (S "=9C") 949, .str (S "=9D") 953, .str (S "=9E") 957, .str (S "=9F") 961, .str (S "=A0") 965, .str (S "=A1") 969, .str (S "=A2") 973, .str (S "=A3") 977, .str (S "=A4") 981, .str (S "=A5") 985, .str (S "=A6") 989, .str (S "=A7") 993, .str (S "=A8") 997, .str (S "=A9") 1001, .str (S "=AA") 1005, .str (S "=AB") 1009, .str (S "=AC") 1013, .str (S "=AD") 1017, .str (S "=AE") 1021, .str (S "=AF") 1025, .str (S "=B0") 1029, .str (S "=B1") 1033, .str (S "=B2") 1037, .str (S "=B3") 1041, .str (S "=B4") 1045, .str (S "=B5") 1049, .str (S "=B6") 1053, .str (S "=B7") 1057, .str (S "=B8") 1061, .str (S "=B9") 1065, .str (S "=BA") 1069, .str (S "=BB") 1073, .str (S "=BC") 1077, .str (S "=BD") 1081, .str (S "=BE") 1085, .str (S "=BF") 1089, .str (S "=C0") 1093, .str (S "=C1") 1097, .str (S "=C2") 1101, .str (S "=C3") 1105, .str (S "=C4") 1109, .str (S "=C5") 1113, .str (S "=C6") 1117, .str (S "=C7") 1121, .str (S "=C8") 1125, .str (S "=C9") 1129, .str (S "=CA") 1133, .str (S "=CB") 1137, .str (S "=CC") 1141, .str (S "=CD") 1145, .str (S "=CE") 1149, .str (S "=CF") 1153, .str (S "=D0") 1157, .str (S "=D1") 1161, .str (S "=D2") 1165, .str (S "=D3") 1169, .str (S "=D4") 1173, .str (S "=D5") 1177, .str (S "=D6") 1181, .str (S "=D7") 1185, .str (S "=D8") 1189, .str (S "=D9") 1193, .str (S "=DA") 1197, .str (S "=DB") 1201, .str (S "=DC") 1205, .str (S "=DD") 1209, .str (S "=DE") 1213, .str (S "=DF") 1217, .str (S "=E0") 1221, .str (S "=E1") 1225, .str (S "=E2") 1229, .str (S "=E3") 1233, .str (S "=E4") 1237, .str (S "=E5") 1241, .str (S "=E6") 1245, .str (S "=E7") 1249, .str (S "=E8") 1253, .str (S "=E9") 1257, .str (S "=EA") 1261, .str (S "=EB") 1265, .str (S "=EC") 1269, .str (S "=ED") 1273, .str (S "=EE") 1277, .str (S "=EF") 1281, .str (S "=F0") 1285, .str (S "=F1") 1289, .str (S "=F2") 1293, .str (S "=F3") 1297, .str (S "=F4") 1301, .str (S "=F5") 1305, .str (S "=F6") 1309, .str (S "=F7") 1313, .str (S "=F8") 1317, .str (S "=F9") 1321, .str (S "=FA") 1325, .str (S "=FB") 1329, .str (S "=FC") 1333, .str (S "=FD") 1337, .str (S "=FE") 1341, .str (S "=FF") 1345] 0 }
noncomputable def o64 (P : Params) : Obj := { cls := .type "bytes_iterator", data := .fields #[.none, .int 2 0] }
noncomputable def o65 (P : Params) : Obj := { cls := .type "StopIteration", data := .fields #[.ref 70, .none, .none, .none, .bool false, .none] }
noncomputable def o66 (P : Params) : Obj := { cls := .type "tuple", data := .seq #[.str (Str.mk #[10]) 317] 0 }
noncomputable def o67 (P : Params) : Obj := { cls := .type "tuple", data := .seq #[.str (S "encoded") 1886, .str (S "eol") 1887, .str (S "decoded") 1888, .str (S "line") 1889, .str (S "i") 1890, .str (S "n") 1891, .str (S "c") 1892] 0 }
noncomputable def o68 (P : Params) : Obj := { cls := .none, data := .func (fnp 19) }
noncomputable def o69 (P : Params) : Obj := { cls := .type "code", data := .fields #[.str (S "decode") 1883, .str (S "decode") 1884, .str (S "/claim/cut.py") 1885, .int 26 0, .int 2 0, .int 0 0, .int 0 0, .int 3 0, .ref 73, .bool true, .int 276 0, .ref 74, .none, .ref 75, .ref 76, .ref 77, .int 1893 0, .int 26 0, .str (S "/claim/cut.py") 1894] }
noncomputable def o70 (P : Params) : Obj := { cls := .type "function", data := .func ({ fnp 19 with globals := 3, defaults := .ref 72, pyModule := .str (S "cpy313.email.quoprimime") 1362, code := .ref 78 }) }
noncomputable def o71 (P : Params) : Obj := { cls := .type "tuple", data := .seq #[.str (S "match") 1899, .str (S "s") 1900] 0 }
noncomputable def o72 (P : Params) : Obj := { cls := .none, data := .func (fnp 20) }
noncomputable def o73 (P : Params) : Obj := { cls := .type "code", data := .fields #[.str (S "_unquote_match") 1896, .str (S "_unquote_match") 1897, .str (S "/claim/cut.py") 1898, .int 56 0, .int 1 0, .int 0 0, .int 0 0, .int 3 0, .ref 80, .bool true, .int 276 0, .ref 81, .none, .ref 82, .ref 83, .ref 84, .int 1901 0, .int 56 0, .str (S "/claim/cut.py") 1902] }
noncomputable def o74 (P : Params) : Obj := { cls := .type "function", data := .func ({ fnp 20 with globals := 3, pyModule := .str (S "cpy313.email.quoprimime") 1362, code := .ref 85 }) }
noncomputable def o75 (P : Params) : Obj := { cls := .type "tuple", data := .seq #[.str (S "s") 1907] 0 }
noncomputable def o76 (P : Params) : Obj := { cls := .none, data := .func (fnp 21) }
noncomputable def o77 (P : Params) : Obj := { cls := .type "code", data := .fields #[.str (S "header_decode") 1904, .str (S "header_decode") 1905, .str (S "/claim/cut.py") 1906, .int 59 0, .int 1 0, .int 0 0, .int 0 0, .int 3 0, .ref 87, .bool true, .int 276 0, .ref 88, .none, .ref 89, .ref 90, .ref 91, .int 1908 0, .int 59 0, .str (S "/claim/cut.py") 1909] }
noncomputable def o78 (P : Params) : Obj := { cls := .type "function", data := .func ({ fnp 21 with globals := 3, pyModule := .str (S "cpy313.email.quoprimime") 1362, code := .ref 92 }) }
noncomputable def o79 (P : Params) : Obj := { cls := .type "dict", data := .dict #[en P "!" 2013 (.int 54 2009), en P "!=" 2015 (.int 28 1957), en P "%" 2017 (.int 24 1949), en P "%=" 2019 (.int 40 1981), en P "&" 2021 (.int 19 1939), en P "&=" 2023 (.int 41 1983), en P "(" 2025 (.int 7 1915), en P ")" 2027 (.int 8 1917), en P "*" 2029 (.int 16 1933), en P "**" 2031 (.int 35 1971), en P "**=" 2033 (.int 46 1993), en P "*=" 2035 (.int 38 1977), en P "+" 2037 (.int 14 1929), en P "+=" 2039 (.int 36 1973), en P "," 2041 (.int 12 1925), en P "-" 2043 (.int 15 1931), en P "-=" 2045 (.int 37 1975), en P "->" 2047 (.int 51 2003), en P "." 2049 (.int 23 1947), en P "..." 2051 (.int 52 2005), en P "/" 2053 (.int 17 1935), en P "//" 2055 (.int 47 1995), en P "//=" 2057 (.int 48 1997), en P "/=" 2059 (.int 39 1979), en P ":" 2061 (.int 11 1923), en P ":=" 2063 (.int 53 2007), en P ";" 2065 (.int 13 1927), en P "<" 2067 (.int 20 1941), en P "<<" 2069 (.int 33 1967), en P "<<=" 2071 (.int 44 1989), en P "<=" 2073 (.int 29 1959), en P "=" 2075 (.int 22 1945), en P "==" 2077 (.int 27 1955), en P ">" 2079 (.int 21 1943), en P ">=" 2081 (.int 30 1961), en P ">>" 2082 (.int 34 1969), en P ">>=" 2083 (.int 45 1991), en P "@" 2084 (.int 49 1999), en P "@=" 2085 (.int 50 2001), en P "[" 2086 (.int 9 1919), en P "]" 2087 (.int 10 1921), en P "^" 2088 (.int 32 1965), en P "^=" 2089 (.int 43 1987), en P "{" 2090 (.int 25 1951), en P "|" 2091 (.int 18 1937), en P "|=" 2092 (.int 42 1985), en P "}" 2093 (.int 26 1953), en P "~" 2094 (.int 31 1963)] 48 }
noncomputable def o80 (P : Params) : Obj := { cls := .type "dict", data := .dict #[en P "->" 2047 (.int 51 2003), en P "." 2049 (.int 23 1947), en P "..." 2051 (.int 52 2005), en P "/" 2053 (.int 17 1935), en P "//" 2055 (.int 47 1995), en P "//=" 2057 (.int 48 1997), en P "/=" 2059 (.int 39 1979), en P ":" 2061 (.int 11 1923), en P ":=" 2063 (.int 53 2007), en P ";" 2065 (.int 13 1927), en P "<" 2067 (.int 20 1941), en P "<<" 2069 (.int 33 1967), en P "<<=" 2071 (.int 44 1989), en P "<=" 2073 (.int 29 1959), en P "=" 2075 (.int 22 1945), en P "==" 2077 (.int 27 1955), en P ">" 2079 (.int 21 1943)] 17 }
noncomputable def o81 (P : Params) : Obj := { cls := .type "dict", data := .dict #[en P ">=" 2081 (.int 30 1961), en P ">>" 2082 (.int 34 1969), en P ">>=" 2083 (.int 45 1991), en P "@" 2084 (.int 49 1999), en P "@=" 2085 (.int 50 2001), en P "[" 2086 (.int 9 1919), en P "]" 2087 (.int 10 1921), en P "^" 2088 (.int 32 1965), en P "^=" 2089 (.int 43 1987), en P "{" 2090 (.int 25 1951), en P "|" 2091 (.int 18 1937), en P "|=" 2092 (.int 42 1985), en P "}" 2093 (.int 26 1953), en P "~" 2094 (.int 31 1963)] 14 }
noncomputable def o82 (P : Params) : Obj := { cls := .type "tuple", data := .seq #[.str (S "x") 2113] 0 }
noncomputable def o83 (P : Params) : Obj := { cls := .none, data := .func (fnp 74) }
noncomputable def o84 (P : Params) : Obj := { cls := .type "code", data := .fields #[.str (S "ISTERMINAL") 2110, .str (S "ISTERMINAL") 2111, .str (S "/claim/cut.py") 2112, .int 114 0, .int 1 0, .int 0 0, .int 0 0, .int 3 0, .ref 97, .bool true, .int 276 0, .ref 98, .none, .ref 99, .ref 100, .ref 101, .int 2114 0, .int 114 0, .str (S "/claim/cut.py") 2115] }
noncomputable def o85 (P : Params) : Obj := { cls := .type "function", data := .func ({ fnp 74 with globals := 3, pyModule := .str (S "cpy313.token") 1911, code := .ref 102 }) }
noncomputable def o86 (P : Params) : Obj := { cls := .type "tuple", data := .seq #[.str (S "x") 2120] 0 }
noncomputable def o87 (P : Params) : Obj := { cls := .none, data := .func (fnp 75) }
noncomputable def o88 (P : Params) : Obj := { cls := .type "code", data := .fields #[.str (S "ISNONTERMINAL") 2117, .str (S "ISNONTERMINAL") 2118, .str (S "/claim/cut.py") 2119, .int 116 0, .int 1 0, .int 0 0, .int 0 0, .int 3 0, .ref 104, .bool true, .int 276 0, .ref 105, .none, .ref 106, .ref 107, .ref 108, .int 2121 0, .int 116 0, .str (S "/claim/cut.py") 2122] }
noncomputable def o89 (P : Params) : Obj := { cls := .type "function", data := .func ({ fnp 75 with globals := 3, pyModule := .str (S "cpy313.token") 1911, code := .ref 109 }) }
noncomputable def o90 (P : Params) : Obj := { cls := .type "tuple", data := .seq #[.str (S "x") 2127] 0 }
noncomputable def o91 (P : Params) : Obj := { cls := .none, data := .func (fnp 76) }
noncomputable def o92 (P : Params) : Obj := { cls := .type "code", data := .fields #[.str (S "ISEOF") 2124, .str (S "ISEOF") 2125, .str (S "/claim/cut.py") 2126, .int 118 0, .int 1 0, .int 0 0, .int 0 0, .int 3 0, .ref 111, .bool true, .int 276 0, .ref 112, .none, .ref 113, .ref 114, .ref 115, .int 2128 0, .int 118 0, .str (S "/claim/cut.py") 2129] }
noncomputable def o93 (P : Params) : Obj := { cls := .type "function", data := .func ({ fnp 76 with globals := 3, pyModule := .str (S "cpy313.token") 1911, code := .ref 116 }) }
noncomputable def o94 (P : Params) : Obj := { cls := .none, data := .func (fnp 78) }
noncomputable def o95 (P : Params) : Obj := { cls := .type "code", data := .fields #[.str (S "_law_operators") 2133, .str (S "_law_operators") 2134, .str (S "/claim/cut.py") 2135, .int 121 0, .int 0 0, .int 0 0, .int 0 0, .int 3 0, .ref 118, .bool true, .int 276 0, .ref 119, .none, .ref 120, .ref 121, .ref 122, .int 2136 0, .int 121 0, .str (S "/claim/cut.py") 2137] }
noncomputable def o96 (P : Params) : Obj := { cls := .type "function", data := .func ({ fnp 78 with globals := 3, pyModule := .str (S "law_rs0129_01") 2131, code := .ref 123 }) }
noncomputable def o97 (P : Params) : Obj := { cls := .type "tuple", data := .seq #[.str (S "text") 2142, .str (S "more") 2143, .str (S "numbers") 2144, .str (S "at") 2145, .str (S "size") 2146] 0 }
noncomputable def o98 (P : Params) : Obj := { cls := .none, data := .func (fnp 79) }
noncomputable def o99 (P : Params) : Obj := { cls := .type "code", data := .fields #[.str (S "_law_read") 2139, .str (S "_law_read") 2140, .str (S "/claim/cut.py") 2141, .int 123 0, .int 2 0, .int 0 0, .int 0 0, .int 3 0, .ref 125, .bool true, .int 276 0, .ref 126, .none, .ref 127, .ref 128, .ref 129, .int 2147 0, .int 123 0, .str (S "/claim/cut.py") 2148] }
noncomputable def o100 (P : Params) : Obj := { cls := .type "function", data := .func ({ fnp 79 with globals := 3, pyModule := .str (S "law_rs0129_01") 2131, code := .ref 130 }) }
noncomputable def o101 (P : Params) : Obj := { cls := .type "tuple", data := .seq #[.str (S "symbols") 2153, .str (S "operators") 2154, .str (S "units") 2155, .str (S "part") 2156, .str (S "at") 2157, .str (S "signs") 2158, .str (S "octet") 2159] 0 }
noncomputable def o102 (P : Params) : Obj := { cls := .none, data := .func (fnp 80) }
noncomputable def o103 (P : Params) : Obj := { cls := .type "code", data := .fields #[.str (S "_law_units") 2150, .str (S "_law_units") 2151, .str (S "/claim/cut.py") 2152, .int 137 0, .int 2 0, .int 0 0, .int 0 0, .int 3 0, .ref 132, .bool true, .int 276 0, .ref 133, .none, .ref 134, .ref 135, .ref 136, .int 2160 0, .int 137 0, .str (S "/claim/cut.py") 2161] }
noncomputable def o104 (P : Params) : Obj := { cls := .type "function", data := .func ({ fnp 80 with globals := 3, pyModule := .str (S "law_rs0129_01") 2131, code := .ref 137 }) }
noncomputable def o105 (P : Params) : Obj := { cls := .none, data := .func (fnp 81) }
noncomputable def o106 (P : Params) : Obj := { cls := .type "code", data := .fields #[.str (S "_law_counted") 2163, .str (S "_law_counted") 2164, .str (S "/claim/cut.py") 2165, .int 154 0, .int 2 0, .int 0 0, .int 0 0, .int 3 0, .ref 139, .bool true, .int 276 0, .ref 140, .none, .none, .none, .ref 141, .int 2166 0, .int 154 0, .str (S "/claim/cut.py") 2167] }
noncomputable def o107 (P : Params) : Obj := { cls := .type "function", data := .func ({ fnp 81 with globals := 3, pyModule := .str (S "law_rs0129_01") 2131, code := .ref 142 }) }
noncomputable def o108 (P : Params) : Obj := { cls := .type "tuple", data := .seq #[.str (S "script") 2172, .str (S "operators") 2173, .str (S "row") 2174, .str (S "pieces") 2175, .str (S "x") 2176, .str (S "signs") 2177, .str (S "last") 2178, .str (S "written") 2179, .str (S "plain") 2180] 0 }
noncomputable def o109 (P : Params) : Obj := { cls := .none, data := .func (fnp 82) }
noncomputable def o110 (P : Params) : Obj := { cls := .type "code", data := .fields #[.str (S "law") 2169, .str (S "law") 2170, .str (S "/claim/cut.py") 2171, .int 177 0, .int 1 0, .int 0 0, .int 0 0, .int 3 0, .ref 144, .bool true, .int 276 0, .ref 145, .none, .ref 146, .ref 147, .ref 148, .int 2181 0, .int 177 0, .str (S "/claim/cut.py") 2182] }
noncomputable def o111 (P : Params) : Obj := { cls := .type "function", data := .func ({ fnp 82 with globals := 3, pyModule := .str (S "law_rs0129_01") 2131, code := .ref 149 }) }
noncomputable def He (P : Params) : Heap := ⟨⟨[o0 P, o1 P, o2 P, o3 P, o4 P, o5 P, o6 P, o7 P, o8 P, o9 P, o10 P, o11 P, o12 P, o13 P, o14 P, o7 P, o15 P, o16 P, o17 P, o18 P, o19 P, o20 P, o21 P, o22 P, o23 P, o24 P, o25 P, o26 P]⟩, {}⟩
noncomputable def H0 (P : Params) : Heap := ⟨⟨[o0 P, o1 P, o2 P, o3 P, o4 P, o5 P, o6 P, o7 P, o8 P, o9 P, o10 P, o27 P, o12 P, o13 P, o14 P, o7 P, o15 P, o16 P, o17 P, o18 P, o19 P, o20 P, o21 P, o22 P, o23 P, o24 P, o25 P, o26 P]⟩, {}⟩
noncomputable def Hp (P : Params) : Heap := ⟨⟨[o0 P, o1 P, o2 P, o3 P, o4 P, o5 P, o6 P, o7 P, o8 P, o9 P, o10 P, o27 P, o12 P, o13 P, o14 P, o7 P, o15 P, o16 P, o17 P, o18 P, o19 P, o20 P, o21 P, o22 P, o23 P, o24 P, o25 P, o26 P, o7 P, o8 P, o28 P, o29 P]⟩, {}⟩
noncomputable def H7 (P : Params) : Heap := ⟨⟨[o0 P, o1 P, o2 P, o53 P, o4 P, o5 P, o6 P, o7 P, o8 P, o9 P, o10 P, o27 P, o12 P, o13 P, o14 P, o7 P, o15 P, o16 P, o17 P, o18 P, o19 P, o20 P, o21 P, o22 P, o23 P, o24 P, o25 P, o26 P, o7 P, o54 P, o28 P, o29 P, o31 P, o6 P, o32 P, o33 P, o34 P, o36 P, o37 P, o38 P, o39 P, o7 P, o40 P, o42 P, o48 P, o42 P, o50 P, o46 P, o7 P, o47 P, o51 P, o7 P, o52 P, o7 P, o8 P, o55 P, o7 P, o56 P, o57 P, o58 P, o7 P, o8 P, o59 P, o7 P, o60 P, o61 P, o62 P, o42 P, o63 P, o64 P, o7 P, o65 P, o66 P, o7 P, o8 P, o67 P, o7 P, o68 P, o69 P, o70 P, o7 P, o8 P, o71 P, o7 P, o72 P, o73 P, o74 P, o7 P, o8 P, o75 P, o7 P, o76 P, o77 P, o78 P, o79 P, o80 P, o81 P, o7 P, o8 P, o82 P, o7 P, o83 P, o84 P, o85 P, o7 P, o8 P, o86 P, o7 P, o87 P, o88 P, o89 P, o7 P, o8 P, o90 P, o7 P, o91 P, o92 P, o93 P, o7 P, o8 P, o7 P, o7 P, o94 P, o95 P, o96 P, o7 P, o8 P, o97 P, o7 P, o98 P, o99 P, o100 P, o7 P, o8 P, o101 P, o7 P, o102 P, o103 P, o104 P, o7 P, o8 P, o105 P, o106 P, o107 P, o7 P, o8 P, o108 P, o7 P, o109 P, o110 P, o111 P]⟩, {}⟩
noncomputable def tHp (P : Params) : BT := (.node (o0 P) (.node (o1 P) (.node (o3 P) (.node (o7 P) (.node (o7 P) (.node (o29 P) .nil .nil) .nil) (.node (o22 P) .nil .nil)) (.node (o27 P) (.node (o18 P) .nil .nil) (.node (o26 P) .nil .nil))) (.node (o5 P) (.node (o9 P) (.node (o16 P) .nil .nil) (.node (o24 P) .nil .nil)) (.node (o13 P) (.node (o20 P) .nil .nil) (.node (o8 P) .nil .nil)))) (.node (o2 P) (.node (o4 P) (.node (o8 P) (.node (o15 P) .nil .nil) (.node (o23 P) .nil .nil)) (.node (o12 P) (.node (o19 P) .nil .nil) (.node (o7 P) .nil .nil))) (.node (o6 P) (.node (o10 P) (.node (o17 P) .nil .nil) (.node (o25 P) .nil .nil)) (.node (o14 P) (.node (o21 P) .nil .nil) (.node (o28 P) .nil .nil)))))
noncomputable def sHp (w : World) (os : OsState) : SharedT := { tree := tHp w.params, n := 32, life := {}, gens := #[], drawn := {}, toks := 282, os := os }
noncomputable def tH1 (P : Params) : BT := (.node (o0 P) (.node (o1 P) (.node (o30 P) (.node (o7 P) (.node (o7 P) (.node (o29 P) .nil .nil) .nil) (.node (o22 P) .nil .nil)) (.node (o27 P) (.node (o18 P) (.node (o33 P) .nil .nil) .nil) (.node (o26 P) .nil .nil))) (.node (o5 P) (.node (o9 P) (.node (o16 P) (.node (o6 P) .nil .nil) .nil) (.node (o24 P) .nil .nil)) (.node (o13 P) (.node (o20 P) .nil .nil) (.node (o8 P) .nil .nil)))) (.node (o2 P) (.node (o4 P) (.node (o8 P) (.node (o15 P) (.node (o31 P) .nil .nil) .nil) (.node (o23 P) .nil .nil)) (.node (o12 P) (.node (o19 P) (.node (o34 P) .nil .nil) .nil) (.node (o7 P) .nil .nil))) (.node (o6 P) (.node (o10 P) (.node (o17 P) (.node (o32 P) .nil .nil) .nil) (.node (o25 P) .nil .nil)) (.node (o14 P) (.node (o21 P) .nil .nil) (.node (o28 P) .nil .nil)))))
noncomputable def sH1 (w : World) (os : OsState) : SharedT := { tree := tH1 w.params, n := 37, life := {}, gens := #[], drawn := {}, toks := 319, os := os }
noncomputable def tH2 (P : Params) : BT := (.node (o0 P) (.node (o1 P) (.node (o35 P) (.node (o7 P) (.node (o7 P) (.node (o29 P) .nil .nil) .nil) (.node (o22 P) (.node (o38 P) .nil .nil) .nil)) (.node (o27 P) (.node (o18 P) (.node (o33 P) .nil .nil) .nil) (.node (o26 P) .nil .nil))) (.node (o5 P) (.node (o9 P) (.node (o16 P) (.node (o6 P) .nil .nil) .nil) (.node (o24 P) (.node (o7 P) .nil .nil) .nil)) (.node (o13 P) (.node (o20 P) (.node (o36 P) .nil .nil) .nil) (.node (o8 P) .nil .nil)))) (.node (o2 P) (.node (o4 P) (.node (o8 P) (.node (o15 P) (.node (o31 P) .nil .nil) .nil) (.node (o23 P) (.node (o39 P) .nil .nil) .nil)) (.node (o12 P) (.node (o19 P) (.node (o34 P) .nil .nil) .nil) (.node (o7 P) .nil .nil))) (.node (o6 P) (.node (o10 P) (.node (o17 P) (.node (o32 P) .nil .nil) .nil) (.node (o25 P) (.node (o40 P) .nil .nil) .nil)) (.node (o14 P) (.node (o21 P) (.node (o37 P) .nil .nil) .nil) (.node (o28 P) .nil .nil)))))
noncomputable def sH2 (w : World) (os : OsState) : SharedT := { tree := tH2 w.params, n := 43, life := {}, gens := #[], drawn := {}, toks := 1347, os := os }
noncomputable def tH3 (P : Params) : BT := (.node (o0 P) (.node (o1 P) (.node (o41 P) (.node (o7 P) (.node (o7 P) (.node (o29 P) .nil .nil) .nil) (.node (o22 P) (.node (o38 P) .nil .nil) .nil)) (.node (o27 P) (.node (o18 P) (.node (o33 P) .nil .nil) .nil) (.node (o26 P) (.node (o42 P) .nil .nil) .nil))) (.node (o5 P) (.node (o9 P) (.node (o16 P) (.node (o6 P) .nil .nil) .nil) (.node (o24 P) (.node (o7 P) .nil .nil) .nil)) (.node (o13 P) (.node (o20 P) (.node (o36 P) .nil .nil) .nil) (.node (o8 P) (.node (o42 P) .nil .nil) .nil)))) (.node (o2 P) (.node (o4 P) (.node (o8 P) (.node (o15 P) (.node (o31 P) .nil .nil) .nil) (.node (o23 P) (.node (o39 P) .nil .nil) .nil)) (.node (o12 P) (.node (o19 P) (.node (o34 P) .nil .nil) .nil) (.node (o7 P) (.node (o43 P) .nil .nil) .nil))) (.node (o6 P) (.node (o10 P) (.node (o17 P) (.node (o32 P) .nil .nil) .nil) (.node (o25 P) (.node (o40 P) .nil .nil) .nil)) (.node (o14 P) (.node (o21 P) (.node (o37 P) .nil .nil) .nil) (.node (o28 P) (.node (o43 P) .nil .nil) .nil)))))
noncomputable def sH3 (w : World) (os : OsState) : SharedT := { tree := tH3 w.params, n := 47, life := {}, gens := #[], drawn := {}, toks := 1364, os := os }
noncomputable def tH4 (P : Params) : BT := (.node (o0 P) (.node (o1 P) (.node (o44 P) (.node (o7 P) (.node (o7 P) (.node (o29 P) .nil .nil) (.node (o46 P) .nil .nil)) (.node (o22 P) (.node (o38 P) .nil .nil) .nil)) (.node (o27 P) (.node (o18 P) (.node (o33 P) .nil .nil) .nil) (.node (o26 P) (.node (o42 P) .nil .nil) .nil))) (.node (o5 P) (.node (o9 P) (.node (o16 P) (.node (o6 P) .nil .nil) (.node (o47 P) .nil .nil)) (.node (o24 P) (.node (o7 P) .nil .nil) .nil)) (.node (o13 P) (.node (o20 P) (.node (o36 P) .nil .nil) .nil) (.node (o8 P) (.node (o42 P) .nil .nil) .nil)))) (.node (o2 P) (.node (o4 P) (.node (o8 P) (.node (o15 P) (.node (o31 P) .nil .nil) (.node (o7 P) .nil .nil)) (.node (o23 P) (.node (o39 P) .nil .nil) .nil)) (.node (o12 P) (.node (o19 P) (.node (o34 P) .nil .nil) .nil) (.node (o7 P) (.node (o45 P) .nil .nil) .nil))) (.node (o6 P) (.node (o10 P) (.node (o17 P) (.node (o32 P) .nil .nil) .nil) (.node (o25 P) (.node (o40 P) .nil .nil) .nil)) (.node (o14 P) (.node (o21 P) (.node (o37 P) .nil .nil) .nil) (.node (o28 P) (.node (o43 P) .nil .nil) .nil)))))
noncomputable def sH4 (w : World) (os : OsState) : SharedT := { tree := tH4 w.params, n := 50, life := {}, gens := #[], drawn := {}, toks := 1572, os := os }
noncomputable def tH5 (P : Params) : BT := (.node (o0 P) (.node (o1 P) (.node (o44 P) (.node (o7 P) (.node (o7 P) (.node (o29 P) .nil .nil) (.node (o46 P) .nil .nil)) (.node (o22 P) (.node (o38 P) .nil .nil) .nil)) (.node (o27 P) (.node (o18 P) (.node (o33 P) .nil .nil) .nil) (.node (o26 P) (.node (o42 P) .nil .nil) .nil))) (.node (o5 P) (.node (o9 P) (.node (o16 P) (.node (o6 P) .nil .nil) (.node (o47 P) .nil .nil)) (.node (o24 P) (.node (o7 P) .nil .nil) .nil)) (.node (o13 P) (.node (o20 P) (.node (o36 P) .nil .nil) .nil) (.node (o8 P) (.node (o42 P) .nil .nil) .nil)))) (.node (o2 P) (.node (o4 P) (.node (o8 P) (.node (o15 P) (.node (o31 P) .nil .nil) (.node (o7 P) .nil .nil)) (.node (o23 P) (.node (o39 P) .nil .nil) .nil)) (.node (o12 P) (.node (o19 P) (.node (o34 P) .nil .nil) .nil) (.node (o7 P) (.node (o48 P) .nil .nil) .nil))) (.node (o6 P) (.node (o10 P) (.node (o17 P) (.node (o32 P) .nil .nil) .nil) (.node (o25 P) (.node (o40 P) .nil .nil) .nil)) (.node (o14 P) (.node (o21 P) (.node (o37 P) .nil .nil) .nil) (.node (o28 P) (.node (o43 P) .nil .nil) .nil)))))
noncomputable def sH5 (w : World) (os : OsState) : SharedT := { tree := tH5 w.params, n := 50, life := {}, gens := #[], drawn := {}, toks := 1575, os := os }
noncomputable def tH6 (P : Params) : BT := (.node (o0 P) (.node (o1 P) (.node (o49 P) (.node (o7 P) (.node (o7 P) (.node (o29 P) .nil .nil) (.node (o46 P) .nil .nil)) (.node (o22 P) (.node (o38 P) .nil .nil) .nil)) (.node (o27 P) (.node (o18 P) (.node (o33 P) .nil .nil) (.node (o7 P) .nil .nil)) (.node (o26 P) (.node (o42 P) .nil .nil) .nil))) (.node (o5 P) (.node (o9 P) (.node (o16 P) (.node (o6 P) .nil .nil) (.node (o47 P) .nil .nil)) (.node (o24 P) (.node (o7 P) .nil .nil) .nil)) (.node (o13 P) (.node (o20 P) (.node (o36 P) .nil .nil) .nil) (.node (o8 P) (.node (o42 P) .nil .nil) .nil)))) (.node (o2 P) (.node (o4 P) (.node (o8 P) (.node (o15 P) (.node (o31 P) .nil .nil) (.node (o7 P) .nil .nil)) (.node (o23 P) (.node (o39 P) .nil .nil) .nil)) (.node (o12 P) (.node (o19 P) (.node (o34 P) .nil .nil) (.node (o52 P) .nil .nil)) (.node (o7 P) (.node (o48 P) .nil .nil) .nil))) (.node (o6 P) (.node (o10 P) (.node (o17 P) (.node (o32 P) .nil .nil) (.node (o51 P) .nil .nil)) (.node (o25 P) (.node (o40 P) .nil .nil) .nil)) (.node (o14 P) (.node (o21 P) (.node (o37 P) .nil .nil) .nil) (.node (o28 P) (.node (o50 P) .nil .nil) .nil)))))
noncomputable def sH6 (w : World) (os : OsState) : SharedT := { tree := tH6 w.params, n := 53, life := {}, gens := #[], drawn := {}, toks := 1861, os := os }
noncomputable def tH7 (P : Params) : BT := (.node (o0 P) (.node (o1 P) (.node (o53 P) (.node (o7 P) (.node (o7 P) (.node (o29 P) (.node (o7 P) (.node (o97 P) .nil .nil) .nil) (.node (o80 P) .nil .nil)) (.node (o46 P) (.node (o70 P) (.node (o107 P) .nil .nil) .nil) (.node (o7 P) .nil .nil))) (.node (o22 P) (.node (o38 P) (.node (o65 P) (.node (o7 P) .nil .nil) .nil) (.node (o85 P) .nil .nil)) (.node (o55 P) (.node (o7 P) .nil .nil) (.node (o8 P) .nil .nil)))) (.node (o27 P) (.node (o18 P) (.node (o33 P) (.node (o42 P) (.node (o100 P) .nil .nil) .nil) (.node (o82 P) .nil .nil)) (.node (o7 P) (.node (o7 P) (.node (o7 P) .nil .nil) .nil) (.node (o91 P) .nil .nil))) (.node (o26 P) (.node (o42 P) (.node (o67 P) (.node (o7 P) .nil .nil) .nil) (.node (o7 P) .nil .nil)) (.node (o58 P) (.node (o76 P) .nil .nil) (.node (o95 P) .nil .nil))))) (.node (o5 P) (.node (o9 P) (.node (o16 P) (.node (o6 P) (.node (o61 P) (.node (o98 P) .nil .nil) .nil) (.node (o7 P) .nil .nil)) (.node (o47 P) (.node (o8 P) (.node (o8 P) .nil .nil) .nil) (.node (o90 P) .nil .nil))) (.node (o24 P) (.node (o7 P) (.node (o7 P) (.node (o103 P) .nil .nil) .nil) (.node (o8 P) .nil .nil)) (.node (o56 P) (.node (o75 P) .nil .nil) (.node (o7 P) .nil .nil)))) (.node (o13 P) (.node (o20 P) (.node (o36 P) (.node (o64 P) (.node (o8 P) .nil .nil) .nil) (.node (o83 P) .nil .nil)) (.node (o7 P) (.node (o73 P) (.node (o110 P) .nil .nil) .nil) (.node (o93 P) .nil .nil))) (.node (o54 P) (.node (o42 P) (.node (o68 P) (.node (o105 P) .nil .nil) .nil) (.node (o88 P) .nil .nil)) (.node (o8 P) (.node (o78 P) .nil .nil) (.node (o7 P) .nil .nil)))))) (.node (o2 P) (.node (o4 P) (.node (o8 P) (.node (o15 P) (.node (o31 P) (.node (o60 P) (.node (o7 P) .nil .nil) .nil) (.node (o81 P) .nil .nil)) (.node (o7 P) (.node (o7 P) (.node (o7 P) .nil .nil) .nil) (.node (o8 P) .nil .nil))) (.node (o23 P) (.node (o39 P) (.node (o66 P) (.node (o102 P) .nil .nil) .nil) (.node (o7 P) .nil .nil)) (.node (o7 P) (.node (o8 P) .nil .nil) (.node (o7 P) .nil .nil)))) (.node (o12 P) (.node (o19 P) (.node (o34 P) (.node (o63 P) (.node (o7 P) .nil .nil) .nil) (.node (o7 P) .nil .nil)) (.node (o52 P) (.node (o72 P) (.node (o109 P) .nil .nil) .nil) (.node (o92 P) .nil .nil))) (.node (o7 P) (.node (o48 P) (.node (o7 P) (.node (o8 P) .nil .nil) .nil) (.node (o87 P) .nil .nil)) (.node (o7 P) (.node (o77 P) .nil .nil) (.node (o96 P) .nil .nil))))) (.node (o6 P) (.node (o10 P) (.node (o17 P) (.node (o32 P) (.node (o62 P) (.node (o99 P) .nil .nil) .nil) (.node (o8 P) .nil .nil)) (.node (o51 P) (.node (o71 P) (.node (o108 P) .nil .nil) .nil) (.node (o7 P) .nil .nil))) (.node (o25 P) (.node (o40 P) (.node (o8 P) (.node (o104 P) .nil .nil) .nil) (.node (o86 P) .nil .nil)) (.node (o57 P) (.node (o7 P) .nil .nil) (.node (o94 P) .nil .nil)))) (.node (o14 P) (.node (o21 P) (.node (o37 P) (.node (o7 P) (.node (o101 P) .nil .nil) .nil) (.node (o84 P) .nil .nil)) (.node (o8 P) (.node (o74 P) (.node (o111 P) .nil .nil) .nil) (.node (o7 P) .nil .nil))) (.node (o28 P) (.node (o50 P) (.node (o69 P) (.node (o106 P) .nil .nil) .nil) (.node (o89 P) .nil .nil)) (.node (o59 P) (.node (o79 P) .nil .nil) (.node (o8 P) .nil .nil)))))))
noncomputable def sH7 (w : World) (os : OsState) : SharedT := { tree := tH7 w.params, n := 151, life := {}, gens := #[], drawn := {}, toks := 2184, os := os }
noncomputable def itA (i j : Nat) : Obj := { cls := .type "range_iterator", data := .fields #[.int i 0, .int j 0, .int 1 0] }
noncomputable def liA (i : Nat) : Obj := { cls := .type "list", data := .seq ⟨qm.take i⟩ i }
noncomputable def diA (P : Params) (i t : Nat) : Obj := { cls := .type "dict", data := .dict #[en P "c" 323 (.int i t)] 1 }
noncomputable def tA0 (P : Params) : BT := (.node (o0 P) (.node (o1 P) (.node (o30 P) (.node (o7 P) (.node (o7 P) (.node (o29 P) .nil .nil) .nil) (.node (o22 P) (.node (liA 0) .nil .nil) .nil)) (.node (o27 P) (.node (o18 P) (.node (o33 P) .nil .nil) .nil) (.node (o26 P) .nil .nil))) (.node (o5 P) (.node (o9 P) (.node (o16 P) (.node (o6 P) .nil .nil) .nil) (.node (o24 P) .nil .nil)) (.node (o13 P) (.node (o20 P) (.node (o36 P) .nil .nil) .nil) (.node (o8 P) .nil .nil)))) (.node (o2 P) (.node (o4 P) (.node (o8 P) (.node (o15 P) (.node (o31 P) .nil .nil) .nil) (.node (o23 P) (.node (o6 P) .nil .nil) .nil)) (.node (o12 P) (.node (o19 P) (.node (o34 P) .nil .nil) .nil) (.node (o7 P) .nil .nil))) (.node (o6 P) (.node (o10 P) (.node (o17 P) (.node (o32 P) .nil .nil) .nil) (.node (o25 P) .nil .nil)) (.node (o14 P) (.node (o21 P) (.node (itA 0 256) .nil .nil) .nil) (.node (o28 P) .nil .nil)))))
noncomputable def sA0 (w : World) (os : OsState) : SharedT := { tree := tA0 w.params, n := 41, life := {}, gens := #[], drawn := {}, toks := 322, os := os }
noncomputable def tA64 (P : Params) : BT := (.node (o0 P) (.node (o1 P) (.node (o30 P) (.node (o7 P) (.node (o7 P) (.node (o29 P) .nil .nil) .nil) (.node (o22 P) (.node (liA 64) .nil .nil) .nil)) (.node (o27 P) (.node (o18 P) (.node (o33 P) .nil .nil) .nil) (.node (o26 P) .nil .nil))) (.node (o5 P) (.node (o9 P) (.node (o16 P) (.node (o6 P) .nil .nil) .nil) (.node (o24 P) .nil .nil)) (.node (o13 P) (.node (o20 P) (.node (o36 P) .nil .nil) .nil) (.node (o8 P) .nil .nil)))) (.node (o2 P) (.node (o4 P) (.node (o8 P) (.node (o15 P) (.node (o31 P) .nil .nil) .nil) (.node (o23 P) (.node (diA P 63 574) .nil .nil) .nil)) (.node (o12 P) (.node (o19 P) (.node (o34 P) .nil .nil) .nil) (.node (o7 P) .nil .nil))) (.node (o6 P) (.node (o10 P) (.node (o17 P) (.node (o32 P) .nil .nil) .nil) (.node (o25 P) .nil .nil)) (.node (o14 P) (.node (o21 P) (.node (itA 64 192) .nil .nil) .nil) (.node (o28 P) .nil .nil)))))
noncomputable def sA64 (w : World) (os : OsState) : SharedT := { tree := tA64 w.params, n := 41, life := {}, gens := #[], drawn := {}, toks := 578, os := os }
noncomputable def tA128 (P : Params) : BT := (.node (o0 P) (.node (o1 P) (.node (o30 P) (.node (o7 P) (.node (o7 P) (.node (o29 P) .nil .nil) .nil) (.node (o22 P) (.node (liA 128) .nil .nil) .nil)) (.node (o27 P) (.node (o18 P) (.node (o33 P) .nil .nil) .nil) (.node (o26 P) .nil .nil))) (.node (o5 P) (.node (o9 P) (.node (o16 P) (.node (o6 P) .nil .nil) .nil) (.node (o24 P) .nil .nil)) (.node (o13 P) (.node (o20 P) (.node (o36 P) .nil .nil) .nil) (.node (o8 P) .nil .nil)))) (.node (o2 P) (.node (o4 P) (.node (o8 P) (.node (o15 P) (.node (o31 P) .nil .nil) .nil) (.node (o23 P) (.node (diA P 127 830) .nil .nil) .nil)) (.node (o12 P) (.node (o19 P) (.node (o34 P) .nil .nil) .nil) (.node (o7 P) .nil .nil))) (.node (o6 P) (.node (o10 P) (.node (o17 P) (.node (o32 P) .nil .nil) .nil) (.node (o25 P) .nil .nil)) (.node (o14 P) (.node (o21 P) (.node (itA 128 128) .nil .nil) .nil) (.node (o28 P) .nil .nil)))))
noncomputable def sA128 (w : World) (os : OsState) : SharedT := { tree := tA128 w.params, n := 41, life := {}, gens := #[], drawn := {}, toks := 834, os := os }
noncomputable def tA192 (P : Params) : BT := (.node (o0 P) (.node (o1 P) (.node (o30 P) (.node (o7 P) (.node (o7 P) (.node (o29 P) .nil .nil) .nil) (.node (o22 P) (.node (liA 192) .nil .nil) .nil)) (.node (o27 P) (.node (o18 P) (.node (o33 P) .nil .nil) .nil) (.node (o26 P) .nil .nil))) (.node (o5 P) (.node (o9 P) (.node (o16 P) (.node (o6 P) .nil .nil) .nil) (.node (o24 P) .nil .nil)) (.node (o13 P) (.node (o20 P) (.node (o36 P) .nil .nil) .nil) (.node (o8 P) .nil .nil)))) (.node (o2 P) (.node (o4 P) (.node (o8 P) (.node (o15 P) (.node (o31 P) .nil .nil) .nil) (.node (o23 P) (.node (diA P 191 1086) .nil .nil) .nil)) (.node (o12 P) (.node (o19 P) (.node (o34 P) .nil .nil) .nil) (.node (o7 P) .nil .nil))) (.node (o6 P) (.node (o10 P) (.node (o17 P) (.node (o32 P) .nil .nil) .nil) (.node (o25 P) .nil .nil)) (.node (o14 P) (.node (o21 P) (.node (itA 192 64) .nil .nil) .nil) (.node (o28 P) .nil .nil)))))
noncomputable def sA192 (w : World) (os : OsState) : SharedT := { tree := tA192 w.params, n := 41, life := {}, gens := #[], drawn := {}, toks := 1090, os := os }
noncomputable def tA256 (P : Params) : BT := (.node (o0 P) (.node (o1 P) (.node (o30 P) (.node (o7 P) (.node (o7 P) (.node (o29 P) .nil .nil) .nil) (.node (o22 P) (.node (liA 256) .nil .nil) .nil)) (.node (o27 P) (.node (o18 P) (.node (o33 P) .nil .nil) .nil) (.node (o26 P) .nil .nil))) (.node (o5 P) (.node (o9 P) (.node (o16 P) (.node (o6 P) .nil .nil) .nil) (.node (o24 P) .nil .nil)) (.node (o13 P) (.node (o20 P) (.node (o36 P) .nil .nil) .nil) (.node (o8 P) .nil .nil)))) (.node (o2 P) (.node (o4 P) (.node (o8 P) (.node (o15 P) (.node (o31 P) .nil .nil) .nil) (.node (o23 P) (.node (diA P 255 1342) .nil .nil) .nil)) (.node (o12 P) (.node (o19 P) (.node (o34 P) .nil .nil) .nil) (.node (o7 P) .nil .nil))) (.node (o6 P) (.node (o10 P) (.node (o17 P) (.node (o32 P) .nil .nil) .nil) (.node (o25 P) .nil .nil)) (.node (o14 P) (.node (o21 P) (.node (itA 256 0) .nil .nil) .nil) (.node (o28 P) .nil .nil)))))
noncomputable def sA256 (w : World) (os : OsState) : SharedT := { tree := tA256 w.params, n := 41, life := {}, gens := #[], drawn := {}, toks := 1346, os := os }
noncomputable def q0 : Pos := ⟨0, 0, 0, 0⟩
noncomputable def envE : Env := { scope := pE.main.scope, locals := mainNs, globals := mainNs, cells := [], code := .ref 30, frame := some 31 }
noncomputable def cE : Code := .body bE envE
noncomputable def B0 : List Frame := [topFrame q0]
noncomputable def ann : Option Value := some (.ref 6)
noncomputable def sts (i n : Nat) : List Stmt := (bE.drop i).take n
noncomputable abbrev twRun := PySem.W.Fast.tw10110043849684766642
noncomputable abbrev twGo := PySem.W.Fast.tw10295753902157049106
noncomputable abbrev twTb := PySem.W.Fast.tw14364793385576792824
noncomputable abbrev rowG := "special-get-raises"
noncomputable abbrev rowC := "comprehension-iter-twice"
noncomputable def pos1 : Pos := ⟨3, 0, 3, 2⟩
noncomputable def pos2 : Pos := ⟨4, 0, 4, 11⟩
noncomputable def pos3 : Pos := ⟨12, 0, 12, 8⟩
noncomputable def pos4 : Pos := ⟨13, 9, 13, 74⟩
noncomputable def pos5 : Pos := ⟨15, 0, 15, 28⟩
noncomputable def pos6 : Pos := ⟨16, 9, 16, 110⟩
noncomputable def pos7 : Pos := ⟨177, 0, 196, 64⟩
end Mine
end
section -- H_open
open PySem PySem.W PyProof.Rows
set_option maxRecDepth 1000000
set_option maxHeartbeats 0
set_option linter.unusedVariables false
namespace Mine
theorem open1 (w : World) : PySem.W.Fast.tw10274390034422433532 twTb (opening pE) w 799 (start (opening pE)).1 (start (opening pE)).2 = some ⟨He w.params, #[], {}, 276, (start (opening pE)).1.os⟩ := by kernel_rfl
theorem open2 (w : World) : importEnds treeTable (opening pE) w 799 (start (opening pE)).1 (start (opening pE)).2 = some ⟨He w.params, #[], {}, 276, (start (opening pE)).1.os⟩ := by
  rw [PySem.W.Fast.te10274390034422433532, PySem.W.Fast.te14364793385576792824]; exact open1 w
theorem fence1 (w : World) : (fun os => (fenceModules? pE ⟨He w.params, #[], {}, 276, os⟩).map (fun s => (s.heap, s.gens, s.drawn, s.toks))) = fun _ => some (H0 w.params, #[], {}, 276) := by kernel_rfl
theorem size1 (w : World) : ((H0 w.params).isNs mainGlobals && (#[] : Array GenState).size == 0, (H0 w.params).objs.size, (H0 w.params).nsMap mainGlobals "__annotations__") = (true, 28, ann) := by kernel_rfl
theorem pre1 (w : World) (os : OsState) : PySem.W.Fast.tw15667345088766844465 twTb pE w 28 ann 12 ⟨H0 w.params, #[], {}, 276, os⟩ (topStub pE) = some (⟨Hp w.params, #[], {}, 282, os⟩, ⟨PySem.W.Fast.tw11892475500146522536 twTb cE, cE, q0, B0⟩) := by kernel_rfl
theorem block1 (w : World) (os : OsState) : PySem.W.Fast.tw14374325043358763698 twTb pE w 28 ann 1 1 ⟨Hp w.params, #[], {}, 282, os⟩ (blockOf bE envE cE q0 B0) = some (.next, (sHp w os).abs, cE, q0) := by kernel_rfl
end Mine
end
section -- H_p1
open PySem PySem.W PyProof.Rows
set_option maxRecDepth 1000000
set_option maxHeartbeats 0
set_option linter.unusedVariables false
namespace Mine
theorem p1 (w : World) (os : OsState) : twRun twTb pE w 28 ann 1 88 (sHp w os) (piecesOf (sts 0 2) envE cE q0 B0) = some (.next, sH1 w os, cE, pos1) := by kernel_rfl
end Mine
end
section -- H_p2
open PySem PySem.W PyProof.Rows
set_option maxRecDepth 1000000
set_option maxHeartbeats 0
set_option linter.unusedVariables false
namespace Mine
noncomputable def preA (w : World) (os : OsState) (n : Nat) := twGo twTb pE w 28 ann 1 n (sH1 w os) (piecesOf (sts 2 1) envE cE pos1 B0)
noncomputable def tA (w : World) (os : OsState) : Thread := match preA ((w.withFollow rowG false).withFollow rowC true) os 43 with
  | some (_, t) => t
  | none => ⟨.pure (.done .next), cE, q0, []⟩
theorem a_ft (w : World) (os : OsState) : preA ((w.withFollow rowG false).withFollow rowC true) os 43 = some (sA0 w os, tA w os) := by kernel_rfl
theorem a_tt (w : World) (os : OsState) : preA ((w.withFollow rowG true).withFollow rowC true) os 43 = some (sA0 w os, tA w os) := by kernel_rfl
theorem a_ff (w : World) (os : OsState) : preA ((w.withFollow rowG false).withFollow rowC false) os 53 = some (sA0 w os, tA w os) := by kernel_rfl
theorem a_tf (w : World) (os : OsState) : preA ((w.withFollow rowG true).withFollow rowC false) os 53 = some (sA0 w os, tA w os) := by kernel_rfl
theorem a1 (w : World) (b1 b2 : Bool) (os : OsState) : twGo twTb pE ((w.withFollow rowG b1).withFollow rowC b2) 28 ann 1 2368 (sA0 w os) (tA w os) = some (sA64 w os, tA w os) := by kernel_rfl
end Mine
end
section -- H_p2b
open PySem PySem.W PyProof.Rows
set_option maxRecDepth 1000000
set_option maxHeartbeats 0
set_option linter.unusedVariables false
namespace Mine
theorem a2 (w : World) (b1 b2 : Bool) (os : OsState) : twGo twTb pE ((w.withFollow rowG b1).withFollow rowC b2) 28 ann 1 2368 (sA64 w os) (tA w os) = some (sA128 w os, tA w os) := by kernel_rfl
theorem a3 (w : World) (b1 b2 : Bool) (os : OsState) : twGo twTb pE ((w.withFollow rowG b1).withFollow rowC b2) 28 ann 1 2368 (sA128 w os) (tA w os) = some (sA192 w os, tA w os) := by kernel_rfl
theorem a4 (w : World) (b1 b2 : Bool) (os : OsState) : twGo twTb pE ((w.withFollow rowG b1).withFollow rowC b2) 28 ann 1 2368 (sA192 w os) (tA w os) = some (sA256 w os, tA w os) := by kernel_rfl
theorem a5 (w : World) (b1 b2 : Bool) (os : OsState) : twRun twTb pE ((w.withFollow rowG b1).withFollow rowC b2) 28 ann 1 27 (sA256 w os) (tA w os) = some (.next, sH2 w os, cE, pos2) := by kernel_rfl
end Mine
end
section -- H_p3
open PySem PySem.W PyProof.Rows
set_option maxRecDepth 1000000
set_option maxHeartbeats 0
set_option linter.unusedVariables false
namespace Mine
theorem p3 (w : World) (os : OsState) : twRun twTb pE w 28 ann 1 133 (sH2 w os) (piecesOf (sts 3 8) envE cE pos2 B0) = some (.next, sH3 w os, cE, pos3) := by kernel_rfl
theorem p5 (w : World) (os : OsState) : twRun twTb pE w 28 ann 1 25 (sH4 w os) (piecesOf (sts 12 1) envE cE pos4 B0) = some (.next, sH5 w os, cE, pos5) := by kernel_rfl
end Mine
end
section -- H_p4
open PySem PySem.W PyProof.Rows
set_option maxRecDepth 1000000
set_option maxHeartbeats 0
set_option linter.unusedVariables false
namespace Mine
theorem p4_f (w : World) (os : OsState) : twRun twTb pE (w.withFollow rowG false) 28 ann 1 3077 (sH3 (w.withFollow rowG false) os) (piecesOf (sts 11 1) envE cE pos3 B0) = some (.next, sH4 (w.withFollow rowG false) os, cE, pos4) := by kernel_rfl
theorem p4_t (w : World) (os : OsState) : twRun twTb pE (w.withFollow rowG true) 28 ann 1 3077 (sH3 (w.withFollow rowG true) os) (piecesOf (sts 11 1) envE cE pos3 B0) = some (.next, sH4 (w.withFollow rowG true) os, cE, pos4) := by kernel_rfl
end Mine
end
section -- H_p6
open PySem PySem.W PyProof.Rows
set_option maxRecDepth 1000000
set_option maxHeartbeats 0
set_option linter.unusedVariables false
namespace Mine
theorem p6_f (w : World) (os : OsState) : twRun twTb pE (w.withFollow rowG false) 28 ann 1 4303 (sH5 (w.withFollow rowG false) os) (piecesOf (sts 13 1) envE cE pos5 B0) = some (.next, sH6 (w.withFollow rowG false) os, cE, pos6) := by kernel_rfl
theorem p6_t (w : World) (os : OsState) : twRun twTb pE (w.withFollow rowG true) 28 ann 1 4303 (sH5 (w.withFollow rowG true) os) (piecesOf (sts 13 1) envE cE pos5 B0) = some (.next, sH6 (w.withFollow rowG true) os, cE, pos6) := by kernel_rfl
end Mine
end
section -- H_p7
open PySem PySem.W PyProof.Rows
set_option maxRecDepth 1000000
set_option maxHeartbeats 0
set_option linter.unusedVariables false
namespace Mine
noncomputable def o112 (P : Params) : Obj := { cls := .type "dict", data := .dict #[en P "__name__" 165 (.str (S "cpy313.email.quoprimime") 1362), en P "__doc__" 166 (.none), en P "__package__" 167 (.none), en P "__loader__" 168 (.builtin "__main__.__loader__#opaque"), en P "__spec__" 169 (.none), en P "__annotations__" 170 (.ref 6), en P "__builtins__" 171 (.ref 4), en P "__file__" 173 (.str (S "/claim/cut.py") 172), en P "__cached__" 174 (.none), en P "_sre" 275 (.ref 12), en P "_twin_re_1" 316 (.ref 36), en P "NL" 318 (.str (Str.mk #[10]) 317), en P "_QUOPRI_MAP" 1346 (.ref 39), en P "_QUOPRI_HEADER_MAP" 1347 (.ref 44), en P "_QUOPRI_BODY_MAP" 1348 (.ref 46), en P "ascii_lowercase" 1350 (.str (S "abcdefghijklmnopqrstuvwxyz") 1349), en P "ascii_uppercase" 1352 (.str (S "ABCDEFGHIJKLMNOPQRSTUVWXYZ") 1351), en P "ascii_letters" 1354 (.str (S "abcdefghijklmnopqrstuvwxyzABCDEFGHIJKLMNOPQRSTUVWXYZ") 1353), en P "digits" 1356 (.str (S "0123456789") 1355), en P "hexdigits" 1361 (.str (S "0123456789abcdefABCDEF") 1360), en P "c" 1372 (.int 9 1858), en P "unquote" 1867 (.ref 59), en P "quote" 1874 (.ref 66), en P "_QUOPRI_BODY_ENCODE_MAP" 1875 (.ref 68)] 24 }
noncomputable def o113 (P : Params) : Obj := { cls := .none, data := .fields #[.int 18 0, .int 0 0, .ref 58, .int 20 0, .int 0 0, .ref 65] }
noncomputable def o114 (P : Params) : Obj := { cls := .type "dict", data := .dict #[en P "__name__" 165 (.str (S "cpy313.email.quoprimime") 1362), en P "__doc__" 166 (.none), en P "__package__" 167 (.none), en P "__loader__" 168 (.builtin "__main__.__loader__#opaque"), en P "__spec__" 169 (.none), en P "__annotations__" 170 (.ref 6), en P "__builtins__" 171 (.ref 4), en P "__file__" 173 (.str (S "/claim/cut.py") 172), en P "__cached__" 174 (.none), en P "_sre" 275 (.ref 12), en P "_twin_re_1" 316 (.ref 36), en P "NL" 318 (.str (Str.mk #[10]) 317), en P "_QUOPRI_MAP" 1346 (.ref 39), en P "_QUOPRI_HEADER_MAP" 1347 (.ref 44), en P "_QUOPRI_BODY_MAP" 1348 (.ref 46), en P "ascii_lowercase" 1350 (.str (S "abcdefghijklmnopqrstuvwxyz") 1349), en P "ascii_uppercase" 1352 (.str (S "ABCDEFGHIJKLMNOPQRSTUVWXYZ") 1351), en P "ascii_letters" 1354 (.str (S "abcdefghijklmnopqrstuvwxyzABCDEFGHIJKLMNOPQRSTUVWXYZ") 1353), en P "digits" 1356 (.str (S "0123456789") 1355), en P "hexdigits" 1361 (.str (S "0123456789abcdefABCDEF") 1360), en P "c" 1372 (.int 10 1880), en P "unquote" 1867 (.ref 59), en P "quote" 1874 (.ref 66), en P "_QUOPRI_BODY_ENCODE_MAP" 1875 (.ref 68)] 24 }
noncomputable def o115 (P : Params) : Obj := { cls := .type "dict", data := .dict #[en P "__name__" 165 (.str (S "cpy313.token") 1911), en P "__doc__" 166 (.none), en P "__package__" 167 (.none), en P "__loader__" 168 (.builtin "__main__.__loader__#opaque"), en P "__spec__" 169 (.none), en P "__annotations__" 170 (.ref 6), en P "__builtins__" 171 (.ref 4), en P "__file__" 173 (.str (S "/claim/cut.py") 172), en P "__cached__" 174 (.none), en P "_sre" 275 (.ref 12), en P "_twin_re_1" 316 (.ref 36), en P "NL" 318 (.str (Str.mk #[10]) 317), en P "_QUOPRI_MAP" 1346 (.ref 39), en P "_QUOPRI_HEADER_MAP" 1347 (.ref 44), en P "_QUOPRI_BODY_MAP" 1348 (.ref 46), en P "ascii_lowercase" 1350 (.str (S "abcdefghijklmnopqrstuvwxyz") 1349), en P "ascii_uppercase" 1352 (.str (S "ABCDEFGHIJKLMNOPQRSTUVWXYZ") 1351), en P "ascii_letters" 1354 (.str (S "abcdefghijklmnopqrstuvwxyzABCDEFGHIJKLMNOPQRSTUVWXYZ") 1353), en P "digits" 1356 (.str (S "0123456789") 1355), en P "hexdigits" 1361 (.str (S "0123456789abcdefABCDEF") 1360), en P "unquote" 1867 (.ref 59), en P "quote" 1874 (.ref 66), en P "_QUOPRI_BODY_ENCODE_MAP" 1875 (.ref 68), en P "decode" 1895 (.ref 79), en P "_unquote_match" 1903 (.ref 86), en P "header_decode" 1910 (.ref 93), en P "ENDMARKER" 1914 (.int 0 1913), en P "LPAR" 1916 (.int 7 1915), en P "RPAR" 1918 (.int 8 1917), en P "LSQB" 1920 (.int 9 1919), en P "RSQB" 1922 (.int 10 1921), en P "COLON" 1924 (.int 11 1923), en P "COMMA" 1926 (.int 12 1925), en P "SEMI" 1928 (.int 13 1927), en P "PLUS" 1930 (.int 14 1929), en P "MINUS" 1932 (.int 15 1931), en P "STAR" 1934 (.int 16 1933), en P "SLASH" 1936 (.int 17 1935), en P "VBAR" 1938 (.int 18 1937), en P "AMPER" 1940 (.int 19 1939), en P "LESS" 1942 (.int 20 1941), en P "GREATER" 1944 (.int 21 1943), en P "EQUAL" 1946 (.int 22 1945), en P "DOT" 1948 (.int 23 1947), en P "PERCENT" 1950 (.int 24 1949), en P "LBRACE" 1952 (.int 25 1951), en P "RBRACE" 1954 (.int 26 1953), en P "EQEQUAL" 1956 (.int 27 1955), en P "NOTEQUAL" 1958 (.int 28 1957), en P "LESSEQUAL" 1960 (.int 29 1959), en P "GREATEREQUAL" 1962 (.int 30 1961), en P "TILDE" 1964 (.int 31 1963), en P "CIRCUMFLEX" 1966 (.int 32 1965), en P "LEFTSHIFT" 1968 (.int 33 1967)] 56 }
noncomputable def o116 (P : Params) : Obj := { cls := .none, data := .fields #[.int 18 0, .int 0 0, .ref 58, .int 20 0, .int 0 0, .ref 65, .int 26 0, .int 0 0, .ref 78, .int 56 0, .int 0 0, .ref 85, .int 59 0, .int 0 0, .ref 92] }
noncomputable def o117 (P : Params) : Obj := { cls := .type "dict", data := .dict #[en P "__name__" 165 (.str (S "cpy313.token") 1911), en P "__doc__" 166 (.none), en P "__package__" 167 (.none), en P "__loader__" 168 (.builtin "__main__.__loader__#opaque"), en P "__spec__" 169 (.none), en P "__annotations__" 170 (.ref 6), en P "__builtins__" 171 (.ref 4), en P "__file__" 173 (.str (S "/claim/cut.py") 172), en P "__cached__" 174 (.none), en P "_sre" 275 (.ref 12), en P "_twin_re_1" 316 (.ref 36), en P "NL" 318 (.str (Str.mk #[10]) 317), en P "_QUOPRI_MAP" 1346 (.ref 39), en P "_QUOPRI_HEADER_MAP" 1347 (.ref 44), en P "_QUOPRI_BODY_MAP" 1348 (.ref 46), en P "ascii_lowercase" 1350 (.str (S "abcdefghijklmnopqrstuvwxyz") 1349), en P "ascii_uppercase" 1352 (.str (S "ABCDEFGHIJKLMNOPQRSTUVWXYZ") 1351), en P "ascii_letters" 1354 (.str (S "abcdefghijklmnopqrstuvwxyzABCDEFGHIJKLMNOPQRSTUVWXYZ") 1353), en P "digits" 1356 (.str (S "0123456789") 1355), en P "hexdigits" 1361 (.str (S "0123456789abcdefABCDEF") 1360), en P "unquote" 1867 (.ref 59), en P "quote" 1874 (.ref 66), en P "_QUOPRI_BODY_ENCODE_MAP" 1875 (.ref 68), en P "decode" 1895 (.ref 79), en P "_unquote_match" 1903 (.ref 86), en P "header_decode" 1910 (.ref 93), en P "ENDMARKER" 1914 (.int 0 1913), en P "LPAR" 1916 (.int 7 1915), en P "RPAR" 1918 (.int 8 1917), en P "LSQB" 1920 (.int 9 1919), en P "RSQB" 1922 (.int 10 1921), en P "COLON" 1924 (.int 11 1923), en P "COMMA" 1926 (.int 12 1925), en P "SEMI" 1928 (.int 13 1927), en P "PLUS" 1930 (.int 14 1929), en P "MINUS" 1932 (.int 15 1931), en P "STAR" 1934 (.int 16 1933), en P "SLASH" 1936 (.int 17 1935), en P "VBAR" 1938 (.int 18 1937), en P "AMPER" 1940 (.int 19 1939), en P "LESS" 1942 (.int 20 1941), en P "GREATER" 1944 (.int 21 1943), en P "EQUAL" 1946 (.int 22 1945), en P "DOT" 1948 (.int 23 1947), en P "PERCENT" 1950 (.int 24 1949), en P "LBRACE" 1952 (.int 25 1951), en P "RBRACE" 1954 (.int 26 1953), en P "EQEQUAL" 1956 (.int 27 1955), en P "NOTEQUAL" 1958 (.int 28 1957), en P "LESSEQUAL" 1960 (.int 29 1959), en P "GREATEREQUAL" 1962 (.int 30 1961), en P "TILDE" 1964 (.int 31 1963), en P "CIRCUMFLEX" 1966 (.int 32 1965), en P "LEFTSHIFT" 1968 (.int 33 1967), en P "RIGHTSHIFT" 1970 (.int 34 1969), en P "DOUBLESTAR" 1972 (.int 35 1971), en P "PLUSEQUAL" 1974 (.int 36 1973), en P "MINEQUAL" 1976 (.int 37 1975), en P "STAREQUAL" 1978 (.int 38 1977), en P "SLASHEQUAL" 1980 (.int 39 1979), en P "PERCENTEQUAL" 1982 (.int 40 1981), en P "AMPEREQUAL" 1984 (.int 41 1983), en P "VBAREQUAL" 1986 (.int 42 1985), en P "CIRCUMFLEXEQUAL" 1988 (.int 43 1987), en P "LEFTSHIFTEQUAL" 1990 (.int 44 1989), en P "RIGHTSHIFTEQUAL" 1992 (.int 45 1991), en P "DOUBLESTAREQUAL" 1994 (.int 46 1993), en P "DOUBLESLASH" 1996 (.int 47 1995), en P "DOUBLESLASHEQUAL" 1998 (.int 48 1997), en P "AT" 2000 (.int 49 1999), en P "ATEQUAL" 2002 (.int 50 2001), en P "RARROW" 2004 (.int 51 2003), en P "ELLIPSIS" 2006 (.int 52 2005), en P "COLONEQUAL" 2008 (.int 53 2007), en P "EXCLAMATION" 2010 (.int 54 2009), en P "NT_OFFSET" 2012 (.int 256 2011)] 78 }
noncomputable def o118 (P : Params) : Obj := { cls := .type "dict", data := .dict #[en P "__name__" 165 (.str (S "cpy313.token") 1911), en P "__doc__" 166 (.none), en P "__package__" 167 (.none), en P "__loader__" 168 (.builtin "__main__.__loader__#opaque"), en P "__spec__" 169 (.none), en P "__annotations__" 170 (.ref 6), en P "__builtins__" 171 (.ref 4), en P "__file__" 173 (.str (S "/claim/cut.py") 172), en P "__cached__" 174 (.none), en P "_sre" 275 (.ref 12), en P "_twin_re_1" 316 (.ref 36), en P "NL" 318 (.str (Str.mk #[10]) 317), en P "_QUOPRI_MAP" 1346 (.ref 39), en P "_QUOPRI_HEADER_MAP" 1347 (.ref 44), en P "_QUOPRI_BODY_MAP" 1348 (.ref 46), en P "ascii_lowercase" 1350 (.str (S "abcdefghijklmnopqrstuvwxyz") 1349), en P "ascii_uppercase" 1352 (.str (S "ABCDEFGHIJKLMNOPQRSTUVWXYZ") 1351), en P "ascii_letters" 1354 (.str (S "abcdefghijklmnopqrstuvwxyzABCDEFGHIJKLMNOPQRSTUVWXYZ") 1353), en P "digits" 1356 (.str (S "0123456789") 1355), en P "hexdigits" 1361 (.str (S "0123456789abcdefABCDEF") 1360), en P "unquote" 1867 (.ref 59), en P "quote" 1874 (.ref 66), en P "_QUOPRI_BODY_ENCODE_MAP" 1875 (.ref 68), en P "decode" 1895 (.ref 79), en P "_unquote_match" 1903 (.ref 86), en P "header_decode" 1910 (.ref 93), en P "ENDMARKER" 1914 (.int 0 1913), en P "LPAR" 1916 (.int 7 1915), en P "RPAR" 1918 (.int 8 1917), en P "LSQB" 1920 (.int 9 1919), en P "RSQB" 1922 (.int 10 1921), en P "COLON" 1924 (.int 11 1923), en P "COMMA" 1926 (.int 12 1925), en P "SEMI" 1928 (.int 13 1927), en P "PLUS" 1930 (.int 14 1929), en P "MINUS" 1932 (.int 15 1931), en P "STAR" 1934 (.int 16 1933), en P "SLASH" 1936 (.int 17 1935), en P "VBAR" 1938 (.int 18 1937), en P "AMPER" 1940 (.int 19 1939), en P "LESS" 1942 (.int 20 1941), en P "GREATER" 1944 (.int 21 1943), en P "EQUAL" 1946 (.int 22 1945), en P "DOT" 1948 (.int 23 1947), en P "PERCENT" 1950 (.int 24 1949), en P "LBRACE" 1952 (.int 25 1951), en P "RBRACE" 1954 (.int 26 1953), en P "EQEQUAL" 1956 (.int 27 1955), en P "NOTEQUAL" 1958 (.int 28 1957), en P "LESSEQUAL" 1960 (.int 29 1959), en P "GREATEREQUAL" 1962 (.int 30 1961), en P "TILDE" 1964 (.int 31 1963), en P "CIRCUMFLEX" 1966 (.int 32 1965), en P "LEFTSHIFT" 1968 (.int 33 1967), en P "RIGHTSHIFT" 1970 (.int 34 1969), en P "DOUBLESTAR" 1972 (.int 35 1971), en P "PLUSEQUAL" 1974 (.int 36 1973), en P "MINEQUAL" 1976 (.int 37 1975), en P "STAREQUAL" 1978 (.int 38 1977), en P "SLASHEQUAL" 1980 (.int 39 1979), en P "PERCENTEQUAL" 1982 (.int 40 1981), en P "AMPEREQUAL" 1984 (.int 41 1983), en P "VBAREQUAL" 1986 (.int 42 1985), en P "CIRCUMFLEXEQUAL" 1988 (.int 43 1987), en P "LEFTSHIFTEQUAL" 1990 (.int 44 1989), en P "RIGHTSHIFTEQUAL" 1992 (.int 45 1991), en P "DOUBLESTAREQUAL" 1994 (.int 46 1993), en P "DOUBLESLASH" 1996 (.int 47 1995), en P "DOUBLESLASHEQUAL" 1998 (.int 48 1997), en P "AT" 2000 (.int 49 1999), en P "ATEQUAL" 2002 (.int 50 2001), en P "RARROW" 2004 (.int 51 2003), en P "ELLIPSIS" 2006 (.int 52 2005), en P "COLONEQUAL" 2008 (.int 53 2007), en P "EXCLAMATION" 2010 (.int 54 2009), en P "NT_OFFSET" 2012 (.int 256 2011), en P "EXACT_TOKEN_TYPES" 2109 (.ref 94)] 79 }
noncomputable def tHa (P : Params) : BT := (.node (o0 P) (.node (o1 P) (.node (o112 P) (.node (o7 P) (.node (o7 P) (.node (o29 P) (.node (o7 P) .nil .nil) .nil) (.node (o46 P) .nil .nil)) (.node (o22 P) (.node (o38 P) .nil .nil) (.node (o55 P) .nil .nil))) (.node (o27 P) (.node (o18 P) (.node (o33 P) (.node (o42 P) .nil .nil) .nil) (.node (o7 P) .nil .nil)) (.node (o26 P) (.node (o42 P) .nil .nil) (.node (o58 P) .nil .nil)))) (.node (o5 P) (.node (o9 P) (.node (o16 P) (.node (o6 P) (.node (o61 P) .nil .nil) .nil) (.node (o47 P) .nil .nil)) (.node (o24 P) (.node (o7 P) .nil .nil) (.node (o56 P) .nil .nil))) (.node (o13 P) (.node (o20 P) (.node (o36 P) .nil .nil) (.node (o7 P) .nil .nil)) (.node (o113 P) (.node (o42 P) .nil .nil) (.node (o8 P) .nil .nil))))) (.node (o2 P) (.node (o4 P) (.node (o8 P) (.node (o15 P) (.node (o31 P) (.node (o60 P) .nil .nil) .nil) (.node (o7 P) .nil .nil)) (.node (o23 P) (.node (o39 P) .nil .nil) (.node (o7 P) .nil .nil))) (.node (o12 P) (.node (o19 P) (.node (o34 P) (.node (o50 P) .nil .nil) .nil) (.node (o52 P) .nil .nil)) (.node (o7 P) (.node (o48 P) .nil .nil) (.node (o7 P) .nil .nil)))) (.node (o6 P) (.node (o10 P) (.node (o17 P) (.node (o32 P) (.node (o62 P) .nil .nil) .nil) (.node (o51 P) .nil .nil)) (.node (o25 P) (.node (o40 P) .nil .nil) (.node (o57 P) .nil .nil))) (.node (o14 P) (.node (o21 P) (.node (o37 P) .nil .nil) (.node (o8 P) .nil .nil)) (.node (o28 P) (.node (o50 P) .nil .nil) (.node (o59 P) .nil .nil))))))
noncomputable def sHa (w : World) (os : OsState) : SharedT := { tree := tHa w.params, n := 69, life := {}, gens := #[], drawn := {}, toks := 1876, os := os }
noncomputable def posHa : Pos := ⟨22, 0, 22, 23⟩
noncomputable def tHb (P : Params) : BT := (.node (o0 P) (.node (o1 P) (.node (o114 P) (.node (o7 P) (.node (o7 P) (.node (o29 P) (.node (o7 P) .nil .nil) .nil) (.node (o46 P) .nil .nil)) (.node (o22 P) (.node (o38 P) (.node (o65 P) .nil .nil) .nil) (.node (o55 P) .nil .nil))) (.node (o27 P) (.node (o18 P) (.node (o33 P) (.node (o42 P) .nil .nil) .nil) (.node (o7 P) .nil .nil)) (.node (o26 P) (.node (o42 P) .nil .nil) (.node (o58 P) .nil .nil)))) (.node (o5 P) (.node (o9 P) (.node (o16 P) (.node (o6 P) (.node (o61 P) .nil .nil) .nil) (.node (o47 P) .nil .nil)) (.node (o24 P) (.node (o7 P) .nil .nil) (.node (o56 P) .nil .nil))) (.node (o13 P) (.node (o20 P) (.node (o36 P) (.node (o64 P) .nil .nil) .nil) (.node (o7 P) .nil .nil)) (.node (o113 P) (.node (o42 P) .nil .nil) (.node (o8 P) .nil .nil))))) (.node (o2 P) (.node (o4 P) (.node (o8 P) (.node (o15 P) (.node (o31 P) (.node (o60 P) .nil .nil) .nil) (.node (o7 P) .nil .nil)) (.node (o23 P) (.node (o39 P) .nil .nil) (.node (o7 P) .nil .nil))) (.node (o12 P) (.node (o19 P) (.node (o34 P) (.node (o63 P) .nil .nil) .nil) (.node (o52 P) .nil .nil)) (.node (o7 P) (.node (o48 P) .nil .nil) (.node (o7 P) .nil .nil)))) (.node (o6 P) (.node (o10 P) (.node (o17 P) (.node (o32 P) (.node (o62 P) .nil .nil) .nil) (.node (o51 P) .nil .nil)) (.node (o25 P) (.node (o40 P) .nil .nil) (.node (o57 P) .nil .nil))) (.node (o14 P) (.node (o21 P) (.node (o37 P) (.node (o7 P) .nil .nil) .nil) (.node (o8 P) .nil .nil)) (.node (o28 P) (.node (o50 P) .nil .nil) (.node (o59 P) .nil .nil))))))
noncomputable def sHb (w : World) (os : OsState) : SharedT := { tree := tHb w.params, n := 72, life := {}, gens := #[], drawn := {}, toks := 1883, os := os }
noncomputable def posHb : Pos := ⟨23, 9, 23, 16⟩
noncomputable def tHc (P : Params) : BT := (.node (o0 P) (.node (o1 P) (.node (o115 P) (.node (o7 P) (.node (o7 P) (.node (o29 P) (.node (o7 P) .nil .nil) .nil) (.node (o46 P) (.node (o70 P) .nil .nil) .nil)) (.node (o22 P) (.node (o38 P) (.node (o65 P) .nil .nil) .nil) (.node (o55 P) (.node (o7 P) .nil .nil) .nil))) (.node (o27 P) (.node (o18 P) (.node (o33 P) (.node (o42 P) .nil .nil) .nil) (.node (o7 P) (.node (o7 P) .nil .nil) .nil)) (.node (o26 P) (.node (o42 P) (.node (o67 P) .nil .nil) .nil) (.node (o58 P) (.node (o76 P) .nil .nil) .nil)))) (.node (o5 P) (.node (o9 P) (.node (o16 P) (.node (o6 P) (.node (o61 P) .nil .nil) .nil) (.node (o47 P) (.node (o8 P) .nil .nil) .nil)) (.node (o24 P) (.node (o7 P) (.node (o7 P) .nil .nil) .nil) (.node (o56 P) (.node (o75 P) .nil .nil) .nil))) (.node (o13 P) (.node (o20 P) (.node (o36 P) (.node (o64 P) .nil .nil) .nil) (.node (o7 P) (.node (o73 P) .nil .nil) .nil)) (.node (o116 P) (.node (o42 P) (.node (o68 P) .nil .nil) .nil) (.node (o8 P) (.node (o78 P) .nil .nil) .nil))))) (.node (o2 P) (.node (o4 P) (.node (o8 P) (.node (o15 P) (.node (o31 P) (.node (o60 P) .nil .nil) .nil) (.node (o7 P) (.node (o7 P) .nil .nil) .nil)) (.node (o23 P) (.node (o39 P) (.node (o66 P) .nil .nil) .nil) (.node (o7 P) (.node (o8 P) .nil .nil) .nil))) (.node (o12 P) (.node (o19 P) (.node (o34 P) (.node (o63 P) .nil .nil) .nil) (.node (o52 P) (.node (o72 P) .nil .nil) .nil)) (.node (o7 P) (.node (o48 P) (.node (o7 P) .nil .nil) .nil) (.node (o7 P) (.node (o77 P) .nil .nil) .nil)))) (.node (o6 P) (.node (o10 P) (.node (o17 P) (.node (o32 P) (.node (o62 P) .nil .nil) .nil) (.node (o51 P) (.node (o71 P) .nil .nil) .nil)) (.node (o25 P) (.node (o40 P) (.node (o8 P) .nil .nil) .nil) (.node (o57 P) (.node (o7 P) .nil .nil) .nil))) (.node (o14 P) (.node (o21 P) (.node (o37 P) (.node (o7 P) .nil .nil) .nil) (.node (o8 P) (.node (o74 P) .nil .nil) .nil)) (.node (o28 P) (.node (o50 P) (.node (o69 P) .nil .nil) .nil) (.node (o59 P) .nil .nil))))))
noncomputable def sHc (w : World) (os : OsState) : SharedT := { tree := tHc w.params, n := 94, life := {}, gens := #[], drawn := {}, toks := 1969, os := os }
noncomputable def posHc : Pos := ⟨90, 0, 90, 9⟩
noncomputable def tHd (P : Params) : BT := (.node (o0 P) (.node (o1 P) (.node (o117 P) (.node (o7 P) (.node (o7 P) (.node (o29 P) (.node (o7 P) .nil .nil) .nil) (.node (o46 P) (.node (o70 P) .nil .nil) .nil)) (.node (o22 P) (.node (o38 P) (.node (o65 P) .nil .nil) .nil) (.node (o55 P) (.node (o7 P) .nil .nil) .nil))) (.node (o27 P) (.node (o18 P) (.node (o33 P) (.node (o42 P) .nil .nil) .nil) (.node (o7 P) (.node (o7 P) .nil .nil) .nil)) (.node (o26 P) (.node (o42 P) (.node (o67 P) .nil .nil) .nil) (.node (o58 P) (.node (o76 P) .nil .nil) .nil)))) (.node (o5 P) (.node (o9 P) (.node (o16 P) (.node (o6 P) (.node (o61 P) .nil .nil) .nil) (.node (o47 P) (.node (o8 P) .nil .nil) .nil)) (.node (o24 P) (.node (o7 P) (.node (o7 P) .nil .nil) .nil) (.node (o56 P) (.node (o75 P) .nil .nil) .nil))) (.node (o13 P) (.node (o20 P) (.node (o36 P) (.node (o64 P) .nil .nil) .nil) (.node (o7 P) (.node (o73 P) .nil .nil) .nil)) (.node (o116 P) (.node (o42 P) (.node (o68 P) .nil .nil) .nil) (.node (o8 P) (.node (o78 P) .nil .nil) .nil))))) (.node (o2 P) (.node (o4 P) (.node (o8 P) (.node (o15 P) (.node (o31 P) (.node (o60 P) .nil .nil) .nil) (.node (o7 P) (.node (o7 P) .nil .nil) .nil)) (.node (o23 P) (.node (o39 P) (.node (o66 P) .nil .nil) .nil) (.node (o7 P) (.node (o8 P) .nil .nil) .nil))) (.node (o12 P) (.node (o19 P) (.node (o34 P) (.node (o63 P) .nil .nil) .nil) (.node (o52 P) (.node (o72 P) .nil .nil) .nil)) (.node (o7 P) (.node (o48 P) (.node (o7 P) .nil .nil) .nil) (.node (o7 P) (.node (o77 P) .nil .nil) .nil)))) (.node (o6 P) (.node (o10 P) (.node (o17 P) (.node (o32 P) (.node (o62 P) .nil .nil) .nil) (.node (o51 P) (.node (o71 P) .nil .nil) .nil)) (.node (o25 P) (.node (o40 P) (.node (o8 P) .nil .nil) .nil) (.node (o57 P) (.node (o7 P) .nil .nil) .nil))) (.node (o14 P) (.node (o21 P) (.node (o37 P) (.node (o7 P) .nil .nil) .nil) (.node (o8 P) (.node (o74 P) .nil .nil) .nil)) (.node (o28 P) (.node (o50 P) (.node (o69 P) .nil .nil) .nil) (.node (o59 P) .nil .nil))))))
noncomputable def sHd (w : World) (os : OsState) : SharedT := { tree := tHd w.params, n := 94, life := {}, gens := #[], drawn := {}, toks := 2013, os := os }
noncomputable def posHd : Pos := ⟨112, 0, 112, 9⟩
noncomputable def tHg (P : Params) : BT := (.node (o0 P) (.node (o1 P) (.node (o118 P) (.node (o7 P) (.node (o7 P) (.node (o29 P) (.node (o7 P) .nil .nil) (.node (o80 P) .nil .nil)) (.node (o46 P) (.node (o70 P) .nil .nil) .nil)) (.node (o22 P) (.node (o38 P) (.node (o65 P) .nil .nil) .nil) (.node (o55 P) (.node (o7 P) .nil .nil) .nil))) (.node (o27 P) (.node (o18 P) (.node (o33 P) (.node (o42 P) .nil .nil) .nil) (.node (o7 P) (.node (o7 P) .nil .nil) .nil)) (.node (o26 P) (.node (o42 P) (.node (o67 P) .nil .nil) .nil) (.node (o58 P) (.node (o76 P) .nil .nil) .nil)))) (.node (o5 P) (.node (o9 P) (.node (o16 P) (.node (o6 P) (.node (o61 P) .nil .nil) .nil) (.node (o47 P) (.node (o8 P) .nil .nil) .nil)) (.node (o24 P) (.node (o7 P) (.node (o7 P) .nil .nil) .nil) (.node (o56 P) (.node (o75 P) .nil .nil) .nil))) (.node (o13 P) (.node (o20 P) (.node (o36 P) (.node (o64 P) .nil .nil) .nil) (.node (o7 P) (.node (o73 P) .nil .nil) .nil)) (.node (o116 P) (.node (o42 P) (.node (o68 P) .nil .nil) .nil) (.node (o8 P) (.node (o78 P) .nil .nil) .nil))))) (.node (o2 P) (.node (o4 P) (.node (o8 P) (.node (o15 P) (.node (o31 P) (.node (o60 P) .nil .nil) (.node (o81 P) .nil .nil)) (.node (o7 P) (.node (o7 P) .nil .nil) .nil)) (.node (o23 P) (.node (o39 P) (.node (o66 P) .nil .nil) .nil) (.node (o7 P) (.node (o8 P) .nil .nil) .nil))) (.node (o12 P) (.node (o19 P) (.node (o34 P) (.node (o63 P) .nil .nil) .nil) (.node (o52 P) (.node (o72 P) .nil .nil) .nil)) (.node (o7 P) (.node (o48 P) (.node (o7 P) .nil .nil) .nil) (.node (o7 P) (.node (o77 P) .nil .nil) .nil)))) (.node (o6 P) (.node (o10 P) (.node (o17 P) (.node (o32 P) (.node (o62 P) .nil .nil) .nil) (.node (o51 P) (.node (o71 P) .nil .nil) .nil)) (.node (o25 P) (.node (o40 P) (.node (o8 P) .nil .nil) .nil) (.node (o57 P) (.node (o7 P) .nil .nil) .nil))) (.node (o14 P) (.node (o21 P) (.node (o37 P) (.node (o7 P) .nil .nil) .nil) (.node (o8 P) (.node (o74 P) .nil .nil) .nil)) (.node (o28 P) (.node (o50 P) (.node (o69 P) .nil .nil) .nil) (.node (o59 P) (.node (o79 P) .nil .nil) .nil))))))
noncomputable def sHg (w : World) (os : OsState) : SharedT := { tree := tHg w.params, n := 97, life := {}, gens := #[], drawn := {}, toks := 2110, os := os }
noncomputable def posHg : Pos := ⟨113, 0, 113, 17⟩
theorem p7a (w : World) (os : OsState) : twRun twTb pE w 28 ann 1 86 (sH6 w os) (piecesOf (sts 14 3) envE cE pos6 B0) = some (.next, sHa w os, cE, posHa) := by kernel_rfl
theorem p7b_f (w : World) (os : OsState) : twRun twTb pE (w.withFollow rowG false) 28 ann 1 118 (sHa (w.withFollow rowG false) os) (piecesOf (sts 17 1) envE cE posHa B0) = some (.next, sHb (w.withFollow rowG false) os, cE, posHb) := by kernel_rfl
theorem p7b_t (w : World) (os : OsState) : twRun twTb pE (w.withFollow rowG true) 28 ann 1 118 (sHa (w.withFollow rowG true) os) (piecesOf (sts 17 1) envE cE posHa B0) = some (.next, sHb (w.withFollow rowG true) os, cE, posHb) := by kernel_rfl
theorem p7c (w : World) (os : OsState) : twRun twTb pE w 28 ann 1 365 (sHb w os) (piecesOf (sts 18 33) envE cE posHb B0) = some (.next, sHc w os, cE, posHc) := by kernel_rfl
theorem p7d (w : World) (os : OsState) : twRun twTb pE w 28 ann 1 199 (sHc w os) (piecesOf (sts 51 22) envE cE posHc B0) = some (.next, sHd w os, cE, posHd) := by kernel_rfl
theorem p7e_f (w : World) (os : OsState) : twRun twTb pE (w.withFollow rowG false) 28 ann 1 979 (sHd (w.withFollow rowG false) os) (piecesOf (sts 73 1) envE cE posHd B0) = some (.next, sHg (w.withFollow rowG false) os, cE, posHg) := by kernel_rfl
theorem p7e_t (w : World) (os : OsState) : twRun twTb pE (w.withFollow rowG true) 28 ann 1 979 (sHd (w.withFollow rowG true) os) (piecesOf (sts 73 1) envE cE posHd B0) = some (.next, sHg (w.withFollow rowG true) os, cE, posHg) := by kernel_rfl
theorem p7f (w : World) (os : OsState) : twRun twTb pE w 28 ann 1 256 (sHg w os) (piecesOf (sts 74 9) envE cE posHg B0) = some (.next, sH7 w os, cE, pos7) := by kernel_rfl
end Mine
end
section -- H_looks
open PySem PySem.W PyProof.Rows
set_option maxRecDepth 1000000
set_option maxHeartbeats 0
set_option linter.unusedVariables false
namespace Mine
noncomputable def qE : Program := { pE with main := { pE.main with body := sts 82 1 } }
noncomputable def lo : List Str := pE.boundNames.filter fun n => n != S "law"
noncomputable def fin (w : World) (os : OsState) : Shared := ⟨H7 w.params, #[], {}, 2184, os⟩
noncomputable abbrev mods : List Str := importedModules pE.main.body
noncomputable def Xt (s : Shared) : Bool := xlAt qE [] s && recOk [] s
theorem k1 (w : World) (os : OsState) : (staticsOk mods (H0 w.params) (H7 w.params) && namesBound pE (H7 w.params) && gensDone (fin w os) && laidKept (H0 w.params) (H7 w.params)) = true := by kernel_rfl
theorem k2 (w : World) (os : OsState) : openSeen qE lo mods Xt true (fin w os) = openGood qE lo := by
  rw [PySem.W.Fast.te4187177175401517315]
  kernel_rfl
noncomputable def K (P : Params) : Frag := (nat_lit 2, o2 P) :: (nat_lit 3, o53 P) :: (nat_lit 6, o6 P) :: (nat_lit 11, o27 P) :: (nat_lit 12, o12 P) :: (nat_lit 35, o33 P) :: (nat_lit 36, o34 P) :: (nat_lit 39, o38 P) :: (nat_lit 44, o48 P) :: (nat_lit 46, o50 P) :: (nat_lit 53, o7 P) :: (nat_lit 55, o55 P) :: (nat_lit 56, o7 P) :: (nat_lit 58, o57 P) :: (nat_lit 59, o58 P) :: (nat_lit 60, o7 P) :: (nat_lit 62, o59 P) :: (nat_lit 63, o7 P) :: (nat_lit 65, o61 P) :: (nat_lit 66, o62 P) :: (nat_lit 68, o63 P) :: (nat_lit 72, o66 P) :: (nat_lit 73, o7 P) :: (nat_lit 75, o67 P) :: (nat_lit 76, o7 P) :: (nat_lit 78, o69 P) :: (nat_lit 79, o70 P) :: (nat_lit 80, o7 P) :: (nat_lit 82, o71 P) :: (nat_lit 83, o7 P) :: (nat_lit 85, o73 P) :: (nat_lit 86, o74 P) :: (nat_lit 87, o7 P) :: (nat_lit 89, o75 P) :: (nat_lit 90, o7 P) :: (nat_lit 92, o77 P) :: (nat_lit 93, o78 P) :: (nat_lit 94, o79 P) :: (nat_lit 97, o7 P) :: (nat_lit 99, o82 P) :: (nat_lit 100, o7 P) :: (nat_lit 102, o84 P) :: (nat_lit 103, o85 P) :: (nat_lit 104, o7 P) :: (nat_lit 106, o86 P) :: (nat_lit 107, o7 P) :: (nat_lit 109, o88 P) :: (nat_lit 110, o89 P) :: (nat_lit 111, o7 P) :: (nat_lit 113, o90 P) :: (nat_lit 114, o7 P) :: (nat_lit 116, o92 P) :: (nat_lit 117, o93 P) :: (nat_lit 118, o7 P) :: (nat_lit 120, o7 P) :: (nat_lit 121, o7 P) :: (nat_lit 123, o95 P) :: (nat_lit 124, o96 P) :: (nat_lit 125, o7 P) :: (nat_lit 127, o97 P) :: (nat_lit 128, o7 P) :: (nat_lit 130, o99 P) :: (nat_lit 131, o100 P) :: (nat_lit 132, o7 P) :: (nat_lit 134, o101 P) :: (nat_lit 135, o7 P) :: (nat_lit 137, o103 P) :: (nat_lit 138, o104 P) :: (nat_lit 139, o7 P) :: (nat_lit 142, o106 P) :: (nat_lit 143, o107 P) :: (nat_lit 144, o7 P) :: (nat_lit 146, o108 P) :: (nat_lit 147, o7 P) :: (nat_lit 149, o110 P) :: (nat_lit 150, o111 P) :: []
noncomputable def asK : List Addr := [2, 3, 6, 11, 12, 35, 36, 39, 44, 46, 53, 55, 56, 58, 59, 60, 62, 63, 65, 66, 68, 72, 73, 75, 76, 78, 79, 80, 82, 83, 85, 86, 87, 89, 90, 92, 93, 94, 97, 99, 100, 102, 103, 104, 106, 107, 109, 110, 111, 113, 114, 116, 117, 118, 120, 121, 123, 124, 125, 127, 128, 130, 131, 132, 134, 135, 137, 138, 139, 142, 143, 144, 146, 147, 149, 150]
theorem asK_eq (P : Params) : asK = (K P).map (·.1) := by kernel_rfl
noncomputable abbrev hk : Hook := kHook K asK asK_eq
theorem k3 (w : World) (os : OsState) : asK.map (fin w os).heap.get? = (K w.params).map fun p => some p.2 := by kernel_rfl
end Mine
end
section -- H_asm
open PySem PySem.W PyProof.Rows
set_option maxRecDepth 1000000
set_option maxHeartbeats 0
set_option linter.unusedVariables false
namespace Mine
theorem go_of {w : World} {n : Nat} {s s' : SharedT} {t t' : Thread} (h : twGo twTb pE w 28 ann 1 n s t = some (s', t')) : segGo treeTable pE w 28 ann 1 n s.abs t = some (s'.abs, t') := by
  refine segGo_of ?_
  rw [PySem.W.Fast.te10295753902157049106, PySem.W.Fast.te14364793385576792824]
  exact h
theorem run_of {w : World} {n : Nat} {s s' : SharedT} {t : Thread} {f : Flow} {c : Code} {q : Pos} (h : twRun twTb pE w 28 ann 1 n s t = some (f, s', c, q)) : segRun treeTable pE w 28 ann 1 n s.abs t = some (f, s'.abs, c, q) := by
  refine segRun_of ?_
  rw [PySem.W.Fast.te10110043849684766642, PySem.W.Fast.te14364793385576792824]
  exact h
theorem pre2 (w : World) (os : OsState) : topGo treeTable pE w 28 ann 12 ⟨H0 w.params, #[], {}, 276, os⟩ (topStub pE) = some (⟨Hp w.params, #[], {}, 282, os⟩, ⟨denote treeTable cE, cE, q0, B0⟩) := by
  rw [PySem.W.Fast.te15667345088766844465, PySem.W.Fast.te11892475500146522536, PySem.W.Fast.te14364793385576792824]
  exact pre1 w os
theorem block2 (w : World) (os : OsState) : segRun treeTable pE w 28 ann 1 1 ⟨Hp w.params, #[], {}, 282, os⟩ (blockOf bE envE cE q0 B0) = some (.next, (sHp w os).abs, cE, q0) := by
  rw [PySem.W.Fast.te14374325043358763698, PySem.W.Fast.te14364793385576792824]
  exact block1 w os
/-- the loop of the comprehension, once its head stands -/
theorem loopA (w : World) (b1 b2 : Bool) (os : OsState) : segRun treeTable pE ((w.withFollow rowG b1).withFollow rowC b2) 28 ann 1 (2368 + (2368 + (2368 + (2368 + 27)))) (sA0 w os).abs (tA w os) = some (.next, (sH2 w os).abs, cE, pos2) :=
  seg_go (go_of (a1 w b1 b2 os)) (seg_go (go_of (a2 w b1 b2 os)) (seg_go (go_of (a3 w b1 b2 os)) (seg_go (go_of (a4 w b1 b2 os)) (run_of (a5 w b1 b2 os)))))
theorem sH1_row (w : World) (b1 b2 : Bool) (os : OsState) : sH1 ((w.withFollow rowG b1).withFollow rowC b2) os = sH1 w os := by kernel_rfl
theorem sH2_row (w : World) (b1 b2 : Bool) (os : OsState) : sH2 ((w.withFollow rowG b1).withFollow rowC b2) os = sH2 w os := by kernel_rfl
theorem seg_mono {w : World} (k : Nat) : ∀ (n : Nat) (s : Shared) (t : Thread) r, segRun treeTable pE w 28 ann 1 n s t = some r → segRun treeTable pE w 28 ann 1 (n + k) s t = some r
  | 0, _, _, _, h => by simp [segRun] at h
  | n + 1, s, t, r, h => by
    rw [show n + 1 + k = n + k + 1 by omega]
    unfold segRun at h ⊢
    cases he : endAt 1 t with
    | some f => rw [he] at h; exact h
    | none =>
      rw [he] at h
      cases hk : stepOk 28 ann t with
      | false => rw [hk] at h; cases h
      | true =>
        rw [hk] at h
        cases hs : step (denote treeTable) pE w s t with
        | halt o s₂ => rw [hs] at h; cases h
        | go s₂ t₂ => rw [hs] at h; exact seg_mono k n s₂ t₂ r h
noncomputable def PA (w : World) : Prop := ∀ os, segRun treeTable pE w 28 ann 1 9552 (sH1 w os).abs (piecesOf (sts 2 1) envE cE pos1 B0) = some (.next, (sH2 w os).abs, cE, pos2)
theorem pA {w : World} {b1 b2 : Bool} {n : Nat} (hn : n + (2368 + (2368 + (2368 + (2368 + 27)))) + (53 - n) = 9552) (h : ∀ os, preA ((w.withFollow rowG b1).withFollow rowC b2) os n = some (sA0 w os, tA w os)) : PA ((w.withFollow rowG b1).withFollow rowC b2) := by
  intro os
  have h1 := seg_go (go_of (h os)) (loopA w b1 b2 os)
  have h2 := seg_mono (53 - n) _ _ _ _ h1
  rw [hn] at h2
  rw [sH2_row]
  exact h2
theorem p2 (w : World) : PA w := by
  refine byRow2 rowC (P := PA) (fun w => ?_) (fun w => ?_) w
  · refine byRow2 rowG (P := fun w => PA (w.withFollow rowC false)) (fun w => ?_) (fun w => ?_) w
    · exact pA (n := 53) rfl (a_ff w)
    · exact pA (n := 53) rfl (a_tf w)
  · refine byRow2 rowG (P := fun w => PA (w.withFollow rowC true)) (fun w => ?_) (fun w => ?_) w
    · exact pA (n := 43) rfl (a_ft w)
    · exact pA (n := 43) rfl (a_tt w)
noncomputable def P4 (w : World) : Prop := ∀ os, segRun treeTable pE w 28 ann 1 3077 (sH3 w os).abs (piecesOf (sts 11 1) envE cE pos3 B0) = some (.next, (sH4 w os).abs, cE, pos4)
theorem p4 (w : World) : P4 w := byRow2 rowG (P := P4) (fun w os => run_of (p4_f w os)) (fun w os => run_of (p4_t w os)) w
noncomputable def P6 (w : World) : Prop := ∀ os, segRun treeTable pE w 28 ann 1 4303 (sH5 w os).abs (piecesOf (sts 13 1) envE cE pos5 B0) = some (.next, (sH6 w os).abs, cE, pos6)
theorem p6 (w : World) : P6 w := byRow2 rowG (P := P6) (fun w os => run_of (p6_f w os)) (fun w os => run_of (p6_t w os)) w
noncomputable def P7b (w : World) : Prop := ∀ os, segRun treeTable pE w 28 ann 1 118 (sHa w os).abs (piecesOf (sts 17 1) envE cE posHa B0) = some (.next, (sHb w os).abs, cE, posHb)
theorem p7b (w : World) : P7b w := byRow2 rowG (P := P7b) (fun w os => run_of (p7b_f w os)) (fun w os => run_of (p7b_t w os)) w
noncomputable def P7e (w : World) : Prop := ∀ os, segRun treeTable pE w 28 ann 1 979 (sHd w os).abs (piecesOf (sts 73 1) envE cE posHd B0) = some (.next, (sHg w os).abs, cE, posHg)
theorem p7e (w : World) : P7e w := byRow2 rowG (P := P7e) (fun w os => run_of (p7e_f w os)) (fun w os => run_of (p7e_t w os)) w
theorem fin1 (w : World) (os : OsState) : topRun treeTable pE w 28 ann 2 (sH7 w os).abs (restOf [] envE cE pos7 B0) = some (fin w os) := by kernel_rfl
theorem split1 : bE = sts 0 2 ++ (sts 2 1 ++ (sts 3 8 ++ (sts 11 1 ++ (sts 12 1 ++ (sts 13 1 ++ (sts 14 3 ++ (sts 17 1 ++ (sts 18 33 ++ (sts 51 22 ++ (sts 73 1 ++ (sts 74 9 ++ []))))))))))) := by kernel_rfl
theorem run1 (w : World) (os : OsState) : topRun treeTable pE w 28 ann (12 + (1 + (88 + (9552 + (133 + (3077 + (25 + (4303 + (86 + (118 + (365 + (199 + (979 + (256 + 2)))))))))))))) ⟨H0 w.params, #[], {}, 276, os⟩ (topStub pE) = some (fin w os) := by
  refine go_top (pre2 w os) (piece_block (block2 w os) ?_)
  rw [split1]
  exact piece_app (run_of (p1 w os)) (piece_app (p2 w os) (piece_app (run_of (p3 w os)) (piece_app (p4 w os) (piece_app (run_of (p5 w os)) (piece_app (p6 w os) (piece_app (run_of (p7a w os)) (piece_app (p7b w os) (piece_app (run_of (p7c w os)) (piece_app (run_of (p7d w os)) (piece_app (p7e w os) (piece_app (run_of (p7f w os)) (fin1 w os))))))))))))
theorem left1 : LeftO pE qE lo Xt (Hook.obs hk) (Hook.val hk) 20000 :=
  LeftO.of_pieces (H₀ := H0) (H₁ := H7) (gs₀ := #[]) (gs₁ := #[]) (d₀ := {}) (d₁ := {}) (k₀ := 276) (k₁ := 2184) (m₀ := 28) (ann := ann) (M := 12 + (1 + (88 + (9552 + (133 + (3077 + (25 + (4303 + (86 + (118 + (365 + (199 + (979 + (256 + 2))))))))))))))
    (open_cut open2 (by decide) fence1) size1 run1 (by decide) (fun w => by funext os; exact Prod.ext (k1 w os) (Prod.ext (k2 w os) (k3 w os)))
end Mine
end
section -- T_ws
open PySem PySem.W PyProof.Rows
set_option maxRecDepth 1000000
set_option maxHeartbeats 0
namespace Mine
theorem ws0 : PySem.Challenge.rw_rs0129_01.wellSaid = true := by
  rw [PySem.W.Fast.te9446332074065402090]
  kernel_rfl
end Mine
end
section -- H_head
open PySem PySem.W PyProof.Rows
set_option maxRecDepth 1000000
set_option maxHeartbeats 0
namespace Mine
abbrev rwE : OpenLaw := PySem.Challenge.rw_rs0129_01
noncomputable def lawD : DefRec := match (bE[82]? : Option Stmt) with
  | some (.FunctionDef n a b _ _ _ sc _ _ p) => { name := n, params := a, body := b, scope := sc, pos := p }
  | _ => { name := S "", params := { posonlyargs := [], args := [], vararg := none, kwonlyargs := [], kw_defaults := [], kwarg := none, defaults := [] }, body := [], scope := { kind := .function, names := [], isGenerator := false, isCoroutine := false }, pos := q0 }
theorem def1 : defOf qE rwE.row.name = some (lawD, []) := by kernel_rfl
theorem def2 : rwE.row.prog.theDef rwE.row.name = some (lawD.params, lawD.body, lawD.scope) := by kernel_rfl
theorem def3 : kwWritten? lawD.params.kwonlyargs lawD.params.kw_defaults = some [] := by kernel_rfl
theorem ok1 : (chainsOk qE && opensWell rwE.row.prog && (frees rwE.row.toRowW && rwE.row.within.isEmpty)) = true := by kernel_rfl
theorem bare1 : rwE.row.prog.bare := ⟨rfl, rfl, rfl, rfl, rfl, by decide +kernel⟩
theorem hw1 : rwE.row.toRowW.promised := by w_witness2
theorem hd (walk : WalkO qE lo (XL qE []) (kHook K asK asK_eq).says rwE.row.toRowW lawD [] fun f vs => call f vs) : rwE.Holds :=
  holds_law ws0 fun said => holds_open (q := qE) (loose := lo) (Xt := Xt) (XP := XL qE []) (Yf := Hook.obs hk) (Ya := Hook.val hk) (YP := Hook.says hk) (d := lawD) (kwd := []) (N := 20000)
    left1 (Hook.of hk) (Hook.keeps hk) (fun s e => xl_of s (Bool.and_eq_true_iff.mp e).1) XL.keeps def1 def2 def3 (fun s e => recFacts_of (Bool.and_eq_true_iff.mp e).2) rfl said ok1 bare1 hw1 walk
end Mine
end
section -- Inf
open PySem PySem.W PyProof.Rows PySem.Calls
set_option maxRecDepth 100000
namespace Mine
/-- the model of the program in a world -/
noncomputable abbrev Mo (w : World) : Model := model pE w
/-- where a frame of the call stands -/
structure At (w : World) (A : Around) (L : Addr) (h₀ : Heap) : Prop where
  below : ∃ A₀ base env outer, Below A₀ base outer h₀ ∧ A.frames = some (env :: outer) ∧ env.frame = some L ∧ env.scope.kind = .function
  X : (K w.params).In h₀
  T : ∃ mean mg mb, Top qE (looseW qE lo) mean mg mb h₀
  hh : A.handled = none
noncomputable def lk (l : List (Str × Value)) (y : Str) : Option Value := l.lookup y
theorem lk_rev {l l' : List (Str × Value)} (e : l.reverse = l') : (fun y => l.reverse.lookup y) = lk l' := by subst e; rfl
section
variable {w : World} {A : Around} {E : Value → Shared → Prop} {s : Shared} {cn : Str} {cs : Scope} {L a : Addr} {cd : Value} {h₀ : Heap} {m : Str → Option Value} {news : List (Addr × Obj)}
/-- a name of the text's -/
theorem nameK {x : Str} {pos : Pos} {v : Value} {Q : Value → Shared → Prop} (C : At w A L h₀) (F : Fr h₀ L s.heap m) (e : nsIn (K w.params) mainGlobals x = some (some v)) (h : Q v s)
    (hk : cs.kind = .function) (hx : (envOf cn cs L a cd).kindOf x = some .globalImplicit) (hd : (x == ("__debug__" : Str)) = false) :
    wpAny (Mo w) A (eval (.Name x pos) (envOf cn cs L a cd)) Q E s := by
  obtain ⟨mean, mg, mb, T⟩ := C.T
  exact name_K F C.X (topRead_of T) e h hk hx hd
/-- a name of the built-ins -/
theorem nameB {x : Str} {pos : Pos} {v : Value} {Q : Value → Shared → Prop} (C : At w A L h₀) (F : Fr h₀ L s.heap m) (e : nsIn (K w.params) mainGlobals x = some none) (hv : bootBuiltins x = some v) (hn : x ≠ "__name__") (h : Q v s)
    (hk : cs.kind = .function) (hx : (envOf cn cs L a cd).kindOf x = some .globalImplicit) (hd : (x == ("__debug__" : Str)) = false) :
    wpAny (Mo w) A (eval (.Name x pos) (envOf cn cs L a cd)) Q E s := by
  obtain ⟨mean, mg, mb, T⟩ := C.T
  exact name_B F C.X (topRead_of T) e hv hn h hk hx hd
/-- the call of a def: what comes back is said by Post; d: the calls that may stand above each other -/
noncomputable def Claim (w : World) (d : Nat) (f : Addr) (vs : List Value) (news : List (Addr × Obj)) (Post : Value → List (Addr × Obj) → Prop) : Prop :=
  ∀ (A : Around) (L : Addr) (h₀ : Heap) (m : Str → Option Value) (s : Shared) (Q E : Value → Shared → Prop),
    At w A L h₀ → Fr h₀ L s.heap m → News h₀ L s.heap news → A.depth + d < recursionLimit → A.units + 16 * d < cLine →
    (∀ v new h' tk', Post v new → Fr h₀ L h' m → News h₀ L h' (new ++ news) → Q v { s with heap := h', toks := tk' }) →
      wpAny (Mo w) A (call (.ref f) vs) Q E s
/-- a def's end -/
noncomputable def Back (gn : Array GenState) (dr : Drawn) (os : OsState) (g : Heap) (L : Addr) (news : List (Addr × Obj)) (Post : Value → List (Addr × Obj) → Prop) (fl : Flow) (s' : Shared) : Prop :=
  ∃ new h' tk' m', s' = ⟨h', gn, dr, tk', os⟩ ∧ Fr g L h' m' ∧ News g L h' (new ++ news) ∧ Post (match fl with | .ret v => v | _ => .none) new
theorem back_ {gn : Array GenState} {dr : Drawn} {os : OsState} {g h' : Heap} {tk' : Nat} {m' : Str → Option Value} {Post : Value → List (Addr × Obj) → Prop} {v : Value} {new : List (Addr × Obj)} (F : Fr g L h' m') (N : News g L h' (new ++ news)) (p : Post v new) :
    Back gn dr os g L news Post (.ret v) ⟨h', gn, dr, tk', os⟩ := ⟨new, h', tk', m', rfl, F, N, p⟩
theorem back0 {gn : Array GenState} {dr : Drawn} {os : OsState} {g h' : Heap} {tk' : Nat} {m' : Str → Option Value} {Post : Value → List (Addr × Obj) → Prop} {v : Value} (F : Fr g L h' m') (N : News g L h' news) (p : Post v []) :
    Back gn dr os g L news Post (.ret v) ⟨h', gn, dr, tk', os⟩ := ⟨[], h', tk', m', rfl, F, N, p⟩
theorem enter {d f : Nat} {vs : List Value} {Post : Value → List (Addr × Obj) → Prop} {name qual : Str} {params : Arguments} {body : List Stmt} {scope : Scope} {dV kV doc pm cdv ct oc : Value} {an od : Option Addr} {osl : Array (Option Value)} {binds l : List (Str × Value)}
    (ho : (K w.params).lookup f = some ⟨oc, od, .func (fnOf name qual params body scope dV kV doc pm an cdv ct), osl⟩) (hcd : codeIn (K w.params) cdv qual = true)
    (hbind : ∀ s : Shared, (K w.params).In s.heap → BindsTo s (fnOf name qual params body scope dV kV doc pm an cdv ct) ⟨vs, []⟩ binds) (hl : binds.reverse = l) (hloc : ∀ y ∈ binds, scope.names.lookup y.1 = some .local)
    (hco : scope.isCoroutine = false) (hgen : scope.isGenerator = false) (hk : scope.kind = .function) (hcell : ∀ x ∈ scope.names, x.2 ≠ .cell)
    (h : ∀ (A : Around) (g : Heap) (L : Addr) (hp : Heap) (gn : Array GenState) (dr : Drawn) (tk : Nat) (os : OsState), At w A L g → Fr g L hp (lk l) → News g L hp news → A.depth + d < recursionLimit → A.units + 16 * d < cLine →
      wpAny (Mo w) A (execs body (envOf qual scope L f cdv)) (Back gn dr os g L news Post) (fun _ _ => False) ⟨hp, gn, dr, tk, os⟩) : Claim w (d + 1) f vs news Post := by
  intro A L h₀ m s Q E C F N hd hu hq
  obtain ⟨A₀, base, env, outer, B, hA, hf, hke⟩ := C.below
  obtain ⟨mean, mg, mb, T⟩ := C.T
  refine wpAny_call (code_def B F C.X N T hA hf hke ho hcd (by omega) (hbind s (C.X.keeps F.keep)) hloc ?_ hco hgen hk hcell)
  intro g L' h₁ FG F' N' B' X' T'
  rw [lk_rev hl] at F'
  refine wpAny_mono (h (A.deeper (envOf qual scope L' f cdv)) g L' h₁ s.gens s.drawn (s.toks + binds.length) s.os ⟨⟨A, base, _, _, B', by simp only [Around.deeper, hA, Option.map_some]; rfl, rfl, hk⟩, X', ⟨mean, mg, mb, T'⟩, C.hh⟩ F' N' ?_ ?_) ?_ ?_
  · show A.depth + 1 + d < recursionLimit
    omega
  · show A.units + 3 + 16 * d < cLine
    omega
  · rintro fl s' ⟨new, h', tk', m', rfl, F₂, N₂, p⟩
    exact leaveK_ F₂ N₂ fun F₃ N₃ => hq _ new h' tk' p F₃ N₃
  · intro _ _ x
    exact x.elim
end
end Mine
end
section -- F0
open PySem PySem.W PyProof.Rows PySem.Calls
set_option maxRecDepth 100000
namespace Mine
noncomputable def bd (i : Nat) : List Stmt := match (fnp i).body with | .stmts b => b | _ => []
noncomputable abbrev fo (i : Nat) (pm dV : Value) (cd : Nat) : Obj := ⟨.type "function", none, .func (fnOf (fnp i).name (fnp i).name (fnp i).params (bd i) (fnp i).scope dV .none .none pm none (.ref cd) .none), #[]⟩
/-- the frame of the def at place i -/
noncomputable abbrev ev (i : Nat) (f cd : Nat) (L : Addr) : Env := envOf (fnp i).name (fnp i).scope L f (.ref cd)
/-- a store into a frame -/
noncomputable def up (x : Str) (v : Value) : List (Str × Value) → List (Str × Value)
  | [] => [(x, v)]
  | (y, u) :: r => if y = x then (y, v) :: r else (y, u) :: up x v r
theorem lk_cons (y : Str) (u : Value) (r : List (Str × Value)) (z : Str) : lk ((y, u) :: r) z = if z = y then some u else lk r z := by
  unfold lk
  rw [List.lookup_cons]
  by_cases h : z = y
  · subst h; simp
  · rw [if_neg h, beq_eq_false_iff_ne.mpr h]
theorem lk_up (x : Str) (v : Value) : ∀ l : List (Str × Value), (fun y => if y = x then some v else lk l y) = lk (up x v l)
  | [] => by funext z; unfold up; rw [lk_cons]
  | (y, u) :: r => by
    funext z
    unfold up
    have ih := congrFun (lk_up x v r) z
    by_cases h : y = x
    · subst h
      rw [if_pos rfl, lk_cons, lk_cons]
      by_cases q : z = y <;> simp [q]
    · rw [if_neg h, lk_cons, lk_cons, ← ih]
      by_cases q : z = y
      · subst q; simp [h]
      · simp [q]
section
variable {w : World} {A : Around} {E : Value → Shared → Prop} {s : Shared} {cn : Str} {cs : Scope} {L a : Addr} {cd : Value} {h₀ : Heap} {l : List (Str × Value)} {news : List (Addr × Obj)}
theorem st_ {x : Str} {v : Value} {Q : Unit → Shared → Prop} (F : Fr h₀ L s.heap (lk l)) (N : News h₀ L s.heap news)
    (h : ∀ h', Fr h₀ L h' (lk (up x v l)) → News h₀ L h' news → Q () { s with heap := h', toks := s.toks + 1 })
    (hk : cs.kind = .function) (hl : (envOf cn cs L a cd).kindOf x = some .local) :
    wpAny (Mo w) A (storeName (envOf cn cs L a cd) x v) Q E s :=
  stN F N (fun h' F' N' => h h' (lk_up x v l ▸ F') N') hk hl
end
theorem fo14 (P : Params) : (K P).lookup 59 = some (fo 14 (.str (S "cpy313.email.quoprimime") 1362) (.none) 58) := by kernel_rfl
theorem g_unquote (P : Params) : nsIn (K P) mainGlobals (S "unquote") = some (some (.ref 59)) := by kernel_rfl
theorem kp_unquote (P : Params) : keepIn (K P) (.ref 59) = true := by kernel_rfl
theorem fo15 (P : Params) : (K P).lookup 66 = some (fo 15 (.str (S "cpy313.email.quoprimime") 1362) (.none) 65) := by kernel_rfl
theorem g_quote (P : Params) : nsIn (K P) mainGlobals (S "quote") = some (some (.ref 66)) := by kernel_rfl
theorem kp_quote (P : Params) : keepIn (K P) (.ref 66) = true := by kernel_rfl
theorem fo19 (P : Params) : (K P).lookup 79 = some (fo 19 (.str (S "cpy313.email.quoprimime") 1362) (.ref 72) 78) := by kernel_rfl
theorem g_decode (P : Params) : nsIn (K P) mainGlobals (S "decode") = some (some (.ref 79)) := by kernel_rfl
theorem kp_decode (P : Params) : keepIn (K P) (.ref 79) = true := by kernel_rfl
theorem fo20 (P : Params) : (K P).lookup 86 = some (fo 20 (.str (S "cpy313.email.quoprimime") 1362) (.none) 85) := by kernel_rfl
theorem g_unquote_match (P : Params) : nsIn (K P) mainGlobals (S "_unquote_match") = some (some (.ref 86)) := by kernel_rfl
theorem kp_unquote_match (P : Params) : keepIn (K P) (.ref 86) = true := by kernel_rfl
theorem fo21 (P : Params) : (K P).lookup 93 = some (fo 21 (.str (S "cpy313.email.quoprimime") 1362) (.none) 92) := by kernel_rfl
theorem g_header_decode (P : Params) : nsIn (K P) mainGlobals (S "header_decode") = some (some (.ref 93)) := by kernel_rfl
theorem kp_header_decode (P : Params) : keepIn (K P) (.ref 93) = true := by kernel_rfl
theorem fo74 (P : Params) : (K P).lookup 103 = some (fo 74 (.str (S "cpy313.token") 1911) (.none) 102) := by kernel_rfl
theorem g_ISTERMINAL (P : Params) : nsIn (K P) mainGlobals (S "ISTERMINAL") = some (some (.ref 103)) := by kernel_rfl
theorem kp_ISTERMINAL (P : Params) : keepIn (K P) (.ref 103) = true := by kernel_rfl
theorem fo75 (P : Params) : (K P).lookup 110 = some (fo 75 (.str (S "cpy313.token") 1911) (.none) 109) := by kernel_rfl
theorem g_ISNONTERMINAL (P : Params) : nsIn (K P) mainGlobals (S "ISNONTERMINAL") = some (some (.ref 110)) := by kernel_rfl
theorem kp_ISNONTERMINAL (P : Params) : keepIn (K P) (.ref 110) = true := by kernel_rfl
theorem fo76 (P : Params) : (K P).lookup 117 = some (fo 76 (.str (S "cpy313.token") 1911) (.none) 116) := by kernel_rfl
theorem g_ISEOF (P : Params) : nsIn (K P) mainGlobals (S "ISEOF") = some (some (.ref 117)) := by kernel_rfl
theorem kp_ISEOF (P : Params) : keepIn (K P) (.ref 117) = true := by kernel_rfl
theorem fo78 (P : Params) : (K P).lookup 124 = some (fo 78 (.str (S "law_rs0129_01") 2131) (.none) 123) := by kernel_rfl
theorem g_law_operators (P : Params) : nsIn (K P) mainGlobals (S "_law_operators") = some (some (.ref 124)) := by kernel_rfl
theorem kp_law_operators (P : Params) : keepIn (K P) (.ref 124) = true := by kernel_rfl
theorem fo79 (P : Params) : (K P).lookup 131 = some (fo 79 (.str (S "law_rs0129_01") 2131) (.none) 130) := by kernel_rfl
theorem g_law_read (P : Params) : nsIn (K P) mainGlobals (S "_law_read") = some (some (.ref 131)) := by kernel_rfl
theorem kp_law_read (P : Params) : keepIn (K P) (.ref 131) = true := by kernel_rfl
theorem fo80 (P : Params) : (K P).lookup 138 = some (fo 80 (.str (S "law_rs0129_01") 2131) (.none) 137) := by kernel_rfl
theorem g_law_units (P : Params) : nsIn (K P) mainGlobals (S "_law_units") = some (some (.ref 138)) := by kernel_rfl
theorem kp_law_units (P : Params) : keepIn (K P) (.ref 138) = true := by kernel_rfl
theorem fo81 (P : Params) : (K P).lookup 143 = some (fo 81 (.str (S "law_rs0129_01") 2131) (.none) 142) := by kernel_rfl
theorem g_law_counted (P : Params) : nsIn (K P) mainGlobals (S "_law_counted") = some (some (.ref 143)) := by kernel_rfl
theorem kp_law_counted (P : Params) : keepIn (K P) (.ref 143) = true := by kernel_rfl
theorem fo82 (P : Params) : (K P).lookup 150 = some (fo 82 (.str (S "law_rs0129_01") 2131) (.none) 149) := by kernel_rfl
theorem g_law (P : Params) : nsIn (K P) mainGlobals (S "law") = some (some (.ref 150)) := by kernel_rfl
theorem kp_law (P : Params) : keepIn (K P) (.ref 150) = true := by kernel_rfl
theorem g_twin_re_1 (P : Params) : nsIn (K P) mainGlobals (S "_twin_re_1") = some (some (.ref 36)) := by kernel_rfl
theorem g_QUOPRI_MAP (P : Params) : nsIn (K P) mainGlobals (S "_QUOPRI_MAP") = some (some (.ref 39)) := by kernel_rfl
theorem g_hexdigits (P : Params) : nsIn (K P) mainGlobals (S "hexdigits") = some (some (.str (S "0123456789abcdefABCDEF") 1360)) := by kernel_rfl
theorem g_ENDMARKER (P : Params) : nsIn (K P) mainGlobals (S "ENDMARKER") = some (some (.int 0 1913)) := by kernel_rfl
theorem g_NT_OFFSET (P : Params) : nsIn (K P) mainGlobals (S "NT_OFFSET") = some (some (.int 256 2011)) := by kernel_rfl
theorem g_EXACT_TOKEN_TYPES (P : Params) : nsIn (K P) mainGlobals (S "EXACT_TOKEN_TYPES") = some (some (.ref 94)) := by kernel_rfl
theorem n_chr (P : Params) : nsIn (K P) mainGlobals (S "chr") = some none := by kernel_rfl
theorem n_int (P : Params) : nsIn (K P) mainGlobals (S "int") = some none := by kernel_rfl
theorem n_ord (P : Params) : nsIn (K P) mainGlobals (S "ord") = some none := by kernel_rfl
theorem n_len (P : Params) : nsIn (K P) mainGlobals (S "len") = some none := by kernel_rfl
theorem n_range (P : Params) : nsIn (K P) mainGlobals (S "range") = some none := by kernel_rfl
end Mine
end
section -- F1
open PySem PySem.W PyProof.Rows PySem.Calls
set_option maxRecDepth 100000
namespace Mine
local macro_rules | `(tactic| walk_at "m") => `(tactic| first
  | with_reducible refine wpAny_execs_cons ?_
  | with_reducible refine wpAny_Return_some ?_
  | with_reducible refine wpAny_Compare1 ?_
  | (refine ld (by assumption) rfl ?_ (by kernel_rfl) (by kernel_rfl) (by kernel_rfl)))
local macro_rules | `(tactic| walk_at "in") => `(tactic| (refine enter (by first | exact fo74 _ | exact fo75 _ | exact fo76 _) (by kernel_rfl) (fun s _ => BindsTo.of_eq (by kernel_rfl)) rfl (locs (by kernel_rfl)) (by kernel_rfl) (by kernel_rfl) (by kernel_rfl) (by decide +kernel) ?_))
theorem isterm {w : World} {news : List (Addr × Obj)} (x : Int) (t : Tok) : Claim w 1 103 [.int x t] news (fun v new => v = .bool (decide (x < 256)) ∧ new = []) := by
  refine enter (binds := [(S "x", .int x t)]) (l := [(S "x", .int x t)]) (fo74 _) (by kernel_rfl) (fun s _ => BindsTo.of_eq (by kernel_rfl)) rfl (locs (by kernel_rfl)) (by kernel_rfl) (by kernel_rfl) (by kernel_rfl) (by decide +kernel) ?_
  intro A g L hp gn dr tk os C F N hd hu
  refine wpAny_execs_cons ?_
  walk_at "m"
  walk_at "m"
  walk_at "m"
  refine nameK C F (g_NT_OFFSET _) ?_ (by kernel_rfl) (by kernel_rfl) (by kernel_rfl)
  refine lt_int ?_
  exact back0 F N ⟨rfl, rfl⟩
theorem isnont {w : World} {news : List (Addr × Obj)} (x : Int) (t : Tok) : Claim w 1 110 [.int x t] news (fun v new => v = .bool (decide (256 ≤ x)) ∧ new = []) := by
  refine enter (binds := [(S "x", .int x t)]) (l := [(S "x", .int x t)]) (fo75 _) (by kernel_rfl) (fun s _ => BindsTo.of_eq (by kernel_rfl)) rfl (locs (by kernel_rfl)) (by kernel_rfl) (by kernel_rfl) (by kernel_rfl) (by decide +kernel) ?_
  intro A g L hp gn dr tk os C F N hd hu
  refine wpAny_execs_cons ?_
  walk_at "m"
  walk_at "m"
  walk_at "m"
  refine nameK C F (g_NT_OFFSET _) ?_ (by kernel_rfl) (by kernel_rfl) (by kernel_rfl)
  refine ge_int ?_
  exact back0 F N ⟨rfl, rfl⟩
theorem iseof {w : World} {news : List (Addr × Obj)} (x : Int) (t : Tok) : Claim w 1 117 [.int x t] news (fun v new => v = .bool (x == 0) ∧ new = []) := by
  refine enter (binds := [(S "x", .int x t)]) (l := [(S "x", .int x t)]) (fo76 _) (by kernel_rfl) (fun s _ => BindsTo.of_eq (by kernel_rfl)) rfl (locs (by kernel_rfl)) (by kernel_rfl) (by kernel_rfl) (by kernel_rfl) (by decide +kernel) ?_
  intro A g L hp gn dr tk os C F N hd hu
  refine wpAny_execs_cons ?_
  walk_at "m"
  walk_at "m"
  walk_at "m"
  refine nameK C F (g_ENDMARKER _) ?_ (by kernel_rfl) (by kernel_rfl) (by kernel_rfl)
  refine eq_int ?_
  exact back0 F N ⟨rfl, rfl⟩
end Mine
end
section -- F2
open PySem PySem.W PyProof.Rows PySem.Calls PySem.NumText
set_option maxRecDepth 100000
namespace Mine
/-- the figures of base 16 -/
noncomputable def hexL : List Nat := [48, 49, 50, 51, 52, 53, 54, 55, 56, 57, 97, 98, 99, 100, 101, 102, 65, 66, 67, 68, 69, 70]
noncomputable def hv (c : Nat) : Nat := if c < 58 then c - 48 else if c < 71 then c - 55 else c - 87
theorem hex_read0 : ∀ a ∈ hexL, ∀ b ∈ hexL, ([a, b].dropWhile blank = [a, b] ∧ sign [a, b] = (false, [a, b]) ∧ based 16 [a, b] = (16, false, [a, b]) ∧ ([a, b].reverse.dropWhile blank).reverse = [a, b] ∧ digits? 16 [a, b] = some #[hv a, hv b]) := by decide +kernel
theorem hex_read {a b : Nat} (ha : a ∈ hexL) (hb : b ∈ hexL) : (int_private% "readNumeral") 0 16 [a, b] = (int_private% "Numeral.value") ((16 * hv a + hv b : Nat) : Int) := by
  obtain ⟨h1, h2, h3, h4, h5⟩ := hex_read0 a ha b hb
  rw [readNumeral_eq]
  simp only [h1, h2, h3, h4, h5]
  show (int_private% "Numeral.value") (((0 * 16 + hv a) * 16 + hv b : Nat) : Int) = _
  rw [show (0 * 16 + hv a) * 16 + hv b = 16 * hv a + hv b by omega]
theorem typeCall_int_2 (a b : Value) : checkTypeCall "int" ⟨[a, b], []⟩ = pure () := by kernel_rfl
theorem newCall_int_2 (a b : Value) : checkBuiltinCall "int.__new__" ⟨[.type "int", a, b], []⟩ = pure () := by kernel_rfl
theorem wp_text16 {M : Model} {A : Around} {E : Value → Shared → Prop} {s : Shared} {Q : Value → Shared → Prop} {v : Value} {text : List Nat} {n : Int}
    (hs : (text.takeWhile (· != 0)).length ≤ 640) (hr : (int_private% "readNumeral") 0 16 (text.takeWhile (· != 0)) = (int_private% "Numeral.value") n)
    (ha : ((text.takeWhile (· != 0)).length == text.length) = true) (h : Q (.int n s.toks) { s with toks := s.toks + 1 }) :
    wpAny M A ((int_private% "intFromText") v text 16) Q E s := by
  obtain ⟨hp, g, d, tk, os⟩ := s
  repeat (any_goals (first
    | assumption
    | (with_reducible refine wpAny_ite_true (decide_eq_true hs) ?_)
    | (with_reducible refine wpAny_ite_true (decide_eq_true ha) ?_)
    | wp_step))
  all_goals (try rw [hr])
  all_goals (try dsimp only)
  repeat (any_goals (first
    | assumption
    | (with_reducible refine wpAny_ite_true (decide_eq_true hs) ?_)
    | (with_reducible refine wpAny_ite_true (decide_eq_true ha) ?_)
    | wp_step))
theorem hex_small : ∀ a ∈ hexL, a < 128 ∧ a ≠ 0 := by decide
structure Hid (p : Prop) : Prop where
  out : p
theorem numText2 {a b : Nat} (ha : a ∈ hexL) (hb : b ∈ hexL) : numTextOf (Str.mk #[a, b]) = [a, b] ∧ numSeenOf (Str.mk #[a, b]) = [a, b] := by
  have h1 := hex_small a ha
  have h2 := hex_small b hb
  have e : numTextOf (Str.mk #[a, b]) = [a, b] := if_pos (by simp [h1.1, h2.1])
  refine ⟨e, ?_⟩
  show (numTextOf (Str.mk #[a, b])).takeWhile (· != 0) = _
  rw [e]
  simp [h1.2, h2.2]
set_option maxHeartbeats 4000000 in
theorem gives16 {a b : Nat} (ha : a ∈ hexL) (hb : b ∈ hexL) (u v : Tok) : Gives (Builtin.«int.__new__» ⟨[.type "int", .str (Str.mk #[a, b]) u, .int 16 v], []⟩) (.int ((16 * hv a + hv b : Nat) : Int)) :=
  .of_wp fun M A E s Q h => by
    obtain ⟨hp, g, d, tk, os⟩ := s
    have f1 := F.conv_sub_int
    have f2 := F.madeHere_int
    have f6 : typeOf (.str (Str.mk #[a, b]) u) = pure (.type "str") := rfl
    obtain ⟨e1, e2⟩ := numText2 ha hb
    have hs : (numSeenOf (Str.mk #[a, b])).length ≤ 640 := by rw [e2]; simp
    have hr : (int_private% "readNumeral") 0 16 (numSeenOf (Str.mk #[a, b])) = (int_private% "Numeral.value") ((16 * hv a + hv b : Nat) : Int) := by rw [e2]; exact hex_read ha hb
    have hq : ((numSeenOf (Str.mk #[a, b])).length == (numTextOf (Str.mk #[a, b])).length) = true := by rw [e1, e2]; rfl
    have hk := Hid.mk (And.intro hs (And.intro hr hq))
    clear hs hr hq e1 e2 ha hb
    repeat (any_goals (first
      | assumption
      | ((with_reducible show wpAny _ _ ((int_private% "intFromText") _ _ _) _ _ _); refine wp_text16 hk.out.1 hk.out.2.1 hk.out.2.2 ?_)
      | wp_step))
    all_goals exact ⟨_, rfl, h⟩
theorem args_init3 (obj a b : Value) : argsOk "object.__init__" ⟨[obj, a, b], []⟩ := by
  rw [argsOk]; kernel_rfl
section
variable {w : World} {A : Around} {E : Value → Shared → Prop} {s : Shared} {Q : Value → Shared → Prop}
theorem int16 {a b : Nat} {u v : Tok} (ha : a ∈ hexL) (hb : b ∈ hexL) (h : Q (.int ((16 * hv a + hv b : Nat) : Int) s.toks) { s with toks := s.toks + 1 }) :
    wpAny (Mo w) A (call (.type "int") [.str (Str.mk #[a, b]) u, .int 16 v]) Q E s :=
  callType_new F.called_int F.newNe_int (typeCall_int_2 _ _) (newCall_int_2 _ _) (fun obj => args_init3 obj _ _) F.entry_int_new (gives16 ha hb u v).meets (show (Made.int _).post _ s from ⟨rfl, h⟩)
end
end Mine
end
section
open PySem PySem.W PyProof.Rows PySem.Calls PySem.NumText
namespace Mine
local macro_rules | `(tactic| walk_at "m") => `(tactic| first
  | with_reducible refine wpAny_execs_cons ?_
  | with_reducible refine wpAny_execs_nil ?_
  | with_reducible refine wpAny_Return_some ?_
  | with_reducible refine wpAny_If ?_
  | with_reducible refine wpAny_Continue ?_
  | ((with_reducible show wpAny _ _ (exec (Stmt.Assign [Expr.Name _ _] _ _) _) _ _ _); refine wpAny_Assign_Name ?_ (by rfl))
  | with_reducible refine wpAny_AugAssign_Name ?_
  | ((with_reducible show wpAny _ _ (exec (Stmt.Expr _ _) _) _ _ _); refine wpAny_Expr ?_ (by kernel_rfl) (by rfl))
  | ((with_reducible show wpAny _ _ (eval (Expr.Compare _ [_] [_] _) _) _ _ _); refine wpAny_Compare1 ?_ (by rfl))
  | ((with_reducible show wpAny _ _ (isTrue (Expr.Compare _ [_] [_] _) _ _) _ _ _); refine wpAny_isTrue_Compare1 ?_ (by rfl))
  | with_reducible refine isTrue_not ?_
  | ((with_reducible show wpAny _ _ (isTrue (Expr.BoolOp BoolOp.And (_ :: _) _) _ _) _ _ _); refine isTrue_and ?_)
  | ((with_reducible show wpAny _ _ (isTrue (Expr.BoolOp BoolOp.And [] _) _ _) _ _ _); refine isTrue_and_nil ?_)
  | ((with_reducible show wpAny _ _ (isTrue (Expr.BoolOp BoolOp.Or (_ :: _) _) _ _) _ _ _); refine isTrue_or ?_)
  | ((with_reducible show wpAny _ _ (isTrue (Expr.BoolOp BoolOp.Or [] _) _ _) _ _ _); refine isTrue_or_nil ?_)
  | ((with_reducible show wpAny _ _ (isTrue (Expr.Name _ _) _ _) _ _ _); refine isTrue_plain ?_ (by rfl))
  | ((with_reducible show wpAny _ _ (isTrue (Expr.Call _ _ _ _) _ _) _ _ _); refine isTrue_plain ?_ (by rfl))
  | ((with_reducible show wpAny _ _ (eval (Expr.Call (Expr.Name _ _) _ [] _) _) _ _ _); refine Call_ ?_ (by rfl))
  | with_reducible refine Subscript_ ?_
  | with_reducible refine wpAny_BinOp ?_
  | with_reducible refine wpAny_UnaryOp ?_
  | with_reducible refine wpAny_Slice ?_
  | with_reducible refine evalPart_some_step ?_
  | with_reducible refine evalPart_none_step ?_
  | with_reducible refine wpAny_Constant_int ?_
  | with_reducible refine Calls.Constant_str ?_
  | with_reducible refine wpAny_truthy_bool ?_
  | with_reducible refine List_ ?_
  | ((with_reducible show wpAny _ _ (callWith _ (Value.builtin _) [] (backTo _ (starEach (_ :: _) _)) []) _ _ _); refine callWith_builtin1 ?_ (by rfl) (by rfl))
  | ((with_reducible show wpAny _ _ (callWith _ (Value.type _) [] (backTo _ (starEach (_ :: _) _)) []) _ _ _); refine PyProof.Rows.callWith_type1 ?_ (by rfl) (by rfl))
  | ((with_reducible show wpAny _ _ (spliced (backTo _ (starEach (_ :: _) _))) _ _ _); refine spliced_more ?_ (by rfl))
  | with_reducible refine spliced_none ?_
  | ((with_reducible show wpAny _ _ (eval (Expr.Name _ _) _) _ _ _); refine ld (by assumption) rfl ?_ (by kernel_rfl) (by kernel_rfl) (by kernel_rfl))
  | ((with_reducible show wpAny _ _ (loadName _ _) _ _ _); refine ldn (by assumption) rfl ?_ (by kernel_rfl) (by kernel_rfl))
  | ((with_reducible show wpAny _ _ (storeName _ _ _) _ _ _); (try dsimp only); refine st_ (by assumption) (by assumption) ?_ (by kernel_rfl) (by kernel_rfl); intro _ _ _)
  | ((with_reducible show wpAny _ _ (eval (Expr.Call (Expr.Attribute _ _ _) _ [] _) _) _ _ _); refine MethodCall_ ?_)
  | with_reducible refine GM.splitlines ?_
  | with_reducible refine GM.rstrip ?_
  | with_reducible refine GM.endswith ?_
  | with_reducible refine GM.index ?_
  | with_reducible refine GM.replace ?_
  | with_reducible refine GM.split ?_
  | with_reducible refine GM.upper ?_
  | with_reducible refine GM.lower ?_
  | with_reducible refine GM.join ?_
  | with_reducible refine callWith_method0 ?_
  | ((with_reducible show wpAny _ _ (callWith _ (Value.builtin _) [_] (backTo _ (starEach (_ :: _) _)) []) _ _ _); refine callWith_method1 ?_ (by rfl) (by rfl))
  | with_reducible refine lt_int ?_
  | with_reducible refine gt_int ?_
  | with_reducible refine eq_int ?_
  | with_reducible refine add_int ?_
  | with_reducible refine iadd_int ?_
  | with_reducible refine sub_int ?_
  | with_reducible refine isub_int ?_
  | dsimp only)
local macro_rules | `(tactic| walk_at "if") => `(tactic| (repeat (fail_if_success (with_reducible show wpAny _ _ (execs [Stmt.If _ _ _ _] _) _ _ _)); walk_at "m"))
local macro_rules | `(tactic| walk_at "as") => `(tactic| (repeat (fail_if_success (with_reducible show wpAny _ _ (execs [_, _, _, _] _) _ _ _)); walk_at "m"))
set_option maxRecDepth 100000
section -- F3
open PySem PySem.W PyProof.Rows PySem.Calls PySem.NumText
set_option maxRecDepth 100000
theorem slice13 (a b : Nat) : Txt.slice (Str.mk #[61, a, b]) (some 1) (some 3) = Str.mk #[a, b] := by rfl
theorem unquote_ {w : World} {news : List (Addr × Obj)} {a b : Nat} (ha : a ∈ hexL) (hb : b ∈ hexL) (t : Tok) : Claim w 1 59 [.str (Str.mk #[61, a, b]) t] news (fun v new => (∃ t, v = .str (Str.mk #[16 * hv a + hv b]) t) ∧ new = []) := by
  refine enter (binds := [(S "s", .str (Str.mk #[61, a, b]) t)]) (l := [(S "s", .str (Str.mk #[61, a, b]) t)]) (fo14 _) (by kernel_rfl) (fun s _ => BindsTo.of_eq (by kernel_rfl)) rfl (locs (by kernel_rfl)) (by kernel_rfl) (by kernel_rfl) (by kernel_rfl) (by decide +kernel) ?_
  intro A g L hp gn dr tk os C F N hd hu
  refine wpAny_execs_cons ?_
  repeat walk_at "m"
  refine nameB C F (n_chr _) boot_chr (by decide) ?_ (by kernel_rfl) (by kernel_rfl) (by kernel_rfl)
  repeat walk_at "m"
  refine nameB C F (n_int _) PyProof.Rows.boot_int (by decide) ?_ (by kernel_rfl) (by kernel_rfl) (by kernel_rfl)
  repeat walk_at "m"
  try dsimp only
  refine slice_strN_ss (hsz := ?hsz) (s := ⟨_, _, _, _, _⟩) F N ?_
  case hsz => show 3 ≤ 2 ^ 24; decide
  intro h1 t1 k1 F N
  rw [slice13]
  repeat walk_at "m"
  refine int16 ha hb ?_
  repeat walk_at "m"
  refine chr_of_range (by omega) ?_ ?_
  · have h1 : hv a < 16 ∧ hv b < 16 := (show ∀ a ∈ hexL, ∀ b ∈ hexL, hv a < 16 ∧ hv b < 16 by decide) a ha b hb
    omega
  · exact back0 F N ⟨⟨_, rfl⟩, rfl⟩
theorem qm_get (k : Nat) (hk : k < 256) : qm[k]? = some (qm.getD k .none) := by
  have : qm.length = 256 := by decide +kernel
  rw [List.getD_eq_getElem?_getD, List.getElem?_eq_getElem (by omega)]; rfl
theorem quote_ {w : World} {news : List (Addr × Obj)} {k : Nat} (hk : k < 256) (t : Tok) : Claim w 1 66 [.str (Str.mk #[k]) t] news (fun v new => v = qm.getD k .none ∧ new = []) := by
  refine enter (binds := [(S "c", .str (Str.mk #[k]) t)]) (l := [(S "c", .str (Str.mk #[k]) t)]) (fo15 _) (by kernel_rfl) (fun s _ => BindsTo.of_eq (by kernel_rfl)) rfl (locs (by kernel_rfl)) (by kernel_rfl) (by kernel_rfl) (by kernel_rfl) (by decide +kernel) ?_
  intro A g L hp gn dr tk os C F N hd hu
  refine wpAny_execs_cons ?_
  repeat walk_at "m"
  refine nameK C F (g_QUOPRI_MAP _) ?_ (by kernel_rfl) (by kernel_rfl) (by kernel_rfl)
  repeat walk_at "m"
  refine nameB C F (n_ord _) boot_ord (by decide) ?_ (by kernel_rfl) (by kernel_rfl) (by kernel_rfl)
  repeat walk_at "m"
  refine ord_of_one rfl ?_
  refine topList_K (l := qm) (dd := none) (sl := #[]) (n := 256) F C.X (by kernel_rfl) (by omega) (by show ((k : Nat) : Int) < 2 ^ 63; omega) (qm_get k hk) ?_
  exact back0 F N ⟨rfl, rfl⟩
end
section -- Loops
open PySem PySem.W PyProof.Rows PySem.Calls
set_option maxRecDepth 100000
/-- the end of a for's turn -/
noncomputable def Turn (gn : Array GenState) (dr : Drawn) (os : OsState) (h₀ : Heap) (L I : Addr) (own : List (Addr × Obj)) (Jn : List (Str × Value) → List (Addr × Obj) → Prop) (Q : Flow → Shared → Prop) (f : Flow) (s₂ : Shared) : Prop :=
  match f with
  | .ret v => Q (.ret v) s₂
  | .brk => Q .next s₂
  | _ => ∃ h' tk fl' news', s₂ = ⟨h', gn, dr, tk, os⟩ ∧ Fr h₀ L h' (lk fl') ∧ News h₀ L h' (own ++ news') ∧ (∀ p ∈ news', p.1 ≠ I) ∧ Jn fl' news'
/-- the end of a while's turn -/
noncomputable def WTurn (gn : Array GenState) (dr : Drawn) (os : OsState) (h₀ : Heap) (L : Addr) (J : Nat → List (Str × Value) → List (Addr × Obj) → Prop) (Q : Flow → Shared → Prop) (n : Nat) (f : Flow) (s₂ : Shared) : Prop :=
  match f with
  | .ret v => Q (.ret v) s₂
  | .brk => Q .next s₂
  | _ => ∃ h' tk fl' news' n', s₂ = ⟨h', gn, dr, tk, os⟩ ∧ Fr h₀ L h' (lk fl') ∧ News h₀ L h' news' ∧ n' < n ∧ J n' fl' news'
section
variable {w : World} {A : Around} {cn : Str} {cs : Scope} {L a : Addr} {cd : Value} {h₀ hp : Heap} {gn : Array GenState} {dr : Drawn} {tk : Nat} {os : OsState} {fl : List (Str × Value)} {news : List (Addr × Obj)} {Q : Flow → Shared → Prop}
theorem turn_next {I : Addr} {own news' : List (Addr × Obj)} {Jn : List (Str × Value) → List (Addr × Obj) → Prop} {h' : Heap} {tk' : Nat} {fl' : List (Str × Value)} (F : Fr h₀ L h' (lk fl')) (N : News h₀ L h' (own ++ news')) (hI : ∀ p ∈ news', p.1 ≠ I) (hJ : Jn fl' news') :
    Turn gn dr os h₀ L I own Jn Q .next ⟨h', gn, dr, tk', os⟩ := ⟨h', tk', fl', news', rfl, F, N, hI, hJ⟩
theorem turn_cont {I : Addr} {own news' : List (Addr × Obj)} {Jn : List (Str × Value) → List (Addr × Obj) → Prop} {h' : Heap} {tk' : Nat} {fl' : List (Str × Value)} (F : Fr h₀ L h' (lk fl')) (N : News h₀ L h' (own ++ news')) (hI : ∀ p ∈ news', p.1 ≠ I) (hJ : Jn fl' news') :
    Turn gn dr os h₀ L I own Jn Q .cont ⟨h', gn, dr, tk', os⟩ := ⟨h', tk', fl', news', rfl, F, N, hI, hJ⟩
theorem wturn_next {J : Nat → List (Str × Value) → List (Addr × Obj) → Prop} {n : Nat} {news' : List (Addr × Obj)} {h' : Heap} {tk' : Nat} {fl' : List (Str × Value)} (n' : Nat) (F : Fr h₀ L h' (lk fl')) (N : News h₀ L h' news') (hn : n' < n) (hJ : J n' fl' news') :
    WTurn gn dr os h₀ L J Q n .next ⟨h', gn, dr, tk', os⟩ := ⟨h', tk', fl', news', n', rfl, F, N, hn, hJ⟩
theorem wturn_cont {J : Nat → List (Str × Value) → List (Addr × Obj) → Prop} {n : Nat} {news' : List (Addr × Obj)} {h' : Heap} {tk' : Nat} {fl' : List (Str × Value)} (n' : Nat) (F : Fr h₀ L h' (lk fl')) (N : News h₀ L h' news') (hn : n' < n) (hJ : J n' fl' news') :
    WTurn gn dr os h₀ L J Q n .cont ⟨h', gn, dr, tk', os⟩ := ⟨h', tk', fl', news', n', rfl, F, N, hn, hJ⟩
theorem whileL {test : Expr} {body : List Stmt} {pos : Pos} {env : Env} (J : Nat → List (Str × Value) → List (Addr × Obj) → Prop) {n₀ : Nat} (F : Fr h₀ L hp (lk fl)) (N : News h₀ L hp news) (hJ : J n₀ fl news)
    (turn : ∀ n fl news h tk, Fr h₀ L h (lk fl) → News h₀ L h news → J n fl news →
      wpAny (Mo w) A (isTrue test env (eval test env)) (fun b s₂ => if b = true then wpAny (Mo w) A (execs body env) (WTurn gn dr os h₀ L J Q n) (fun _ _ => False) s₂ else Q .next s₂) (fun _ _ => False) ⟨h, gn, dr, tk, os⟩) :
    wpAny (Mo w) A (exec (.While test body [] pos) env) Q (fun _ _ => False) ⟨hp, gn, dr, tk, os⟩ := by
  refine While_inv2 (fun n m news => ∃ fl, m = lk fl ∧ J n fl news) (n₀ := n₀) F N ⟨fl, rfl, hJ⟩ ?_ PassesOwn.never
  rintro n m₁ news₁ h₁ tk₁ F₁ N₁ ⟨fl₁, rfl, J₁⟩
  refine wpAny_mono (turn n fl₁ news₁ h₁ tk₁ F₁ N₁ J₁) (fun b s₂ h₂ => ?_) fun _ _ x => x
  cases b with
  | false => simpa using h₂
  | true =>
    simp only [if_true] at h₂ ⊢
    refine wpAny_mono h₂ (fun f s₃ h₃ => ?_) fun _ _ x => x
    cases f with
    | ret v => exact h₃
    | brk => exact h₃
    | next =>
      obtain ⟨h', tk, fl', news', n', rfl, F', N', hn, hJ'⟩ := h₃
      exact ⟨h', tk, _, news', n', rfl, F', N', hn, fl', rfl, hJ'⟩
    | cont =>
      obtain ⟨h', tk, fl', news', n', rfl, F', N', hn, hJ'⟩ := h₃
      exact ⟨h', tk, _, news', n', rfl, F', N', hn, fl', rfl, hJ'⟩
theorem loopAt {x : Str} {body : List Stmt} {I : Addr} {fp : List Addr} {n : Nat} {P : Nat → Value → Prop} {St : Nat → Heap → Prop} (W : Walks pE w A I fp [I] n P St) (hL : L ∉ fp) (hI : h₀.get? I = none)
    (J : Nat → List (Str × Value) → List (Addr × Obj) → Prop) (hnI : ∀ p ∈ news, p.1 ≠ I) (hst : St 0 hp) (F : Fr h₀ L hp (lk fl)) (N : News h₀ L hp news) (h0 : J 0 fl news)
    (turn : ∀ i v fl₁ news₁ h tk own, i < n → P i v → J i fl₁ news₁ → (∀ p ∈ news₁, p.1 ≠ I) → (∀ p ∈ own, p.1 ∈ fp) → (∀ b ∈ fp, h₀.get? b = none → ∀ o, h.get? b = some o → (b, o) ∈ own) → St (i + 1) h →
      Fr h₀ L h (lk (up x v fl₁)) → News h₀ L h (own ++ news₁) → wpAny (Mo w) A (execs body (envOf cn cs L a cd)) (Turn gn dr os h₀ L I own (J (i + 1)) Q) (fun _ _ => False) ⟨h, gn, dr, tk, os⟩)
    (done : ∀ fl₁ news₁ h tk, J n fl₁ news₁ → (∀ p ∈ news₁, p.1 ≠ I) → Fr h₀ L h (lk fl₁) → News h₀ L h news₁ → Q .next ⟨h, gn, dr, tk, os⟩) :
    LoopAtV pE w A h₀ (envOf cn cs L a cd) x body Q (fun _ _ => False) (.ref I) ⟨hp, gn, dr, tk, os⟩ := by
  refine ⟨I, fp, [I], n, P, St, lk fl, news, fun i m news => ∃ fl, m = lk fl ∧ J i fl news, rfl, W, hL, fun b hb => by rw [List.mem_singleton.mp hb]; exact hI, fun p hp => by simpa using hnI p hp, hst, F, N, ⟨fl, rfl, h0⟩, ?_, ?_⟩
  · rintro i v m₁ news₁ s₁ own ⟨h, tk, rfl⟩ hi hP ⟨fl₁, rfl, hJ⟩ hn1 hfp _ hown hst₁ F₁ N₁
    rw [lk_up] at F₁
    refine wpAny_mono (turn i v fl₁ news₁ h tk own hi hP hJ (fun p hp => by simpa using hn1 p hp) hfp hown hst₁ F₁ N₁) (fun f s₂ h₂ => ?_) fun _ _ x => x
    cases f with
    | ret v => exact h₂
    | brk => exact h₂
    | next =>
      obtain ⟨h', tk', fl', news', rfl, F', N', hI', hJ'⟩ := h₂
      exact ⟨rfl, h', tk', _, news', rfl, F', N', fun p hp => by simpa using hI' p hp, fl', rfl, hJ'⟩
    | cont =>
      obtain ⟨h', tk', fl', news', rfl, F', N', hI', hJ'⟩ := h₂
      exact ⟨rfl, h', tk', _, news', rfl, F', N', fun p hp => by simpa using hI' p hp, fl', rfl, hJ'⟩
  · rintro h' tk' m' news' F' N' hn' ⟨fl', rfl, hJ'⟩
    exact done fl' news' h' tk' hJ' (fun p hp => by simpa using hn' p hp) F' N'
theorem fresh_ne (N : News h₀ L hp news) : ∀ p ∈ news, p.1 ≠ hp.objs.size := fun p hp' e => absurd (Heap.lt_size (N p hp').1) (by rw [e]; exact Nat.lt_irrefl _)
theorem fresh_none (F : Fr h₀ L hp (lk fl)) : h₀.get? hp.objs.size = none := by
  cases q : h₀.get? hp.objs.size with
  | none => rfl
  | some o => exact absurd (Heap.lt_size (F.keep _ _ q)) (Nat.lt_irrefl _)
theorem frame_lt (F : Fr h₀ L hp (lk fl)) : L < hp.objs.size := F.ns.lt
theorem newsPush (N : News h₀ L hp news) (o : Obj) : News h₀ L (hp.push o) news := fun p hp' => ⟨Heap.get?_push_of_some _ (N p hp').1, (N p hp').2⟩
/-- a for over a list that stands -/
theorem iterL {x : Str} {body : List Stmt} {l : Addr} {vs : List Value} (hh : A.handled = none) (hl : hp.IsList l vs.toArray) (hlL : l ≠ L)
    (J : Nat → List (Str × Value) → List (Addr × Obj) → Prop) (F : Fr h₀ L hp (lk fl)) (N : News h₀ L hp news) (h0 : J 0 fl news)
    (turn : ∀ I i v fl₁ news₁ h tk own, vs[i]? = some v → J i fl₁ news₁ → (∀ p ∈ news₁, p.1 ≠ I) → (∀ p ∈ own, p.1 = I ∨ p.1 = l) → (∃ io, (I, io) ∈ own) →
      Fr h₀ L h (lk (up x v fl₁)) → News h₀ L h (own ++ news₁) → wpAny (Mo w) A (execs body (envOf cn cs L a cd)) (Turn gn dr os h₀ L I own (J (i + 1)) Q) (fun _ _ => False) ⟨h, gn, dr, tk, os⟩)
    (done : ∀ fl₁ news₁ h tk, J vs.length fl₁ news₁ → Fr h₀ L h (lk fl₁) → News h₀ L h news₁ → Q .next ⟨h, gn, dr, tk, os⟩) :
    wpAny (Mo w) A (pyIter (.ref l)) (fun it s₂ => LoopAtV pE w A h₀ (envOf cn cs L a cd) x body Q (fun _ _ => False) it s₂) (fun _ _ => False) ⟨hp, gn, dr, tk, os⟩ := by
  obtain ⟨ol, hol, _⟩ := id hl
  have hne : l ≠ hp.objs.size := Nat.ne_of_lt (Heap.lt_size hol)
  have hI := fresh_none F
  refine wpAny_pyIter_list hl ?_
  refine loopAt (I := hp.objs.size) (Walks.list hh hp.objs.size l hne vs.toArray) ?_ hI J (fresh_ne N) ⟨⟨_, Heap.get?_push_size _ rfl, rfl, rfl⟩, hl.at fun o e => Heap.get?_push_of_some _ e⟩ (F.push _) (newsPush N _) h0 ?_ ?_
  · intro hm
    rcases List.mem_cons.mp hm with e | hm
    · exact absurd (frame_lt F) (e ▸ Nat.lt_irrefl _)
    · exact hlL (List.mem_singleton.mp hm).symm
  · intro i v fl₁ news₁ h tk own hi hP hJ hn1 hfp hown hst F₁ N₁
    refine turn _ i v fl₁ news₁ h tk own (by simpa using hP) hJ hn1 (fun p hp => by simpa using hfp p hp) ?_ F₁ N₁
    obtain ⟨o, ho, _⟩ := hst.1
    exact ⟨o, hown _ (by simp) hI o ho⟩
  · intro fl₁ news₁ h tk hJ _ F₁ N₁
    exact done fl₁ news₁ h tk (by simpa using hJ) F₁ N₁
end
end
section -- G0
open PySem PySem.W PyProof.Rows PySem.Calls PySem.Builtin.Str
set_option maxRecDepth 100000
/-- a text by its signs -/
noncomputable abbrev T (l : List Nat) : Str := Str.mk l.toArray
theorem T_len (l : List Nat) : (T l).length = l.length := by show l.toArray.size = _; simp
theorem T_app (a b : List Nat) : T a ++ T b = T (a ++ b) := by
  show Str.mk (a.toArray ++ b.toArray) = _
  simp [T]
theorem T_inj {a b : List Nat} (h : T a = T b) : a = b := by
  have := congrArg (fun s => s.cps.toList) h
  simpa [T] using this
theorem range_get (l : List Nat) (a : Nat) : ∀ c, ((List.range c).map (fun k => a + k)).filterMap (fun i => l.toArray[i]?) = (l.drop a).take c
  | 0 => by simp
  | c + 1 => by
    rw [List.range_succ, List.map_append, List.filterMap_append, range_get l a c, List.take_add_one]
    congr 1
    simp only [List.map_cons, List.map_nil, List.filterMap_cons, List.filterMap_nil, List.getElem?_toArray, List.getElem?_drop]
    cases l[a + c]? <;> rfl
theorem slice_core (l : List Nat) (lo hi : Option Int) (a b : Nat) (ha : a ≤ l.length) (hb : b ≤ l.length) (h : strSliceIndices lo hi 1 l.length = (List.range (b - a)).map (fun k => a + k)) :
    Txt.slice (T l) lo hi = T ((l.drop a).take (b - a)) := by
  unfold Txt.slice
  rw [T_len, h]
  split
  · rename_i q
    simp at q
    have : (l.drop a).take (b - a) = l := by
      by_cases hz : l.length = 0
      · have : l = [] := List.eq_nil_of_length_eq_zero hz
        subst this; simp
      · have h0 : a = 0 := by omega
        have h1 : b = l.length := by omega
        subst h0 h1; simp
    rw [this]
  · rw [range_get]
theorem srange (a b : Nat) : sliceRange (a : Int) (b : Int) 1 = (List.range (b - a)).map (fun k => a + k) := by
  unfold sliceRange
  simp only [show (1 : Int) > 0 by decide, if_true, Int.ediv_one]
  have : (if (a : Int) < b then (b : Int) - a + 1 - 1 else 0).toNat = b - a := by split <;> omega
  rw [this]
  congr 1
  funext k
  omega
theorem slice_nat (l : List Nat) (i j : Nat) : Txt.slice (T l) (some (i : Int)) (some (j : Int)) = T ((l.drop i).take (j - i)) := by
  have e : strSliceIndices (some (i : Int)) (some (j : Int)) 1 l.length = (List.range (min j l.length - min i l.length)).map (fun k => min i l.length + k) := by
    rw [← srange]
    unfold strSliceIndices
    simp only [show (1 : Int) > 0 by decide, if_true]
    congr 1 <;> (split <;> omega)
  rw [slice_core l _ _ (min i l.length) (min j l.length) (by omega) (by omega) e]
  congr 1
  by_cases hi : i ≤ l.length
  · rw [Nat.min_eq_left hi]
    by_cases hj : j ≤ l.length
    · rw [Nat.min_eq_left hj]
    · rw [Nat.min_eq_right (by omega), List.take_of_length_le (by simp), List.take_of_length_le (by simp; omega)]
  · rw [List.drop_of_length_le (show l.length ≤ i by omega), List.drop_of_length_le (show l.length ≤ min i l.length by omega)]
    simp
theorem slice_last (l : List Nat) : Txt.slice (T l) none (some (-1)) = T l.dropLast := by
  have e : strSliceIndices none (some (-1)) 1 l.length = (List.range ((l.length - 1) - 0)).map (fun k => 0 + k) := by
    rw [← srange]
    unfold strSliceIndices
    simp only [show (1 : Int) > 0 by decide, if_true]
    congr 1
    split <;> omega
  rw [slice_core l _ _ 0 (l.length - 1) (by omega) (by omega) e]
  simp [List.dropLast_eq_take]
theorem seqIx (i : Int) (n k : Nat) (h : (if i < 0 then i + n else i) = k) (hk : k < n) : seqIndex? i n = some k := by
  unfold seqIndex?
  simp only [h]
  rw [if_pos (by simp; omega)]
  simp
theorem item_nat (l : List Nat) (i : Nat) (c : Nat) (h : l[i]? = some c) : Txt.item (T l) (i : Int) = T [c] := by
  have hi : i < l.length := by
    by_cases q : i < l.length
    · exact q
    · rw [List.getElem?_eq_none (by omega)] at h; cases h
  unfold Txt.item Txt.charAt
  rw [T_len, seqIx (i : Int) l.length i (if_neg (by omega)) hi]
  simp [h]
theorem item_last (l : List Nat) (c : Nat) : Txt.item (T (l ++ [c])) (-1) = T [c] := by
  unfold Txt.item Txt.charAt
  rw [T_len, seqIx (-1) (l ++ [c]).length l.length (by rw [if_pos (by decide)]; simp; omega) (by simp)]
  simp
theorem hex_in : ∀ d, d < 128 → Txt.contains (S "0123456789abcdefABCDEF") (T [d]) = decide (d ∈ hexL) := by decide +kernel
theorem nl_in : ∀ d, d < 128 → Txt.contains (T [13, 10]) (T [d]) = decide (d = 13 ∨ d = 10) := by decide +kernel
end
section -- G1
open PySem PySem.W PyProof.Rows PySem.Calls PySem.NumText
set_option maxRecDepth 100000
theorem itT {p q : Prop} (h : p) : if true = true then p else q := by rw [if_pos rfl]; exact h
theorem itF {p q : Prop} (h : q) : if false = true then p else q := by rw [if_neg (by decide)]; exact h
theorem itY {b : Bool} {p q : Prop} (hb : b = true) (h : p) : if b = true then p else q := by rw [if_pos hb]; exact h
theorem itN {b : Bool} {p q : Prop} (hb : b = false) (h : q) : if b = true then p else q := by rw [if_neg (by rw [hb]; decide)]; exact h
section
variable {w : World} {A : Around} {E : Value → Shared → Prop} {hp : Heap} {gn : Array GenState} {dr : Drawn} {tk : Nat} {os : OsState} {Q : Value → Shared → Prop} {a : List Nat} {t u : Tok} {y : Str}
theorem neT (b : List Nat) (h : Q (.bool (decide (a ≠ b))) ⟨hp, gn, dr, tk, os⟩) (hy : y = T b) : wpAny (Mo w) A (compareOp .NotEq (.str (T a) t) (.str y u)) Q E ⟨hp, gn, dr, tk, os⟩ := by
  subst hy
  refine P.ne_str ?_
  have : ((T a).cps.toList != (T b).cps.toList) = decide (a ≠ b) := by
    show (a != b) = _
    by_cases q : a = b <;> simp [q]
  rw [this]; exact h
theorem eqT (b : List Nat) (h : Q (.bool (decide (a = b))) ⟨hp, gn, dr, tk, os⟩) (hy : y = T b) : wpAny (Mo w) A (compareOp .Eq (.str (T a) t) (.str y u)) Q E ⟨hp, gn, dr, tk, os⟩ := by
  subst hy
  refine P.eq_str ?_
  have : ((T a).cps.toList == (T b).cps.toList) = decide (a = b) := by
    show (a == b) = _
    by_cases q : a = b <;> simp [q]
  rw [this]; exact h
theorem iaddT {b : List Nat} (hsz : a.length + b.length ≤ 100000) (h : ∀ t' k, Q (.str (T (a ++ b)) t') ⟨hp, gn, dr, k, os⟩) : wpAny (Mo w) A (inplaceOp .Add (.str (T a) t) (.str (T b) u)) Q E ⟨hp, gn, dr, tk, os⟩ :=
  SB.iadd (fun t' k => by rw [T_app]; exact h t' k) (by rw [T_len, T_len, sizeLine_eq]; omega)
theorem addT {b : List Nat} (hsz : a.length + b.length ≤ 100000) (h : ∀ t' k, Q (.str (T (a ++ b)) t') ⟨hp, gn, dr, k, os⟩) : wpAny (Mo w) A (binaryOp .Add (.str (T a) t) (.str (T b) u)) Q E ⟨hp, gn, dr, tk, os⟩ :=
  SB.add (fun t' k => by rw [T_app]; exact h t' k) (by rw [T_len, T_len, sizeLine_eq]; omega)
theorem lenT (hsz : a.length ≤ 100000) (h : ∀ t' k, Q (.int (a.length : Nat) t') ⟨hp, gn, dr, k, os⟩) : wpAny (Mo w) A (call (.builtin "len") [.str (T a) t]) Q E ⟨hp, gn, dr, tk, os⟩ := by
  refine SBL.len (by rw [T_len]; omega) ?_
  rw [T_len]; exact h _ _
theorem truthyT {Q : Bool → Shared → Prop} (b : Bool) (hb : decide (a ≠ []) = b) (hsz : a.length ≤ 100000) (h : ∀ k, Q b ⟨hp, gn, dr, k, os⟩) : wpAny (Mo w) A (truthy (.str (T a) t)) Q E ⟨hp, gn, dr, tk, os⟩ := by
  refine KXt.truthy (b := b) ?_ (by rw [T_len]; omega) h
  rw [T_len, ← hb]
  cases a with
  | nil => rfl
  | cons x r => simp; omega
theorem itemT {value slice : Expr} {k : Nat} {c : Nat} (hg : a[k]? = some c) (hsz : a.length ≤ 100000) (h : Q (.str (T [c]) tk) ⟨hp, gn, dr, tk + 1, os⟩)
    (hs : subscripted slice false (.str (T a) t) (.int (k : Nat) u) = operate [.str (T a) t, .int (k : Nat) u] (getItem (.str (T a) t) (.int (k : Nat) u)))
    (ht : ∀ r, letTemporaryGo value (.str (T a) t) r = pure ()) :
    wpAny (Mo w) A (subscriptTail value slice (.str (T a) t) (.int (k : Nat) u)) Q E ⟨hp, gn, dr, tk, os⟩ := by
  have hi : k < a.length := by
    by_cases q : k < a.length
    · exact q
    · rw [List.getElem?_eq_none (by omega)] at hg; cases hg
  refine item_str (by unfold fitsSsize; simp; omega) (by omega) (by rw [T_len]; omega) (fun _ => ?_) hs ht
  rw [item_nat _ _ _ hg]; exact h
theorem itemTL {value slice : Expr} {c : Nat} (hsz : a.length ≤ 100000) (h : Q (.str (T [c]) tk) ⟨hp, gn, dr, tk + 1, os⟩)
    (hs : subscripted slice false (.str (T (a ++ [c])) t) (.int (-1) u) = operate [.str (T (a ++ [c])) t, .int (-1) u] (getItem (.str (T (a ++ [c])) t) (.int (-1) u)))
    (ht : ∀ r, letTemporaryGo value (.str (T (a ++ [c])) t) r = pure ()) :
    wpAny (Mo w) A (subscriptTail value slice (.str (T (a ++ [c])) t) (.int (-1) u)) Q E ⟨hp, gn, dr, tk, os⟩ := by
  refine item_str (by decide) (by rw [T_len]; simp; omega) (by omega) (fun _ => ?_) hs ht
  rw [item_last]; exact h
theorem sliceT {h₀ : Heap} {L : Addr} {m : Str → Option Value} {news : List (Addr × Obj)} {value slice : Expr} {i j : Nat} {ui uj : Tok} (F : Fr h₀ L hp m) (N : News h₀ L hp news) (hsz : a.length ≤ 100000)
    (h : ∀ h' t' k, Fr h₀ L h' m → News h₀ L h' news → Q (.str (T ((a.drop i).take (j - i))) t') ⟨h', gn, dr, k, os⟩)
    (hs : subscripted slice false (.str (T a) t) (.ref hp.objs.size) = operate [.ref hp.objs.size, .str (T a) t] (getItem (.str (T a) t) (.ref hp.objs.size)))
    (ht : ∀ r, letTemporaryGo value (.str (T a) t) r = pure ()) :
    wpAny (Mo w) A (subscriptTail value slice (.str (T a) t) (.ref hp.objs.size)) Q E ⟨hp.push { cls := .type "slice", data := .fields #[.int (i : Nat) ui, .int (j : Nat) uj, .none] }, gn, dr, tk, os⟩ :=
  slice_strN_ss (s := ⟨hp, gn, dr, tk, os⟩) F N (fun h' t' k F' N' => by rw [slice_nat]; exact h h' t' k F' N') hs ht (by rw [T_len, sizeLine_eq]; omega)
theorem sliceTL {h₀ : Heap} {L : Addr} {m : Str → Option Value} {news : List (Addr × Obj)} {value slice : Expr} {uj : Tok} (F : Fr h₀ L hp m) (N : News h₀ L hp news) (hsz : a.length ≤ 100000)
    (h : ∀ h' t' k, Fr h₀ L h' m → News h₀ L h' news → Q (.str (T a.dropLast) t') ⟨h', gn, dr, k, os⟩)
    (hs : subscripted slice false (.str (T a) t) (.ref hp.objs.size) = operate [.ref hp.objs.size, .str (T a) t] (getItem (.str (T a) t) (.ref hp.objs.size)))
    (ht : ∀ r, letTemporaryGo value (.str (T a) t) r = pure ()) :
    wpAny (Mo w) A (subscriptTail value slice (.str (T a) t) (.ref hp.objs.size)) Q E ⟨hp.push { cls := .type "slice", data := .fields #[.none, .int (-1) uj, .none] }, gn, dr, tk, os⟩ :=
  slice_strN_ns (s := ⟨hp, gn, dr, tk, os⟩) F N (fun h' t' k F' N' => by rw [slice_last]; exact h h' t' k F' N') hs ht (by rw [T_len, sizeLine_eq]; omega)
theorem use {d f : Nat} {vs : List Value} {news : List (Addr × Obj)} {Post : Value → List (Addr × Obj) → Prop} {L : Addr} {h₀ : Heap} {m : Str → Option Value} (H : Claim w d f vs news Post) (C : At w A L h₀) (F : Fr h₀ L hp m) (N : News h₀ L hp news) (hd : A.depth + d < recursionLimit) (hu : A.units + 16 * d < cLine)
    (h : ∀ v new h' tk', Post v new → Fr h₀ L h' m → News h₀ L h' (new ++ news) → Q v ⟨h', gn, dr, tk', os⟩) : wpAny (Mo w) A (call (.ref f) vs) Q E ⟨hp, gn, dr, tk, os⟩ :=
  H A L h₀ m _ Q E C F N hd hu h
end
end
section -- F4
open PySem PySem.W PyProof.Rows PySem.Calls PySem.NumText
set_option maxRecDepth 100000
/-- what a line is decoded to -/
noncomputable def decL : List Nat → List Nat
  | [] => []
  | [c] => if c = 61 then [] else [c, 10]
  | [c, b] => c :: decL [b]
  | c :: a :: b :: r => if c = 61 ∧ a ∈ hexL ∧ b ∈ hexL then (16 * hv a + hv b) :: (if r = [] then [10] else decL r) else c :: decL (a :: b :: r)
noncomputable def decFor : List Stmt := match bd 19 with | _ :: _ :: .For _ _ b _ _ :: _ => b | _ => []
noncomputable def decWhile : Stmt := match decFor with | [_, _, _, _, s] => s | _ => .Pass (Pos.mk 0 0 0 0)
noncomputable def decB : List Stmt := match decWhile with | .While _ (_ :: b) _ _ => b | _ => []
/-- decode's frame in a line -/
noncomputable abbrev dfr (x d l : List Nat) (i : Nat) (t td tl ti tn : Tok) (cs : List (Str × Value)) : List (Str × Value) :=
  (S "eol", .str (T [10]) 317) :: (S "encoded", .str (T x) t) :: (S "decoded", .str (T d) td) :: (S "line", .str (T l) tl) :: (S "i", .int (i : Nat) ti) :: (S "n", .int (l.length : Nat) tn) :: cs
noncomputable def dJ (x l E : List Nat) (t tl tn : Tok) (nw : List (Addr × Obj)) (m : Nat) (fl : List (Str × Value)) (news : List (Addr × Obj)) : Prop :=
  ∃ dn left d td ti cs, l = dn ++ left ∧ m = left.length ∧ d ++ decL left = E ∧ fl = dfr x d l dn.length t td tl ti tn cs ∧ (cs = [] ∨ ∃ v, cs = [(S "c", v)]) ∧ news = nw
noncomputable def decB2 : List Stmt := match decB with | _ :: b => b | _ => []
/-- the end of a turn -/
theorem decE {w : World} {A : Around} {g : Heap} {L : Addr} {gn : Array GenState} {dr : Drawn} {os : OsState} {nw : List (Addr × Obj)} {Q : Flow → Shared → Prop} {x l dn r d E : List Nat} {n k : Nat} {t td tl ti tn : Tok} {v : Value} {h : Heap} {tk : Nat}
    (hk : k = dn.length) (hE : E.length ≤ 1000) (hdE : d ++ (if r = [] then [10] else decL r) = E) (hl : l = dn ++ r) (hn : r.length < n)
    (F : Fr g L h (lk (dfr x d l k t td tl ti tn [(S "c", v)]))) (N : News g L h nw) :
    wpAny (Mo w) A (execs decB2 (ev 19 79 78 L)) (WTurn gn dr os g L (dJ x l E t tl tn nw) Q n) (fun _ _ => False) ⟨h, gn, dr, tk, os⟩ := by
  subst hk
  have hdl : d.length ≤ 1000 := by rw [← hdE] at hE; simp at hE; omega
  refine wpAny_execs_cons ?_
  repeat walk_at "m"
  by_cases hr : r = []
  · subst hr
    rw [if_pos rfl] at hdE
    refine itY (by rw [hl]; simp) ?_
    repeat walk_at "m"
    refine iaddT (by simp; omega) fun t1 k1 => ?_
    repeat walk_at "m"
    rename_i h1 F1 N1
    have F2 : Fr g L h1 (lk (dfr x E l dn.length t t1 tl ti tn [(S "c", v)])) := by rw [← hdE]; exact F1
    exact wturn_next 0 F2 N1 (by simpa using hn) ⟨dn, [], E, t1, ti, [(S "c", v)], hl, rfl, by simp [decL], rfl, .inr ⟨v, rfl⟩, rfl⟩
  · rw [if_neg hr] at hdE
    refine itN (by rw [hl, List.length_append]; cases r with | nil => exact absurd rfl hr | cons c r => simp; omega) ?_
    repeat walk_at "m"
    exact wturn_next r.length F N hn ⟨dn, r, d, td, ti, [(S "c", v)], hl, rfl, hdE, rfl, .inr ⟨v, rfl⟩, rfl⟩
/-- a turn of decode's while, behind the reading of the sign -/
theorem decT {w : World} {A : Around} {g : Heap} {L : Addr} {gn : Array GenState} {dr : Drawn} {os : OsState} {nw : List (Addr × Obj)} {Q : Flow → Shared → Prop} {x dn r d E : List Nat} {c : Nat} {t td tl ti tn tc : Tok} {h : Heap} {tk : Nat}
    (C : At w A L g) (hd : A.depth + 1 < recursionLimit) (hu : A.units + 16 * 1 < cLine) (hlen : (dn ++ c :: r).length ≤ 1000) (hE : E.length ≤ 1000) (hl : ∀ c' ∈ dn ++ c :: r, c' < 128) (hdE : d ++ decL (c :: r) = E)
    (F : Fr g L h (lk (dfr x d (dn ++ c :: r) dn.length t td tl ti tn [(S "c", .str (T [c]) tc)]))) (N : News g L h nw) :
    wpAny (Mo w) A (execs decB (ev 19 79 78 L)) (WTurn gn dr os g L (dJ x (dn ++ c :: r) E t tl tn nw) Q (c :: r).length) (fun _ _ => False) ⟨h, gn, dr, tk, os⟩ := by
  refine wpAny_execs_cons ?_
  repeat walk_at "m"
  refine neT [61] ?_ (by kernel_rfl)
  refine wpAny_truthy_bool ?_
  have hdl : d.length ≤ 1000 := by rw [← hdE] at hE; simp at hE; omega
  by_cases hc : c = 61
  · subst hc
    refine itN (by simp) ?_
    repeat walk_at "m"
    cases r with
    | nil =>
      refine itY (by simp) ?_
      repeat walk_at "m"
      rename_i h1 F1 N1
      have F2 : ∃ ti', Fr g L h1 (lk (dfr x d (dn ++ [61]) (dn ++ [61]).length t td tl ti' tn [(S "c", .str (T [61]) tc)])) := by
        rw [List.length_append]; exact ⟨_, F1⟩
      obtain ⟨ti', F2⟩ := F2
      refine wturn_cont 0 F2 N1 (by simp) ⟨dn ++ [61], [], d, td, _, _, by simp, rfl, ?_, rfl, .inr ⟨_, rfl⟩, rfl⟩
      simpa [decL] using hdE
    | cons a r =>
      refine itN (by simp; omega) ?_
      repeat walk_at "m"
      cases r with
      | nil =>
        refine itN (by simp) ?_
        repeat walk_at "m"
        refine itF ?_
        repeat walk_at "m"
        refine iaddT (by simp; omega) fun t1 k1 => ?_
        walk_at "if"
        rename_i h1 F1 N1 h2 F2 N2
        have F3 : ∃ ti', Fr g L h2 (lk (dfr x (d ++ [61]) (dn ++ [61, a]) (dn ++ [61]).length t t1 tl ti' tn [(S "c", .str (T [61]) tc)])) := by
          rw [List.length_append]; exact ⟨_, F2⟩
        obtain ⟨ti', F3⟩ := F3
        refine decE (dn := dn ++ [61]) (r := [a]) rfl hE (by rw [← hdE]; simp [decL]) (by simp) ?_ F3 N2
        simp
      | cons b r =>
        refine itY (by simp; omega) ?_
        repeat walk_at "m"
        refine itemT (k := dn.length + 1) (c := a) (by simp) (by omega) ?_ (by with_unfolding_all rfl) (by intro _; with_unfolding_all rfl)
        refine nameK C (by assumption) (g_hexdigits _) ?_ (by kernel_rfl) (by kernel_rfl) (by kernel_rfl)
        refine SB.contains ?_
        rw [hex_in a (hl a (by simp))]
        repeat walk_at "m"
        by_cases ha : a ∈ hexL
        · refine itY (by simp [ha]) ?_
          repeat walk_at "m"
          refine itemT (k := dn.length + 2) (c := b) (by simp) (by omega) ?_ (by with_unfolding_all rfl) (by intro _; with_unfolding_all rfl)
          refine nameK C (by assumption) (g_hexdigits _) ?_ (by kernel_rfl) (by kernel_rfl) (by kernel_rfl)
          refine SB.contains ?_
          rw [hex_in b (hl b (by simp))]
          repeat walk_at "m"
          by_cases hb : b ∈ hexL
          · refine itY (by simp [hb]) ?_
            repeat walk_at "m"
            refine itT ?_
            repeat walk_at "m"
            refine nameK C (by assumption) (g_unquote _) ?_ (by kernel_rfl) (by kernel_rfl) (by kernel_rfl)
            refine callWith_K C.X (kp_unquote _) ?_ (by rfl) (by rfl)
            repeat walk_at "m"
            refine sliceT (i := dn.length) (j := dn.length + 3) F N (by omega) (fun h1 t1 k1 F1 N1 => ?_) (by with_unfolding_all rfl) (by intro _; with_unfolding_all rfl)
            rw [show (dn.length + 3 - dn.length) = 3 by omega, List.drop_left, show List.take 3 (61 :: a :: b :: r) = [61, a, b] from rfl]
            repeat walk_at "m"
            refine ⟨C.X.keeps (Fr.keep F1), ?_⟩
            refine use (unquote_ ha hb _) C F1 N1 hd hu ?_
            rintro v new h2 tk2 ⟨⟨t2, rfl⟩, rfl⟩ F2 N2
            refine iaddT (b := [16 * hv a + hv b]) (by simp; omega) fun t3 k3 => ?_
            walk_at "if"
            rename_i h4 F4 N4 h5 F5 N5
            have F6 : ∃ ti', Fr g L h5 (lk (dfr x (d ++ [16 * hv a + hv b]) (dn ++ 61 :: a :: b :: r) (dn ++ [61, a, b]).length t t3 tl ti' tn [(S "c", .str (T [61]) tc)])) := by
              rw [List.length_append]; exact ⟨_, F5⟩
            obtain ⟨ti', F6⟩ := F6
            refine decE (dn := dn ++ [61, a, b]) (r := r) rfl hE (by rw [← hdE]; simp [decL, ha, hb]) (by simp) ?_ F6 N5
            simp; omega
          · refine itN (by simp [hb]) ?_
            repeat walk_at "m"
            refine itF ?_
            repeat walk_at "m"
            refine iaddT (by simp; omega) fun t1 k1 => ?_
            walk_at "if"
            rename_i h1 F1 N1 h2 F2 N2
            have F3 : ∃ ti', Fr g L h2 (lk (dfr x (d ++ [61]) (dn ++ 61 :: a :: b :: r) (dn ++ [61]).length t t1 tl ti' tn [(S "c", .str (T [61]) tc)])) := by
              rw [List.length_append]; exact ⟨_, F2⟩
            obtain ⟨ti', F3⟩ := F3
            refine decE (dn := dn ++ [61]) (r := a :: b :: r) rfl hE (by rw [← hdE]; simp [decL, hb]) (by simp) ?_ F3 N2
            simp
        · refine itN (by simp [ha]) ?_
          repeat walk_at "m"
          refine itF ?_
          repeat walk_at "m"
          refine iaddT (by simp; omega) fun t1 k1 => ?_
          walk_at "if"
          rename_i h1 F1 N1 h2 F2 N2
          have F3 : ∃ ti', Fr g L h2 (lk (dfr x (d ++ [61]) (dn ++ 61 :: a :: b :: r) (dn ++ [61]).length t t1 tl ti' tn [(S "c", .str (T [61]) tc)])) := by
            rw [List.length_append]; exact ⟨_, F2⟩
          obtain ⟨ti', F3⟩ := F3
          refine decE (dn := dn ++ [61]) (r := a :: b :: r) rfl hE (by rw [← hdE]; simp [decL, ha]) (by simp) ?_ F3 N2
          simp
  · have hdE' : (d ++ [c]) ++ (if r = [] then [10] else decL r) = E := by
      rw [← hdE, List.append_assoc]
      congr 1
      match r with
      | [] => simp [decL, hc]
      | [b] => simp [decL]
      | a :: b :: r => simp [decL, hc]
    refine itY (by simp [hc]) ?_
    repeat walk_at "m"
    refine iaddT (by simp; omega) fun t1 k1 => ?_
    walk_at "if"
    rename_i h1 F1 N1 h2 F2 N2
    have F3 : ∃ ti', Fr g L h2 (lk (dfr x (d ++ [c]) (dn ++ c :: r) (dn ++ [c]).length t t1 tl ti' tn [(S "c", .str (T [c]) tc)])) := by
      rw [List.length_append]; exact ⟨_, F2⟩
    obtain ⟨ti', F3⟩ := F3
    refine decE (dn := dn ++ [c]) (r := r) rfl hE hdE' (by simp) ?_ F3 N2
    simp
theorem decW {w : World} {A : Around} {g hp : Heap} {L : Addr} {gn : Array GenState} {dr : Drawn} {tk : Nat} {os : OsState} {news : List (Addr × Obj)} {Q : Flow → Shared → Prop} {x l d E : List Nat} {t td tl ti tn : Tok} {cs : List (Str × Value)}
    (C : At w A L g) (hd : A.depth + 1 < recursionLimit) (hu : A.units + 16 * 1 < cLine) (hlen : l.length ≤ 1000) (hE : E.length ≤ 1000) (hl : ∀ c ∈ l, c < 128) (hdE : d ++ decL l = E) (hcs : cs = [] ∨ ∃ v, cs = [(S "c", v)])
    (F : Fr g L hp (lk (dfr x d l 0 t td tl ti tn cs))) (N : News g L hp news)
    (hq : ∀ td ti cs h tk, (cs = [] ∨ ∃ v, cs = [(S "c", v)]) → Fr g L h (lk (dfr x E l l.length t td tl ti tn cs)) → News g L h news → Q .next ⟨h, gn, dr, tk, os⟩) :
    wpAny (Mo w) A (exec decWhile (ev 19 79 78 L)) Q (fun _ _ => False) ⟨hp, gn, dr, tk, os⟩ := by
  refine whileL (dJ x l E t tl tn news) (n₀ := l.length) F N ⟨[], l, d, td, ti, cs, rfl, rfl, hdE, rfl, hcs, rfl⟩ ?_
  clear F N hdE hcs
  rintro m fl news₁ h tk F N ⟨dn, left, d, td, ti, cs, rfl, rfl, hE', rfl, hcs, rfl⟩
  cases left with
  | nil =>
    repeat walk_at "m"
    refine itN (by simp) ?_
    simp only [decL, List.append_nil] at hE'
    subst hE'
    rw [List.append_nil] at hq F
    exact hq td ti cs _ _ hcs F N
  | cons c r =>
    have hget : (dn ++ c :: r)[dn.length]? = some c := by simp
    rcases hcs with rfl | ⟨v, rfl⟩
    · repeat walk_at "m"
      refine itY (by simp; omega) ?_
      repeat walk_at "m"
      refine itemT (k := dn.length) (c := c) hget (by omega) ?_ (by with_unfolding_all rfl) (by intro _; with_unfolding_all rfl)
      walk_at "m"
      rename_i h1 F1 N1
      exact decT C hd hu hlen hE hl hE' F1 N1
    · repeat walk_at "m"
      refine itY (by simp; omega) ?_
      repeat walk_at "m"
      refine itemT (k := dn.length) (c := c) hget (by omega) ?_ (by with_unfolding_all rfl) (by intro _; with_unfolding_all rfl)
      walk_at "m"
      rename_i h1 F1 N1
      exact decT C hd hu hlen hE hl hE' F1 N1
noncomputable def fJ (x : List Nat) (t : Tok) (ls : List (List Nat)) (nw : List (Addr × Obj)) (k : Nat) (fl : List (Str × Value)) (news : List (Addr × Obj)) : Prop :=
  ∃ td rest, fl = (S "eol", .str (T [10]) 317) :: (S "encoded", .str (T x) t) :: (S "decoded", .str (T ((ls.take k).flatMap decL)) td) :: rest ∧ (rest = [] ∨ ∃ v1 v2 v3 cs, rest = (S "line", v1) :: (S "i", v2) :: (S "n", v3) :: cs ∧ (cs = [] ∨ ∃ v, cs = [(S "c", v)])) ∧ news = nw
theorem val_of_lines {l : List (Str × Tok)} {ls : List (List Nat)} (h : l.map (·.1) = ls.map T) {k : Nat} {v : Value} (hv : (strValues l)[k]? = some v) : ∃ y t, ls[k]? = some y ∧ v = .str (T y) t := by
  unfold strValues at hv
  rw [List.getElem?_map] at hv
  cases q : l[k]? with
  | none => rw [q] at hv; cases hv
  | some p =>
    rw [q] at hv
    have h1 : (l.map (·.1))[k]? = some p.1 := by rw [List.getElem?_map, q]; rfl
    rw [h, List.getElem?_map] at h1
    cases q2 : ls[k]? with
    | none => rw [q2] at h1; cases h1
    | some y =>
      rw [q2] at h1
      refine ⟨y, p.2, rfl, ?_⟩
      have : T y = p.1 := by simpa using h1
      rw [this]
      exact (Option.some.inj hv).symm
theorem ends10 (D : List Nat) : Txt.endswith (T (D ++ [10])) (T [10]) = true := by
  unfold Txt.endswith Builtin.Str.subAt
  rw [T_len, T_len]
  simp
theorem decode_ {w : World} {news : List (Addr × Obj)} {x D : List Nat} {ls : List (List Nat)} (t : Tok) (hlen : x.length ≤ 1000) (hDl : D.length < 1000) (hls : Txt.lines (T x) = ls.map T) (hl : ∀ l ∈ ls, l ≠ [] ∧ Txt.rstrip (T l) = T l ∧ l.length ≤ 1000 ∧ ∀ c ∈ l, c < 128)
    (hx : ∃ y z, x = y ++ [z] ∧ z < 128 ∧ z ≠ 13 ∧ z ≠ 10) (hD : ls.flatMap decL = D ++ [10]) : Claim w 2 79 [.str (T x) t] news (fun v new => (∃ t, v = .str (T D) t) ∧ new = []) := by
  obtain ⟨y, z, rfl, hz1, hz2, hz3⟩ := hx
  refine enter (binds := [(S "encoded", .str (T (y ++ [z])) t), (S "eol", .str (T [10]) 317)]) (l := [(S "eol", .str (T [10]) 317), (S "encoded", .str (T (y ++ [z])) t)]) (fo19 _) (by kernel_rfl) (fun s X => binds_K (T := 72) (items := #[.str (T [10]) 317]) (n := 0) (o := ⟨.type "tuple", none, .seq #[.str (T [10]) 317] 0, #[]⟩) X rfl (by kernel_rfl) rfl rfl (by kernel_rfl)) rfl (locs (by kernel_rfl)) (by kernel_rfl) (by kernel_rfl) (by kernel_rfl) (by decide +kernel) ?_
  intro A g L hp gn dr tk os C F N hd hu
  refine wpAny_execs_cons ?_
  repeat walk_at "m"
  refine truthyT true (by simp) (by omega) fun k1 => ?_
  refine itF ?_
  repeat walk_at "m"
  refine For_invV g (by kernel_rfl) (by kernel_rfl) ?_ (by intro _; rfl) PassesOwn.never
  repeat walk_at "m"
  rename_i h1 F1 N1
  refine splitlinesNA F1 N1 (fun l h2 k2 e1 e2 e3 hil F2 N2 => ?_) (by rw [T_len, sizeLine_eq]; omega)
  dsimp only at hil N2 ⊢
  rw [hls] at e1
  refine iterL C.hh hil (Nat.ne_of_gt (frame_lt F1)) (fJ (y ++ [z]) t ls news) F2 (fun p hp => N2 p (List.mem_cons_of_mem _ hp)) ⟨_, [], rfl, .inl rfl, rfl⟩ ?_ ?_
  · rintro I k v fl news₁ h tk own hv ⟨td, rest, rfl, hrest, rfl⟩ hn1 hown1 hown2 F3 N3
    obtain ⟨ln, tl, hg, rfl⟩ := val_of_lines e1 hv
    obtain ⟨hne, hrs, hll, hch⟩ := hl ln (List.mem_of_getElem? hg)
    have hEk : (ls.take k).flatMap decL ++ decL ln = (ls.take (k + 1)).flatMap decL := by
      rw [List.take_add_one, hg]; simp
    have hEl : ((ls.take (k + 1)).flatMap decL).length ≤ 1000 := by
      have : ls.flatMap decL = (ls.take (k + 1)).flatMap decL ++ (ls.drop (k + 1)).flatMap decL := by rw [← List.flatMap_append, List.take_append_drop]
      have := congrArg List.length this
      rw [hD] at this
      simp only [List.length_append, List.length_cons, List.length_nil] at this
      omega
    rcases hrest with rfl | ⟨v1, v2, v3, cs, rfl, rfl | ⟨v, rfl⟩⟩
    all_goals
      refine wpAny_execs_cons ?_
      repeat walk_at "m"
      refine KXw.rstrip hrs (by rw [T_len, sizeLine_eq]; omega) fun t4 k4 => ?_
      repeat walk_at "m"
      refine truthyT true (by simp [hne]) (by omega) fun k5 => ?_
      refine itF ?_
      repeat walk_at "m"
      refine nameB C (by assumption) (n_len _) boot_len (by decide) ?_ (by kernel_rfl) (by kernel_rfl) (by kernel_rfl)
      repeat walk_at "m"
      refine lenT (by omega) fun t6 k6 => ?_
      repeat walk_at "m"
      rename_i h4 F4 N4 h5 F5 N5 h6 F6 N6
      refine decW C hd hu hll hEl hch hEk ?_ F6 N6 ?_
      · first | exact .inl rfl | exact .inr ⟨_, rfl⟩
      intro td ti cs h7 tk7 hcs F7 N7
      repeat walk_at "m"
      exact turn_next F7 N7 hn1 ⟨td, _, rfl, .inr ⟨_, _, _, cs, rfl, hcs⟩, rfl⟩
  · rintro fl news₁ h tk ⟨td, rest, rfl, hrest, rfl⟩ F3 N3
    have hls2 : (strValues l).length = ls.length := by
      have := congrArg List.length e1
      simpa [strValues] using this
    rw [hls2, List.take_length, hD] at F3
    dsimp only
    repeat walk_at "m"
    refine neg_int ?_
    repeat walk_at "m"
    refine itemTL (by simp at hlen; omega) ?_ (by with_unfolding_all rfl) (by intro _; with_unfolding_all rfl)
    repeat walk_at "m"
    refine SB.notContains ?_
    rw [show Str.ofString "\r\n" = T [13, 10] by kernel_rfl, nl_in z hz1]
    repeat walk_at "m"
    refine itY (by simp [hz2, hz3]) ?_
    repeat walk_at "m"
    refine SC.endswith ?_
    rw [ends10]
    repeat walk_at "m"
    refine itT ?_
    repeat walk_at "m"
    refine itT ?_
    repeat walk_at "m"
    refine nameB C (by assumption) (n_len _) boot_len (by decide) ?_ (by kernel_rfl) (by kernel_rfl) (by kernel_rfl)
    repeat walk_at "m"
    refine lenT (by simp) fun t6 k6 => ?_
    repeat walk_at "m"
    refine neg_int ?_
    repeat walk_at "m"
    refine sliceTL F3 N3 (by simp; omega) (fun h1 t1 k1 F1 N1 => ?_) (by with_unfolding_all rfl) (by intro _; with_unfolding_all rfl)
    rw [List.dropLast_concat]
    repeat walk_at "m"
    exact back0 (by assumption) (by assumption) ⟨⟨_, rfl⟩, rfl⟩
end
section -- F5
open PySem PySem.W PyProof.Rows PySem.Calls PySem.NumText PySem.Builtin.Str
set_option maxRecDepth 100000
/-- the signs and their numbers -/
noncomputable def tokL : List (List Nat × Nat) := [([33], 54), ([33, 61], 28), ([37], 24), ([37, 61], 40), ([38], 19), ([38, 61], 41), ([40], 7), ([41], 8), ([42], 16), ([42, 42], 35), ([42, 42, 61], 46), ([42, 61], 38), ([43], 14), ([43, 61], 36), ([44], 12), ([45], 15), ([45, 61], 37), ([45, 62], 51), ([46], 23), ([46, 46, 46], 52), ([47], 17), ([47, 47], 47), ([47, 47, 61], 48), ([47, 61], 39), ([58], 11), ([58, 61], 53), ([59], 13), ([60], 20), ([60, 60], 33), ([60, 60, 61], 44), ([60, 61], 29), ([61], 22), ([61, 61], 27), ([62], 21), ([62, 61], 30), ([62, 62], 34), ([62, 62, 61], 45), ([64], 49), ([64, 61], 50), ([91], 9), ([93], 10), ([94], 32), ([94, 61], 43), ([123], 25), ([124], 18), ([124, 61], 42), ([125], 26), ([126], 31)]
noncomputable def tokS : List (Str × Int) := tokL.map fun p => (T p.1, (p.2 : Int))
noncomputable def tokD : List (Str × PyData) := tokS.map fun (p : Str × Int) => (p.1, PyData.int p.2)
theorem tokD_eq : (tokD.map fun (p : Str × PyData) => (PyData.str p.1, p.2)) = kdpD tokS := by unfold tokD kdpD; rw [List.map_map]; rfl
theorem tabE {w : World} {h : Heap} (X : (K w.params).In h) : StrTab pE w h 94 (kdpD tokS) :=
  tokD_eq ▸ KTD.strTab_of_look pE w (get := fun a => (K w.params).lookup a) X (a := 94) (D := tokD) (by kernel_rfl) (by decide +kernel) (by kernel_rfl)
end
section -- G2
open PySem PySem.W PyProof.Rows PySem.Calls PySem.NumText PySem.Builtin.Str
set_option maxRecDepth 100000
section
variable {w : World} {A : Around} {E : Value → Shared → Prop} {hp : Heap} {gn : Array GenState} {dr : Drawn} {tk : Nat} {os : OsState} {h₀ : Heap} {L : Addr} {m : Str → Option Value} {news : List (Addr × Obj)}
theorem newL {vs : List Value} {Q : Value → Shared → Prop} (F : Fr h₀ L hp m) (N : News h₀ L hp news) (hsz : vs.length ≤ 100000)
    (h : ∀ l h', Fr h₀ L h' m → News h₀ L h' ((l, listOf vs.toArray 0) :: news) → (∀ p ∈ news, p.1 ≠ l) → Q (.ref l) ⟨h', gn, dr, tk, os⟩) : wpAny (Mo w) A (newList vs) Q E ⟨hp, gn, dr, tk, os⟩ :=
  newList_K (s := ⟨hp, gn, dr, tk, os⟩) F N (fun l h' F' N' hlt => h l h' F' N' fun p hp => Nat.ne_of_lt (hlt p hp)) (by rw [sizeLine_eq]; omega)
theorem isL {l : Addr} {vs : List Value} {n : Nat} (N : News h₀ L hp news) (hm : (l, listOf vs.toArray n) ∈ news) : hp.IsList l vs.toArray := News.isList N hm
theorem gmApp {l : Addr} {vs : List Value} {n : Nat} {pl : Sem Bool} {Q : Value × List Value → Shared → Prop} (N : News h₀ L hp news) (hm : (l, listOf vs.toArray n) ∈ news) (h : Q (.builtin "list.append", [.ref l]) ⟨hp, gn, dr, tk, os⟩) :
    wpAny (Mo w) A (getMethod (.ref l) "append" pl) Q E ⟨hp, gn, dr, tk, os⟩ :=
  getMethod_list_append (s := ⟨hp, gn, dr, tk, os⟩) (N _ hm).1 rfl rfl h
theorem appH {l : Addr} {vs : List Value} {n : Nat} {x : Value} {Q : Value → Shared → Prop} (F : Fr h₀ L hp m) (N : News h₀ L hp ((l, listOf vs.toArray n) :: news)) (hne : ∀ p ∈ news, p.1 ≠ l) (hsz : vs.length ≤ 100000)
    (h : ∀ h', Fr h₀ L h' m → News h₀ L h' ((l, listOf (vs ++ [x]).toArray (n + 1)) :: news) → Q .none ⟨h', gn, dr, tk, os⟩) : wpAny (Mo w) A (call (.builtin "list.append") [.ref l, x]) Q E ⟨hp, gn, dr, tk, os⟩ :=
  append_K (s := ⟨hp, gn, dr, tk, os⟩) F N (.head hne) (fun h' F' N' => h h' F' (by simpa using N')) (by rw [sizeLine_eq]; simp; omega)
theorem appU {l : Addr} {vs : List Value} {n : Nat} {x : Value} {news' : List (Addr × Obj)} {Q : Value → Shared → Prop} (F : Fr h₀ L hp m) (N : News h₀ L hp news) (U : Upd l (listOf vs.toArray n) (listOf (vs.toArray.push x) (n + 1)) news news') (hsz : vs.length ≤ 100000)
    (h : ∀ h', Fr h₀ L h' m → News h₀ L h' news' → Q .none ⟨h', gn, dr, tk, os⟩) : wpAny (Mo w) A (call (.builtin "list.append") [.ref l, x]) Q E ⟨hp, gn, dr, tk, os⟩ :=
  append_K (s := ⟨hp, gn, dr, tk, os⟩) F N U h (by rw [sizeLine_eq]; simp; omega)
end
/-- the number of a sign -/
noncomputable def tok (l : List Nat) : Option Nat := tokL.lookup l
noncomputable def szD : Nat → List Nat → Nat
  | 0, _ => 0
  | k + 1, l => if (tok (l.take (k + 1))).isSome then k + 1 else szD k l
noncomputable def hx (c : Nat) : Nat := if c < 58 then (if c < 50 then c - 34 else c - 50) else if c < 71 then c - 57 else c - 89
inductive Rd (more : Nat) : List Nat → List Nat → Prop
  | nil : Rd more [] []
  | tok {l o : List Nat} {k v : Nat} : l ≠ [] → szD 3 l = k + 1 → Mine.tok (l.take (k + 1)) = some v → Rd more (l.drop (k + 1)) o → Rd more l ((v + more) :: o)
  | hex {c : Nat} {r o : List Nat} : szD 3 (c :: r) = 0 → c ∈ hexL → Rd more r o → Rd more (c :: r) ((256 + hx c) :: o)
theorem tok_has (l : List Nat) : kdpHas tokS (T l) = (tok l).isSome := by
  unfold kdpHas tok tokS
  rw [List.any_map]
  generalize tokL = q
  induction q with
  | nil => rfl
  | cons p q ih =>
    obtain ⟨a, v⟩ := p
    rw [List.any_cons, ih, List.lookup_cons]
    by_cases h : l = a
    · subst h; simp
    · have h1 : ¬ T a = T l := fun e => h (T_inj e).symm
      simp only [Function.comp, h1, decide_false, Bool.false_or]
      rw [beq_eq_false_iff_ne.mpr h]
theorem tok_look (l : List Nat) {v : Nat} (hv : tok l = some v) : kdpLook tokS (T l) 0 = (v : Int) := by
  unfold kdpLook tok tokS at *
  revert hv
  generalize tokL = q
  induction q with
  | nil => intro h; cases h
  | cons p q ih =>
    obtain ⟨a, u⟩ := p
    rw [List.map_cons, List.find?_cons, List.lookup_cons]
    by_cases h : l = a
    · subst h; simp
      intro e; rw [e]
    · have h1 : ¬ T a = T l := fun e => h (T_inj e).symm
      simp only [h1, decide_false]
      rw [beq_eq_false_iff_ne.mpr h]
      exact ih
theorem hx_find : ∀ c ∈ hexL, Txt.find (S "23456789ABCDEF01") (Txt.upper (T [c])) = (hx c : Int) ∧ (Txt.upper (T [c])).length = 1 := by decide +kernel
end
section -- F6
open PySem PySem.W PyProof.Rows PySem.Calls PySem.NumText
set_option maxRecDepth 100000
noncomputable abbrev iv (ns : List Nat) : List Int := ns.map fun (n : Nat) => (n : Int)
theorem IntsAre.snoc {vs : List Value} {ns : List Int} (h : IntsAre vs ns) (n : Int) (t : Tok) : IntsAre (vs ++ [.int n t]) (ns ++ [n]) := by
  induction h with
  | nil => exact .cons n t .nil
  | cons a u _ ih => exact .cons a u ih
noncomputable abbrev rfr (more : Nat) (text : List Nat) (a : Addr) (at_ : Nat) (t tm ta : Tok) (rest : List (Str × Value)) : List (Str × Value) :=
  (S "more", .int (more : Nat) tm) :: (S "text", .str (T text) t) :: (S "numbers", .ref a) :: (S "at", .int (at_ : Nat) ta) :: rest
noncomputable def rJ (more : Nat) (text out : List Nat) (a : Addr) (t tm : Tok) (nw : List (Addr × Obj)) (n : Nat) (fl : List (Str × Value)) (news : List (Addr × Obj)) : Prop :=
  ∃ at_ ta rest o1 o2 vs k, fl = rfr more text a at_ t tm ta rest ∧ (rest = [] ∨ ∃ v, rest = [(S "size", v)]) ∧ n = text.length - at_ ∧ Rd more (text.drop at_) o2 ∧ out = o1 ++ o2 ∧ IntsAre vs (iv o1) ∧ vs.length ≤ at_ ∧ at_ ≤ text.length + 3 ∧ news = (a, listOf vs.toArray k) :: nw
noncomputable def sJ (more : Nat) (text : List Nat) (a : Addr) (at_ : Nat) (t tm ta : Tok) (nw : List (Addr × Obj)) (n : Nat) (fl : List (Str × Value)) (news : List (Addr × Obj)) : Prop :=
  ∃ ts, fl = rfr more text a at_ t tm ta [(S "size", .int (n : Nat) ts)] ∧ szD n (text.drop at_) = szD 3 (text.drop at_) ∧ n ≤ 3 ∧ news = nw
theorem Rd.inv0 {more c : Nat} {r o2 : List Nat} (h : Rd more (c :: r) o2) (hz : szD 3 (c :: r) = 0) : ∃ o, c ∈ hexL ∧ o2 = (256 + hx c) :: o ∧ Rd more r o := by
  cases h with
  | tok _ h2 => rw [hz] at h2; cases h2
  | hex _ h2 h3 => exact ⟨_, h2, rfl, h3⟩
theorem Rd.invS {more k : Nat} {l o2 : List Nat} (h : Rd more l o2) (hl : l ≠ []) (hs : szD 3 l = k + 1) : ∃ v o, Mine.tok (l.take (k + 1)) = some v ∧ o2 = (v + more) :: o ∧ Rd more (l.drop (k + 1)) o := by
  cases h with
  | nil => exact absurd rfl hl
  | tok h1 h2 h3 h4 =>
    rw [hs] at h2
    cases h2
    exact ⟨_, _, h3, rfl, h4⟩
  | hex h2 => rw [hs] at h2; cases h2
set_option maxHeartbeats 4000000 in
theorem read_ {w : World} {news : List (Addr × Obj)} {text out : List Nat} {more : Nat} (t tm : Tok) (hlen : text.length ≤ 1000) (hR : Rd more text out) : Claim w 1 131 [.str (T text) t, .int (more : Nat) tm] news (fun v new => ∃ a vs n, v = .ref a ∧ new = [(a, listOf vs.toArray n)] ∧ IntsAre vs (iv out) ∧ vs.length ≤ 1003) := by
  refine enter (binds := [(S "text", .str (T text) t), (S "more", .int (more : Nat) tm)]) (l := [(S "more", .int (more : Nat) tm), (S "text", .str (T text) t)]) (fo79 _) (by kernel_rfl) (fun s _ => BindsTo.of_eq (by kernel_rfl)) rfl (locs (by kernel_rfl)) (by kernel_rfl) (by kernel_rfl) (by kernel_rfl) (by decide +kernel) ?_
  intro A g L hp gn dr tk os C F N hd hu
  refine wpAny_execs_cons ?_
  repeat walk_at "m"
  refine newL F N (by simp) fun a h1 F1 N1 hna => ?_
  repeat walk_at "m"
  rename_i h2 F2 N2 h3 F3 N3
  refine whileL (rJ more text out a t tm news) (n₀ := text.length) F3 N3 ⟨0, _, [], [], out, [], 0, rfl, .inl rfl, by simp, by simpa using hR, rfl, .nil, by simp, by simp, rfl⟩ ?_
  clear F N F1 N1 F2 N2 F3 N3 hR
  rintro n fl news₁ h tk F N ⟨at_, ta, rest, o1, o2, vs, k, rfl, hrest, rfl, hR, rfl, hvs, hvl, hat, rfl⟩
  repeat walk_at "m"
  refine nameB C (by assumption) (n_len _) boot_len (by decide) ?_ (by kernel_rfl) (by kernel_rfl) (by kernel_rfl)
  repeat walk_at "m"
  refine lenT (by omega) fun t1 k1 => ?_
  repeat walk_at "m"
  by_cases hlt : at_ < text.length
  · refine itY (by simpa using hlt) ?_
    rcases hrest with rfl | ⟨v, rfl⟩
    all_goals
      repeat walk_at "m"
      rename_i h2 F2 N2
      refine whileL (sJ more text a at_ t tm ta ((a, listOf vs.toArray k) :: news)) (n₀ := 3) F2 N2 ⟨_, rfl, rfl, Nat.le_refl _, rfl⟩ ?_
      clear F N F2 N2
      rintro n fl news₁ h tk F N ⟨ts, rfl, hsz, hn3, rfl⟩
      repeat walk_at "m"
      cases n with
      | zero =>
        refine itN (by simp) ?_
        repeat walk_at "m"
        refine itF ?_
        repeat walk_at "m"
        refine itN (by simp) ?_
        repeat walk_at "m"
        have hdr : text.drop at_ = text[at_] :: text.drop (at_ + 1) := List.drop_eq_getElem_cons hlt
        rw [hdr] at hR hsz
        obtain ⟨o, hc, rfl, hR'⟩ := hR.inv0 hsz.symm
        obtain ⟨hf1, hf2⟩ := hx_find _ hc
        refine gmApp N (.head _) ?_
        repeat walk_at "m"
        refine itemT (k := at_) (c := text[at_]) (by simp [hlt]) (by omega) ?_ (by with_unfolding_all rfl) (by intro _; with_unfolding_all rfl)
        repeat walk_at "m"
        refine SC.upper (by rw [hf2]; decide) ?_
        repeat walk_at "m"
        refine index_or C.hh (fun e _ => by rw [show Str.ofString "23456789ABCDEF01" = S "23456789ABCDEF01" from rfl, hf1] at e; omega) fun _ _ => ?_
        rw [show Str.ofString "23456789ABCDEF01" = S "23456789ABCDEF01" from rfl, hf1]
        repeat walk_at "m"
        refine appH F N hna (by omega) fun h5 F5 N5 => ?_
        repeat walk_at "m"
        rename_i h6 F6 N6
        refine wturn_next (text.length - (at_ + 1)) F6 N6 (by omega) ⟨at_ + 1, _, _, o1 ++ [256 + hx text[at_]], o, _, k + 1, rfl, .inr ⟨_, rfl⟩, rfl, hR', by simp, ?_, by simp; omega, by omega, rfl⟩
        have := IntsAre.snoc hvs (256 + (hx text[at_] : Nat)) (tk + 1 + 1 + 1 + 1 + 1 + 1 + 1)
        simpa [iv] using this
      | succ n =>
        refine itY (by simp) ?_
        repeat walk_at "m"
        refine sliceT (i := at_) (j := at_ + (n + 1)) F N (by omega) (fun h1 t1 k1 F1 N1 => ?_) (by with_unfolding_all rfl) (by intro _; with_unfolding_all rfl)
        rw [show at_ + (n + 1) - at_ = n + 1 by omega]
        refine nameK C (by assumption) (g_EXACT_TOKEN_TYPES _) ?_ (by kernel_rfl) (by kernel_rfl) (by kernel_rfl)
        refine kdp_notin (c := tokS) (tabE (C.X.keeps (Fr.keep F1))) ?_
        rw [tok_has]
        repeat walk_at "m"
        cases hv : tok ((text.drop at_).take (n + 1)) with
        | none =>
          refine itY (by simp) ?_
          repeat walk_at "m"
          refine itT ?_
          repeat walk_at "m"
          rename_i h5 F5 N5
          have F6 : ∃ ts', Fr g L h5 (lk (rfr more text a at_ t tm ta [(S "size", .int (n : Nat) ts')])) := by
            refine ⟨k1 + 1 + 1, ?_⟩
            rw [show ((n : Nat) : Int) = ((n + 1 : Nat) : Int) - 1 by omega]
            exact F5
          obtain ⟨ts', F6⟩ := F6
          refine wturn_next n F6 N5 (Nat.lt_succ_self _) ⟨ts', rfl, ?_, by omega, rfl⟩
          rw [← hsz]
          simp [szD, hv]
        | some v =>
          refine itN (by simp) ?_
          repeat walk_at "m"
          refine itF ?_
          repeat walk_at "m"
          refine itY (by simp) ?_
          repeat walk_at "m"
          have hs3 : szD 3 (text.drop at_) = n + 1 := by rw [← hsz]; simp [szD, hv]
          have hne : text.drop at_ ≠ [] := fun e => by have := congrArg List.length e; simp at this; omega
          obtain ⟨v', o, hv', rfl, hR'⟩ := hR.invS hne hs3
          rw [hv] at hv'
          cases hv'
          refine gmApp N1 (.head _) ?_
          repeat walk_at "m"
          refine nameK C (by assumption) (g_EXACT_TOKEN_TYPES _) ?_ (by kernel_rfl) (by kernel_rfl) (by kernel_rfl)
          repeat walk_at "m"
          refine sliceT (i := at_) (j := at_ + (n + 1)) F1 N1 (by omega) (fun h3 t3 k3 F3 N3 => ?_) (by with_unfolding_all rfl) (by intro _; with_unfolding_all rfl)
          rw [show at_ + (n + 1) - at_ = n + 1 by omega]
          refine kdp_item (c := tokS) (tabE (C.X.keeps (Fr.keep F3))) (by rw [tok_has, hv]; rfl) (fun t4 => ?_) (by with_unfolding_all rfl) (by intro _; with_unfolding_all rfl)
          rw [tok_look _ hv]
          repeat walk_at "m"
          refine appH F3 N3 hna (by omega) fun h5 F5 N5 => ?_
          repeat walk_at "m"
          rename_i h6 F6 N6
          refine wturn_next (text.length - (at_ + (n + 1))) F6 N6 (by omega) ⟨at_ + (n + 1), _, _, o1 ++ [v + more], o, _, k + 1, rfl, .inr ⟨_, rfl⟩, rfl, by rw [List.drop_drop] at hR'; exact hR', by simp, ?_, by simp; omega, by omega, rfl⟩
          have := IntsAre.snoc hvs ((v : Int) + more) (k3 + 1)
          simpa [iv] using this
  · refine itN (by simpa using hlt) ?_
    have e : text.drop at_ = [] := List.drop_of_length_le (by omega)
    rw [e] at hR
    cases hR with
    | tok h => exact absurd rfl h
    | nil =>
    repeat walk_at "m"
    refine back_ (new := [(a, listOf vs.toArray k)]) F N ⟨a, vs, k, rfl, rfl, by simpa using hvs, by omega⟩
end
section -- G3
open PySem PySem.W PyProof.Rows PySem.Calls PySem.NumText PySem.Builtin.Str
set_option maxRecDepth 100000
theorem IntsAre.get {vs : List Value} {ns : List Int} (h : IntsAre vs ns) : ∀ {k : Nat} {n : Int}, ns[k]? = some n → ∃ t, vs[k]? = some (.int n t) := by
  induction h with
  | nil => intro k n h; simp at h
  | cons a u _ ih =>
    intro k n h
    cases k with
    | zero => simp at h; subst h; exact ⟨u, rfl⟩
    | succ k => exact ih (by simpa using h)
theorem StrsAre.get {vs : List Value} {ys : List Str} (h : StrsAre vs ys) : ∀ {k : Nat} {y : Str}, ys[k]? = some y → ∃ t, vs[k]? = some (.str y t) := by
  induction h with
  | nil => intro k n h; simp at h
  | cons a u _ ih =>
    intro k n h
    cases k with
    | zero => simp at h; subst h; exact ⟨u, rfl⟩
    | succ k => exact ih (by simpa using h)
theorem StrsAre.snoc {vs : List Value} {ys : List Str} (h : StrsAre vs ys) (y : Str) (t : Tok) : StrsAre (vs ++ [.str y t]) (ys ++ [y]) := by
  induction h with
  | nil => exact .cons y t .nil
  | cons a u _ ih => exact .cons a u ih
theorem IntsAre.len {vs : List Value} {ns : List Int} (h : IntsAre vs ns) : vs.length = ns.length := by
  induction h with
  | nil => rfl
  | cons _ _ _ ih => simp [ih]
theorem StrsAre.len {vs : List Value} {ns : List Str} (h : StrsAre vs ns) : vs.length = ns.length := by
  induction h with
  | nil => rfl
  | cons _ _ _ ih => simp [ih]
section
variable {w : World} {A : Around} {E : Value → Shared → Prop} {hp : Heap} {gn : Array GenState} {dr : Drawn} {tk : Nat} {os : OsState} {h₀ : Heap} {L : Addr} {m : Str → Option Value} {news : List (Addr × Obj)}
theorem itemL {value slice : Expr} {l : Addr} {vs : List Value} {n : Nat} {k : Nat} {u : Tok} {v : Value} {Q : Value → Shared → Prop} (N : News h₀ L hp news) (hm : (l, listOf vs.toArray n) ∈ news) (hk : k ≤ 100000) (hx : vs[k]? = some v) (h : Q v ⟨hp, gn, dr, tk, os⟩)
    (hs : subscripted slice false (.ref l) (.int (k : Nat) u) = operate [.ref l, .int (k : Nat) u] (getItem (.ref l) (.int (k : Nat) u))) :
    wpAny (Mo w) A (subscriptTail value slice (.ref l) (.int (k : Nat) u)) Q E ⟨hp, gn, dr, tk, os⟩ :=
  item_litK (s := ⟨hp, gn, dr, tk, os⟩) (isL N hm) (by omega) (by omega) (by simpa using hx) h hs
section
variable {a b : Nat} {t u : Tok} {Q : Value → Shared → Prop}
theorem modN (hb : 0 < b) (h : Q (.int ((a % b : Nat) : Int) tk) ⟨hp, gn, dr, tk + 1, os⟩) : wpAny (Mo w) A (binaryOp .Mod (.int (a : Nat) t) (.int (b : Nat) u)) Q E ⟨hp, gn, dr, tk, os⟩ := by
  refine mod_int' (by omega) ?_
  rw [Int.fmod_eq_emod_of_nonneg _ (by omega)]
  exact h
theorem divN (hb : 0 < b) (hb2 : b < 1000000) (h : Q (.int ((a / b : Nat) : Int) tk) ⟨hp, gn, dr, tk + 1, os⟩) : wpAny (Mo w) A (binaryOp .FloorDiv (.int (a : Nat) t) (.int (b : Nat) u)) Q E ⟨hp, gn, dr, tk, os⟩ := by
  refine floordiv_int (by omega) ?_ (Or.inl (PyProof.noPylong_small (by omega)))
  rw [Int.fdiv_eq_ediv_of_nonneg _ (by omega)]
  exact h
theorem subN (hb : b ≤ a) (h : Q (.int ((a - b : Nat) : Int) tk) ⟨hp, gn, dr, tk + 1, os⟩) : wpAny (Mo w) A (binaryOp .Sub (.int (a : Nat) t) (.int (b : Nat) u)) Q E ⟨hp, gn, dr, tk, os⟩ := by
  refine sub_int ?_
  rw [show ((a : Int) - (b : Int)) = ((a - b : Nat) : Int) by omega]
  exact h
theorem addN (h : Q (.int ((a + b : Nat) : Int) tk) ⟨hp, gn, dr, tk + 1, os⟩) : wpAny (Mo w) A (binaryOp .Add (.int (a : Nat) t) (.int (b : Nat) u)) Q E ⟨hp, gn, dr, tk, os⟩ := by
  refine add_int ?_
  exact h
theorem mulN (h : Q (.int ((a * b : Nat) : Int) tk) ⟨hp, gn, dr, tk + 1, os⟩) (hok : IntMulOk (a : Int) (b : Int)) : wpAny (Mo w) A (binaryOp .Mult (.int (a : Nat) t) (.int (b : Nat) u)) Q E ⟨hp, gn, dr, tk, os⟩ := by
  refine mul_int ?_ hok
  rw [show ((a : Int) * (b : Int)) = ((a * b : Nat) : Int) from (Int.natCast_mul a b).symm]
  exact h
end
end
/-- the units of a row of numbers -/
inductive Un (ops : List (List Nat)) : List Nat → List Nat → List (List Nat) → Prop
  | done {part r : List Nat} : Un ops part (0 :: r) []
  | unit {part r sg : List Nat} {s a b : Nat} {o : List (List Nat)} : s < 47 → ops[s]? = some sg → 256 ≤ a → 256 ≤ b → Un ops [] r o → Un ops part ((s + 209) :: a :: b :: r) ((part ++ sg.dropLast ++ [16 * ((a - 254) % 16) + (b - 254) % 16]) :: o)
  | more {part r sg : List Nat} {s n : Nat} {o : List (List Nat)} : s < 47 → ops[s]? = some sg → n < 256 → Un ops (part ++ sg) (n :: r) o → Un ops part ((s + 209) :: n :: r) o
end
section -- F7
open PySem PySem.W PyProof.Rows PySem.Calls PySem.NumText
set_option maxRecDepth 100000
theorem use0 {w : World} {A : Around} {E : Value → Shared → Prop} {hp : Heap} {gn : Array GenState} {dr : Drawn} {tk : Nat} {os : OsState} {Q : Value → Shared → Prop} {d f : Nat} {vs : List Value} {news : List (Addr × Obj)} {P : Value → Prop} {L : Addr} {h₀ : Heap} {m : Str → Option Value} (H : Claim w d f vs news (fun v new => P v ∧ new = [])) (C : At w A L h₀) (F : Fr h₀ L hp m) (N : News h₀ L hp news) (hd : A.depth + d < recursionLimit) (hu : A.units + 16 * d < cLine)
    (h : ∀ v h' tk', P v → Fr h₀ L h' m → News h₀ L h' news → Q v ⟨h', gn, dr, tk', os⟩) : wpAny (Mo w) A (call (.ref f) vs) Q E ⟨hp, gn, dr, tk, os⟩ :=
  use H C F N hd hu (by rintro v new h' tk' ⟨p, rfl⟩ F' N'; exact h v h' tk' p F' N')
noncomputable abbrev ufr (oa sa a : Addr) (part : List Nat) (at_ : Nat) (tp ta : Tok) (rest : List (Str × Value)) : List (Str × Value) :=
  (S "operators", .ref oa) :: (S "symbols", .ref sa) :: (S "units", .ref a) :: (S "part", .str (T part) tp) :: (S "at", .int (at_ : Nat) ta) :: rest
noncomputable def uJ (ops : List (List Nat)) (syms : List Nat) (out : List (List Nat)) (oa sa a : Addr) (nw : List (Addr × Obj)) (n : Nat) (fl : List (Str × Value)) (news : List (Addr × Obj)) : Prop :=
  ∃ at_ part tp ta rest o1 o2 vs k, fl = ufr oa sa a part at_ tp ta rest ∧ (rest = [] ∨ ∃ v oc, rest = (S "signs", v) :: oc ∧ (oc = [] ∨ ∃ v, oc = [(S "octet", v)])) ∧ n = syms.length - at_ ∧ Un ops part (syms.drop at_) o2 ∧ out = o1 ++ o2 ∧ StrsAre vs (o1.map T) ∧ vs.length ≤ at_ ∧ part.length ≤ 3 * at_ ∧ news = (a, listOf vs.toArray k) :: nw
noncomputable def unW : Stmt := match bd 80 with | [_, _, _, s, _] => s | _ => .Pass (Pos.mk 0 0 0 0)
noncomputable def unB : List Stmt := match unW with | .While _ (_ :: _ :: b) _ _ => b | _ => []
theorem unT2 {w : World} {A : Around} {g : Heap} {L : Addr} {gn : Array GenState} {dr : Drawn} {os : OsState} {news : List (Addr × Obj)} {Q : Flow → Shared → Prop} {h : Heap} {tk : Nat} {ops out : List (List Nat)} {syms r : List Nat} {oa sa a : Addr} {svs vs : List Value} {sk k at_ b : Nat} {part sg : List Nat} {tp ta ts : Tok} {oc : List (Str × Value)} {o1 o2 : List (List Nat)}
    (C : At w A L g) (hd : A.depth + 1 < recursionLimit) (hu : A.units + 16 * 1 < cLine) (hlen : syms.length ≤ 1003) (hsl : sg.length ≤ 3) (hms : ∀ {o : Obj}, (sa, listOf svs.toArray sk) ∈ (a, o) :: news) (hsv : IntsAre svs (iv syms))
    (hlt : at_ < syms.length) (hdr : syms.drop (at_ + 1) = b :: r) (hb : b < 256) (hU : Un ops (part ++ sg) (b :: r) o2) (ho : out = o1 ++ o2) (hvs : StrsAre vs (o1.map T)) (hvl : vs.length ≤ at_) (hpl : part.length ≤ 3 * at_) (hoc : oc = [] ∨ ∃ v, oc = [(S "octet", v)])
    (F : Fr g L h (lk (ufr oa sa a part (at_ + 1) tp ta ((S "signs", .str (T sg) ts) :: oc)))) (N : News g L h ((a, listOf vs.toArray k) :: news)) :
    wpAny (Mo w) A (execs unB (ev 80 138 137 L)) (WTurn gn dr os g L (uJ ops syms out oa sa a news) Q (syms.length - at_)) (fun _ _ => False) ⟨h, gn, dr, tk, os⟩ := by
  have hg : syms[at_ + 1]? = some b := by have := congrArg (·[0]?) hdr; simpa using this
  obtain ⟨tx, hx⟩ := Mine.IntsAre.get hsv (k := at_ + 1) (n := b) (by simp [hg])
  refine wpAny_execs_cons ?_
  repeat walk_at "m"
  refine nameK C (by assumption) (g_ISNONTERMINAL _) ?_ (by kernel_rfl) (by kernel_rfl) (by kernel_rfl)
  refine callWith_K C.X (kp_ISNONTERMINAL _) ?_ (by rfl) (by rfl)
  repeat walk_at "m"
  refine itemL (k := at_ + 1) (by assumption) hms (by omega) hx ?_ (by with_unfolding_all rfl)
  repeat walk_at "m"
  refine ⟨C.X.keeps (Fr.keep (by assumption)), ?_⟩
  refine use0 (isnont _ _) C (by assumption) (by assumption) hd hu ?_
  rintro _ h' tk' rfl F' N'
  repeat walk_at "m"
  refine itN (by simp; omega) ?_
  repeat walk_at "m"
  refine iaddT (by omega) fun t1 k1 => ?_
  repeat walk_at "m"
  rename_i h1 F1 N1
  have F2 : Fr g L h1 (lk (ufr oa sa a (part ++ sg) (at_ + 1) t1 ta ((S "signs", .str (T sg) ts) :: oc))) := F1
  exact wturn_next (syms.length - (at_ + 1)) F2 N1 (by omega) ⟨at_ + 1, _, _, _, _, o1, o2, vs, k, rfl, .inr ⟨_, oc, rfl, hoc⟩, rfl, by rw [hdr]; exact hU, ho, hvs, by omega, by simp; omega, rfl⟩
set_option maxHeartbeats 4000000 in
theorem unT1 {w : World} {A : Around} {g : Heap} {L : Addr} {gn : Array GenState} {dr : Drawn} {os : OsState} {news : List (Addr × Obj)} {Q : Flow → Shared → Prop} {h : Heap} {tk : Nat} {ops out : List (List Nat)} {syms r : List Nat} {oa sa a : Addr} {svs vs : List Value} {sk k at_ b c : Nat} {part sg : List Nat} {tp ta ts : Tok} {oc : List (Str × Value)} {o1 o2 : List (List Nat)}
    (C : At w A L g) (hd : A.depth + 1 < recursionLimit) (hu : A.units + 16 * 1 < cLine) (hlen : syms.length ≤ 1003) (hsl : sg.length ≤ 3) (hms : ∀ {o : Obj}, (sa, listOf svs.toArray sk) ∈ (a, o) :: news) (hsv : IntsAre svs (iv syms)) (hna : ∀ p ∈ news, p.1 ≠ a)
    (hlt : at_ < syms.length) (hdr : syms.drop (at_ + 1) = b :: c :: r) (hb : 256 ≤ b) (hc : 256 ≤ c) (hU : Un ops [] r o2) (ho : out = o1 ++ (part ++ sg.dropLast ++ [16 * ((b - 254) % 16) + (c - 254) % 16]) :: o2) (hvs : StrsAre vs (o1.map T)) (hvl : vs.length ≤ at_) (hpl : part.length ≤ 3 * at_) (hoc : oc = [] ∨ ∃ v, oc = [(S "octet", v)])
    (F : Fr g L h (lk (ufr oa sa a part (at_ + 1) tp ta ((S "signs", .str (T sg) ts) :: oc)))) (N : News g L h ((a, listOf vs.toArray k) :: news)) :
    wpAny (Mo w) A (execs unB (ev 80 138 137 L)) (WTurn gn dr os g L (uJ ops syms out oa sa a news) Q (syms.length - at_)) (fun _ _ => False) ⟨h, gn, dr, tk, os⟩ := by
  have hg : syms[at_ + 1]? = some b := by have := congrArg (·[0]?) hdr; simpa using this
  have hg2 : syms[at_ + 2]? = some c := by have := congrArg (·[1]?) hdr; simpa using this
  obtain ⟨tx, hx⟩ := Mine.IntsAre.get hsv (k := at_ + 1) (n := b) (by simp [hg])
  obtain ⟨ty, hy⟩ := Mine.IntsAre.get hsv (k := at_ + 2) (n := c) (by simp [hg2])
  refine wpAny_execs_cons ?_
  repeat walk_at "m"
  refine nameK C (by assumption) (g_ISNONTERMINAL _) ?_ (by kernel_rfl) (by kernel_rfl) (by kernel_rfl)
  refine callWith_K C.X (kp_ISNONTERMINAL _) ?_ (by rfl) (by rfl)
  repeat walk_at "m"
  refine itemL (k := at_ + 1) (by assumption) hms (by omega) hx ?_ (by with_unfolding_all rfl)
  repeat walk_at "m"
  refine ⟨C.X.keeps (Fr.keep (by assumption)), ?_⟩
  refine use0 (isnont _ _) C (by assumption) (by assumption) hd hu ?_
  rintro _ h' tk' rfl F' N'
  repeat walk_at "m"
  refine itY (by simp; omega) ?_
  repeat walk_at "m"
  refine nameK C (by assumption) (g_ISTERMINAL _) ?_ (by kernel_rfl) (by kernel_rfl) (by kernel_rfl)
  refine callWith_K C.X (kp_ISTERMINAL _) ?_ (by rfl) (by rfl)
  repeat walk_at "m"
  refine itemL (k := at_ + 1) (by assumption) hms (by omega) hx ?_ (by with_unfolding_all rfl)
  repeat walk_at "m"
  refine ⟨C.X.keeps (Fr.keep (by assumption)), ?_⟩
  refine use0 (isterm _ _) C (by assumption) (by assumption) hd hu ?_
  rintro _ h' tk' rfl F' N'
  repeat walk_at "m"
  refine itN (by simp; omega) ?_
  repeat walk_at "m"
  refine nameK C (by assumption) (g_ISTERMINAL _) ?_ (by kernel_rfl) (by kernel_rfl) (by kernel_rfl)
  refine callWith_K C.X (kp_ISTERMINAL _) ?_ (by rfl) (by rfl)
  repeat walk_at "m"
  refine itemL (k := at_ + 2) (by assumption) hms (by omega) hy ?_ (by with_unfolding_all rfl)
  repeat walk_at "m"
  refine ⟨C.X.keeps (Fr.keep (by assumption)), ?_⟩
  refine use0 (isterm _ _) C (by assumption) (by assumption) hd hu ?_
  rintro _ h' tk' rfl F' N'
  repeat walk_at "m"
  refine itN (by simp; omega) ?_
  repeat walk_at "m"
  refine nameK C (by assumption) (g_ISNONTERMINAL _) ?_ (by kernel_rfl) (by kernel_rfl) (by kernel_rfl)
  refine callWith_K C.X (kp_ISNONTERMINAL _) ?_ (by rfl) (by rfl)
  repeat walk_at "m"
  refine itemL (k := at_ + 2) (by assumption) hms (by omega) hy ?_ (by with_unfolding_all rfl)
  repeat walk_at "m"
  refine ⟨C.X.keeps (Fr.keep (by assumption)), ?_⟩
  refine use0 (isnont _ _) C (by assumption) (by assumption) hd hu ?_
  rintro _ h' tk' rfl F' N'
  repeat walk_at "m"
  refine itN (by simp; omega) ?_
  repeat walk_at "m"
  refine itF ?_
  repeat walk_at "m"
  refine itemL (k := at_ + 1) (by assumption) hms (by omega) hx ?_ (by with_unfolding_all rfl)
  repeat walk_at "m"
  refine mod_int' (by decide) ?_
  repeat walk_at "m"
  refine mul_int ?_ (IntMulOk.of_left (by decide))
  repeat walk_at "m"
  refine itemL (k := at_ + 2) (by assumption) hms (by omega) hy ?_ (by with_unfolding_all rfl)
  repeat walk_at "m"
  refine mod_int' (by decide) ?_
  have e1 : ((b : Int) - 254).fmod 16 = (((b - 254) % 16 : Nat) : Int) := by rw [Int.fmod_eq_emod_of_nonneg _ (by omega)]; omega
  have e2 : ((c : Int) - 254).fmod 16 = (((c - 254) % 16 : Nat) : Int) := by rw [Int.fmod_eq_emod_of_nonneg _ (by omega)]; omega
  rw [e1, e2]
  clear F N
  obtain ⟨n8, hn8⟩ : ∃ n8, n8 = 16 * ((b - 254) % 16) + (c - 254) % 16 := ⟨_, rfl⟩
  have hn9 : n8 < 256 := by omega
  rw [← hn8] at ho
  rcases hoc with rfl | ⟨v, rfl⟩
  all_goals
    repeat walk_at "m"
    refine gmApp (by assumption) (.head _) ?_
    repeat walk_at "m"
    refine neg_int ?_
    repeat walk_at "m"
    refine sliceTL (by assumption) (by assumption) (by omega) (fun h3 t3 k3 F3 N3 => ?_) (by with_unfolding_all rfl) (by intro _; with_unfolding_all rfl)
    refine addT (by simp; omega) fun t4 k4 => ?_
    repeat walk_at "m"
    refine nameB C (by assumption) (n_chr _) boot_chr (by decide) ?_ (by kernel_rfl) (by kernel_rfl) (by kernel_rfl)
    repeat walk_at "m"
    refine chr_of_range (by omega) (by omega) ?_
    rw [show (16 * (((b - 254) % 16 : Nat) : Int) + (((c - 254) % 16 : Nat) : Int)).toNat = n8 by omega]
    refine addT (b := [n8]) (by simp; omega) fun t5 k5 => ?_
    repeat walk_at "m"
    refine appH F3 N3 hna (by omega) fun h6 F6 N6 => ?_
    repeat walk_at "m"
    rename_i h7 F7 N7 h8 F8 N8
    refine wturn_next (syms.length - (at_ + 3)) F8 N8 (by omega) ⟨at_ + 3, [], _, _, _, o1 ++ [part ++ sg.dropLast ++ [n8]], o2, _, k + 1, rfl, .inr ⟨_, _, rfl, .inr ⟨_, rfl⟩⟩, rfl, ?_, by simp [ho], ?_, by simp; omega, by simp, rfl⟩
    · have := congrArg (List.drop 2) hdr
      rw [List.drop_drop] at this
      rw [show at_ + 3 = at_ + 1 + 2 by omega, this]
      exact hU
    · have := Mine.StrsAre.snoc hvs (T (part ++ sg.dropLast ++ [n8])) t5
      simpa using this
set_option maxHeartbeats 4000000 in
theorem units_ {w : World} {news : List (Addr × Obj)} {ops out : List (List Nat)} {syms : List Nat} {oa sa : Addr} {ovs svs : List Value} {ok sk : Nat} (hlen : syms.length ≤ 1003) (hol : ∀ o ∈ ops, o.length ≤ 3) (hmo : (oa, listOf ovs.toArray ok) ∈ news) (hms : (sa, listOf svs.toArray sk) ∈ news) (hov : StrsAre ovs (ops.map T)) (hsv : IntsAre svs (iv syms)) (hU : Un ops [] syms out) :
    Claim w 2 138 [.ref sa, .ref oa] news (fun v new => ∃ a vs n, v = .ref a ∧ new = [(a, listOf vs.toArray n)] ∧ StrsAre vs (out.map T) ∧ vs.length ≤ 1003) := by
  refine enter (binds := [(S "symbols", .ref sa), (S "operators", .ref oa)]) (l := [(S "operators", .ref oa), (S "symbols", .ref sa)]) (fo80 _) (by kernel_rfl) (fun s _ => BindsTo.of_eq (by kernel_rfl)) rfl (locs (by kernel_rfl)) (by kernel_rfl) (by kernel_rfl) (by kernel_rfl) (by decide +kernel) ?_
  intro A g L hp gn dr tk os C F N hd hu
  refine wpAny_execs_cons ?_
  repeat walk_at "m"
  refine newL F N (by simp) fun a h1 F1 N1 hna => ?_
  repeat walk_at "m"
  rename_i h2 F2 N2 h3 F3 N3 h4 F4 N4
  replace hmo : ∀ o : Obj, (oa, listOf ovs.toArray ok) ∈ (a, o) :: news := fun o => List.mem_cons_of_mem _ hmo
  replace hms : ∀ {o : Obj}, (sa, listOf svs.toArray sk) ∈ (a, o) :: news := List.mem_cons_of_mem _ hms
  refine whileL (uJ ops syms out oa sa a news) (n₀ := syms.length) F4 N4 ⟨0, [], _, _, [], [], out, [], 0, rfl, .inl rfl, by simp, by simpa using hU, rfl, .nil, by simp, by simp, rfl⟩ ?_
  clear F N F1 N1 F2 N2 F3 N3 F4 N4 hU
  rintro n fl news₁ h tk F N ⟨at_, part, tp, ta, rest, o1, o2, vs, k, rfl, hrest, rfl, hU, rfl, hvs, hvl, hpl, rfl⟩
  have hat : ∃ x r, syms.drop at_ = x :: r ∧ at_ < syms.length := by
    have hn : syms.drop at_ ≠ [] := by intro e; rw [e] at hU; cases hU
    obtain ⟨x, r, e⟩ := List.exists_cons_of_ne_nil hn
    exact ⟨x, r, e, by have := congrArg List.length e; simp at this; omega⟩
  obtain ⟨x, r, hxr, hlt⟩ := hat
  have hgx : syms[at_]? = some x := by have := congrArg (·[0]?) hxr; simpa using this
  obtain ⟨tx, hx⟩ := Mine.IntsAre.get hsv (k := at_) (n := x) (by simp [hgx])
  rw [hxr] at hU
  repeat walk_at "m"
  refine nameK C (by assumption) (g_ISTERMINAL _) ?_ (by kernel_rfl) (by kernel_rfl) (by kernel_rfl)
  refine callWith_K C.X (kp_ISTERMINAL _) ?_ (by rfl) (by rfl)
  repeat walk_at "m"
  refine itemL (k := at_) (by assumption) hms (by omega) hx ?_ (by with_unfolding_all rfl)
  repeat walk_at "m"
  refine ⟨C.X.keeps (Fr.keep (by assumption)), ?_⟩
  refine use0 (isterm _ _) C (by assumption) (by assumption) hd hu ?_
  rintro _ h' tk' rfl F' N'
  repeat walk_at "m"
  have hx256 : x < 256 := by cases hU <;> omega
  refine itY (by simp; omega) ?_
  repeat walk_at "m"
  refine nameK C (by assumption) (g_ISNONTERMINAL _) ?_ (by kernel_rfl) (by kernel_rfl) (by kernel_rfl)
  refine callWith_K C.X (kp_ISNONTERMINAL _) ?_ (by rfl) (by rfl)
  repeat walk_at "m"
  refine itemL (k := at_) (by assumption) hms (by omega) hx ?_ (by with_unfolding_all rfl)
  repeat walk_at "m"
  refine ⟨C.X.keeps (Fr.keep (by assumption)), ?_⟩
  refine use0 (isnont _ _) C (by assumption) (by assumption) hd hu ?_
  rintro _ h' tk' rfl F' N'
  repeat walk_at "m"
  refine itY (by simp; omega) ?_
  repeat walk_at "m"
  refine nameK C (by assumption) (g_ISEOF _) ?_ (by kernel_rfl) (by kernel_rfl) (by kernel_rfl)
  refine callWith_K C.X (kp_ISEOF _) ?_ (by rfl) (by rfl)
  repeat walk_at "m"
  refine itemL (k := at_) (by assumption) hms (by omega) hx ?_ (by with_unfolding_all rfl)
  repeat walk_at "m"
  refine ⟨C.X.keeps (Fr.keep (by assumption)), ?_⟩
  refine use0 (iseof _ _) C (by assumption) (by assumption) hd hu ?_
  rintro _ h' tk' rfl F' N'
  repeat walk_at "m"
  cases hU with
  | done =>
    refine itN (by simp) ?_
    repeat walk_at "m"
    refine itF ?_
    repeat walk_at "m"
    refine back_ (new := [(a, listOf vs.toArray k)]) F' N' ⟨a, vs, k, rfl, rfl, by simpa using hvs, by omega⟩
  | unit hs hsg ha hb hU' =>
    rename_i r sg s b c o
    obtain ⟨ty, hy⟩ := Mine.StrsAre.get hov (k := s) (y := T sg) (by simp [hsg])
    have hsl := hol sg (List.mem_of_getElem? hsg)
    have hdr : syms.drop (at_ + 1) = b :: c :: r := by
      have := congrArg (List.drop 1) hxr
      rwa [List.drop_drop] at this
    refine itY (by simp; omega) ?_
    repeat walk_at "m"
    refine itT ?_
    rcases hrest with rfl | ⟨v, oc, rfl, rfl | ⟨v, rfl⟩⟩
    all_goals
      repeat walk_at "m"
      refine itemL (k := at_) (by assumption) hms (by omega) hx ?_ (by with_unfolding_all rfl)
      repeat walk_at "m"
      rw [show (((s + 209 : Nat) : Int) - 209) = ((s : Nat) : Int) by omega]
      refine itemL (k := s) (by assumption) (hmo _) (by omega) hy ?_ (by with_unfolding_all rfl)
      walk_at "if"
      rename_i h8 F8 N8 h9 F9 N9
      first
        | exact unT1 C hd hu hlen hsl hms hsv hna hlt hdr ha hb hU' rfl hvs hvl hpl (.inl rfl) F9 N9
        | exact unT1 C hd hu hlen hsl hms hsv hna hlt hdr ha hb hU' rfl hvs hvl hpl (.inr ⟨_, rfl⟩) F9 N9
  | more hs hsg hn hU' =>
    rename_i r sg s b
    obtain ⟨ty, hy⟩ := Mine.StrsAre.get hov (k := s) (y := T sg) (by simp [hsg])
    have hsl := hol sg (List.mem_of_getElem? hsg)
    have hdr : syms.drop (at_ + 1) = b :: r := by
      have := congrArg (List.drop 1) hxr
      rwa [List.drop_drop] at this
    refine itY (by simp; omega) ?_
    repeat walk_at "m"
    refine itT ?_
    rcases hrest with rfl | ⟨v, oc, rfl, rfl | ⟨v, rfl⟩⟩
    all_goals
      repeat walk_at "m"
      refine itemL (k := at_) (by assumption) hms (by omega) hx ?_ (by with_unfolding_all rfl)
      repeat walk_at "m"
      rw [show (((s + 209 : Nat) : Int) - 209) = ((s : Nat) : Int) by omega]
      refine itemL (k := s) (by assumption) (hmo _) (by omega) hy ?_ (by with_unfolding_all rfl)
      walk_at "if"
      rename_i h8 F8 N8 h9 F9 N9
      first
        | exact unT2 C hd hu hlen hsl hms hsv hlt hdr hn hU' rfl hvs hvl hpl (.inl rfl) F9 N9
        | exact unT2 C hd hu hlen hsl hms hsv hlt hdr hn hU' rfl hvs hvl hpl (.inr ⟨_, rfl⟩) F9 N9
end
section -- F8
open PySem PySem.W PyProof.Rows PySem.Calls PySem.NumText
set_option maxRecDepth 100000
noncomputable def opL : List (List Nat) := [[40], [41], [91], [93], [58], [44], [59], [43], [45], [42], [47], [124], [38], [60], [62], [61], [46], [37], [123], [125], [61, 61], [33, 61], [60, 61], [62, 61], [126], [94], [60, 60], [62, 62], [42, 42], [43, 61], [45, 61], [42, 61], [47, 61], [37, 61], [38, 61], [124, 61], [94, 61], [60, 60, 61], [62, 62, 61], [42, 42, 61], [47, 47], [47, 47, 61], [64], [64, 61], [45, 62], [46, 46, 46], [58, 61], [33]]
noncomputable def opText : List Nat := [40, 32, 41, 32, 91, 32, 93, 32, 58, 32, 44, 32, 59, 32, 43, 32, 45, 32, 42, 32, 47, 32, 124, 32, 38, 32, 60, 32, 62, 32, 61, 32, 46, 32, 37, 32, 123, 32, 125, 32, 61, 61, 32, 33, 61, 32, 60, 61, 32, 62, 61, 32, 126, 32, 94, 32, 60, 60, 32, 62, 62, 32, 42, 42, 32, 43, 61, 32, 45, 61, 32, 42, 61, 32, 47, 61, 32, 37, 61, 32, 38, 61, 32, 124, 61, 32, 94, 61, 32, 60, 60, 61, 32, 62, 62, 61, 32, 42, 42, 61, 32, 47, 47, 32, 47, 47, 61, 32, 64, 32, 64, 61, 32, 45, 62, 32, 46, 46, 46, 32, 58, 61, 32, 33]
theorem op_split : Txt.split (T opText) (T [32]) = opL.map T := by decide +kernel
theorem ops_ {w : World} {news : List (Addr × Obj)} : Claim w 1 124 [] news (fun v new => ∃ a vs n, v = .ref a ∧ new = [(a, listOf vs.toArray n)] ∧ StrsAre vs (opL.map T)) := by
  refine enter (binds := []) (l := []) (fo78 _) (by kernel_rfl) (fun s _ => BindsTo.of_eq (by kernel_rfl)) rfl (locs (by kernel_rfl)) (by kernel_rfl) (by kernel_rfl) (by kernel_rfl) (by decide +kernel) ?_
  intro A g L hp gn dr tk os C F N hd hu
  refine wpAny_execs_cons ?_
  repeat walk_at "m"
  refine splitN1A F N (by kernel_rfl) (fun l h' k e1 e2 e3 hil F1 N1 => ?_) (by decide +kernel)
  rw [show Txt.split (Str.ofString "( ) [ ] : , ; + - * / | & < > = . % { } == != <= >= ~ ^ << >> ** += -= *= /= %= &= |= ^= <<= >>= **= // //= @ @= -> ... := !") (Str.ofString " ") = Txt.split (T opText) (T [32]) by kernel_rfl, op_split] at e1
  rw [e1] at e2
  exact back_ (new := [_]) F1 N1 ⟨_, strValues l, 0, rfl, rfl, e2⟩
end
section -- R0
open PySem PySem.W PyProof.Rows PySem.Calls PySem.Sre PySem.Builtin PySem.Builtin.Re
set_option maxRecDepth 100000
/-- the pattern's words -/
noncomputable def rc : Array Nat := #[14, 8, 1, 3, 3, 1, 1, 61, 0, 16, 61, 24, 16, 2, 2, 13, 11, 9, 0, 67043328, 126, 126, 0, 0, 0, 0, 0, 1, 1]
noncomputable def stp : Nat → M → M
  | 0, m => m
  | n + 1, m => stp n m.step
theorem step_done {m : M} (h : m.outcome.isSome = true) : m.step = m := by unfold M.step; rw [if_pos h]
theorem stp_done {m : M} (h : m.outcome.isSome = true) : ∀ n, stp n m = m
  | 0 => rfl
  | n + 1 => by show stp n m.step = m; rw [step_done h, stp_done h n]
theorem runFor_eq : ∀ (n : Nat) (m : M), m.runFor n = stp n m
  | 0, m => rfl
  | n + 1, m => by
    show (if m.outcome.isSome = true then m else M.runFor n m.step) = stp n m.step
    by_cases h : m.outcome.isSome = true
    · rw [if_pos h, step_done h, stp_done h]
    · rw [if_neg h, runFor_eq n]
theorem stp_add (a b : Nat) (m : M) : stp (a + b) m = stp b (stp a m) := by
  induction a generalizing m with
  | zero => simp [stp]
  | succ a ih => rw [show a + 1 + b = (a + b) + 1 by omega]; exact ih m.step
/-- the machine at the beginning of an attempt -/
noncomputable def mA (x : Array Nat) (s : Nat) (first : Bool) (seen : Sre.Seen) : M :=
  { code := rc, text := x, lim := x.size, start := s, lastStart := x.size, pc := 9, pos := s, handed := s, outermost := first, marks := #[], frames := [{ wait := .nextStart, pc := 9, pos := s, outermost := first }], weight := 1, seen := seen }
/-- an attempt has failed -/
noncomputable def mN (x : Array Nat) (s : Nat) (first : Bool) (pc pos : Nat) (seen : Sre.Seen) : M := { mA x s first seen with pc := pc, pos := pos, answer := some false }
/-- behind the first sign -/
noncomputable def mB (x : Array Nat) (s : Nat) (first : Bool) (seen : Sre.Seen) : M := { mA x s first seen with pc := 11, pos := s + 1 }
noncomputable def mO (x : Array Nat) (s : Nat) (seen : Sre.Seen) (yes : Bool) : M := { mA x s false seen with outcome := some (if yes then .matched else .failed) }
theorem stepN_more (x : Array Nat) (s : Nat) (first : Bool) (pc pos : Nat) (seen : Sre.Seen) (h : s < x.size) : (mN x s first pc pos seen).step = mA x (s + 1) false seen := by
  have e : (mN x s first pc pos seen).step = if s < x.size then mA x (s + 1) false seen else (M.say { mA x s first seen with pc := 9, pos := s, frames := [], weight := 0 } false) := by kernel_rfl
  rw [e, if_pos h]
theorem stepN_end (x : Array Nat) (s : Nat) (first : Bool) (pc pos : Nat) (seen : Sre.Seen) (h : ¬ s < x.size) : (mN x s first pc pos seen).step = (M.say { mA x s first seen with pc := 9, pos := s, frames := [], weight := 0 } false) := by
  have e : (mN x s first pc pos seen).step = if s < x.size then mA x (s + 1) false seen else (M.say { mA x s first seen with pc := 9, pos := s, frames := [], weight := 0 } false) := by kernel_rfl
  rw [e, if_neg h]
theorem stepA_end (x : Array Nat) (s : Nat) (first : Bool) (seen : Sre.Seen) (h : x.size ≤ s) : (mA x s first seen).step = mN x s first 9 s (seen.add 16) := by
  have e : (mA x s first seen).step = if s ≥ x.size then mN x s first 9 s (seen.add 16) else (match (Except.ok (x.getD s 0 == 61, seen.add 16) : Except String (Bool × Sre.Seen)) with
    | .error why => ({ mA x s first (seen.add 16) with pc := 9 } : M).stick why
    | .ok (false, seen) => mN x s first 9 s seen
    | .ok (true, seen) => mB x s first seen) := by kernel_rfl
  rw [e, if_pos h]
theorem stepA_eq (x : Array Nat) (s : Nat) (first : Bool) (seen : Sre.Seen) : (mA x s first seen).step = if s ≥ x.size then mN x s first 9 s (seen.add 16) else (match (Except.ok (x.getD s 0 == 61, seen.add 16) : Except String (Bool × Sre.Seen)) with
    | .error why => ({ mA x s first (seen.add 16) with pc := 9 } : M).stick why
    | .ok (false, seen) => mN x s first 9 s seen
    | .ok (true, seen) => mB x s first seen) := by kernel_rfl
theorem stepA_no (x : Array Nat) (s : Nat) (first : Bool) (seen : Sre.Seen) (h : s < x.size) (hc : (x.getD s 0 == 61) = false) : (mA x s first seen).step = mN x s first 9 s (seen.add 16) := by
  rw [stepA_eq, if_neg (by omega), hc]
theorem stepA_yes (x : Array Nat) (s : Nat) (first : Bool) (seen : Sre.Seen) (h : s < x.size) (hc : (x.getD s 0 == 61) = true) : (mA x s first seen).step = mB x s first (seen.add 16) := by
  rw [stepA_eq, if_neg (by omega), hc]
noncomputable def hexc (c : Nat) : Bool := decide (c < 256) && (rc.getD (17 + (1 + c / 32)) 0).testBit (c % 32)
theorem hexc_eq : ∀ c, c < 128 → hexc c = decide (c ∈ hexL) := by decide +kernel
theorem acc_eq (c : Nat) (seen : Sre.Seen) : accepts rc 15 c seen = if hexc c = true then .ok (true, seen.add 9) else .ok (false, (seen.add 9).add 0) := by kernel_rfl
theorem run_eq (x : Array Nat) (n p f : Nat) (seen : Sre.Seen) : run rc x 15 (n + 1) p f seen = if hexc (x.getD p 0) = true then run rc x 15 n (p + 1) (f + 1) (seen.add 9) else .ok (f, (seen.add 9).add 0) := by
  show (do let (yes, seen) ← accepts rc 15 (x.getD p 0) seen; if yes then run rc x 15 n (p + 1) (f + 1) seen else pure (f, seen)) = _
  rw [acc_eq]
  by_cases h : hexc (x.getD p 0) = true
  · rw [if_pos h, if_pos h]; rfl
  · rw [if_neg h, if_neg h]; rfl
/-- behind the match -/
noncomputable def mC (x : Array Nat) (s : Nat) (first : Bool) (seen : Sre.Seen) : M :=
  { mA x s first seen with pc := 28, pos := s + 3, handed := s + 3, weight := 2, frames := [{ wait := .giveBack, pc := 11, pos := s + 3, outermost := first, count := 2 }, { wait := .nextStart, pc := 9, pos := s, outermost := first }] }
noncomputable def runB (x : Array Nat) (s : Nat) (first : Bool) (seen : Sre.Seen) : Except String (Nat × Sre.Seen) → M
  | .error why => M.stick { mB x s first (seen.add 24) with pc := 11 } why
  | .ok (n, seen) => if n < 2 then mN x s first 11 (s + 1) seen else M.afterRun { mB x s first seen with pos := s + 1 + n } .giveBack n {}
theorem stepB_eq (x : Array Nat) (s : Nat) (first : Bool) (seen : Sre.Seen) : (mB x s first seen).step = if (2 : Int) > (x.size : Int) - ((s + 1 : Nat) : Int) then mN x s first 11 (s + 1) (seen.add 24) else
    runB x s first seen (run rc x 15 (min 2 ((x.size : Int) - ((s + 1 : Nat) : Int)).toNat) (s + 1) 0 ((seen.add 24).add 13)) := by kernel_rfl
theorem stepB_yes (x : Array Nat) (s : Nat) (first : Bool) (seen : Sre.Seen) (h : s + 2 < x.size) (h1 : hexc (x.getD (s + 1) 0) = true) (h2 : hexc (x.getD (s + 2) 0) = true) : ∃ seen', (mB x s first seen).step = mC x s first seen' := by
  rw [stepB_eq, if_neg (by omega), show min 2 ((x.size : Int) - ((s + 1 : Nat) : Int)).toNat = 2 by omega, run_eq, if_pos h1, run_eq, if_pos h2]
  exact ⟨_, rfl⟩
theorem stepB_no (x : Array Nat) (s : Nat) (first : Bool) (seen : Sre.Seen) (h : ¬ (s + 2 < x.size ∧ hexc (x.getD (s + 1) 0) = true ∧ hexc (x.getD (s + 2) 0) = true)) : ∃ seen', (mB x s first seen).step = mN x s first 11 (s + 1) seen' := by
  rw [stepB_eq]
  by_cases q : (2 : Int) > (x.size : Int) - ((s + 1 : Nat) : Int)
  · rw [if_pos q]; exact ⟨_, rfl⟩
  · rw [if_neg q, show min 2 ((x.size : Int) - ((s + 1 : Nat) : Int)).toNat = 2 by omega, run_eq]
    by_cases h1 : hexc (x.getD (s + 1) 0) = true
    · rw [if_pos h1, run_eq]
      have h2 : ¬ hexc (x.getD (s + 1 + 1) 0) = true := fun h2 => h ⟨by omega, h1, h2⟩
      rw [if_neg h2]
      exact ⟨_, rfl⟩
    · rw [if_neg h1]
      exact ⟨_, rfl⟩
noncomputable def mF (x : Array Nat) (s : Nat) (first : Bool) (seen : Sre.Seen) : M :=
  { mA x s first seen with pc := 9, pos := s, handed := s + 3, weight := 0, frames := [], answer := some true, outcome := some .matched }
theorem stpC (x : Array Nat) (s : Nat) (first : Bool) (seen : Sre.Seen) : stp 4 (mC x s first seen) = mF x s first (seen.add 1) := by
  cases first <;> kernel_rfl
end
section -- R1
open PySem PySem.W PyProof.Rows PySem.Calls PySem.Sre PySem.Builtin PySem.Builtin.Re
set_option maxRecDepth 100000
noncomputable def hit : List Nat → Bool
  | c :: a :: b :: _ => c == 61 && hexc a && hexc b
  | _ => false
/-- how far the next match lies -/
noncomputable def findHit : List Nat → Option Nat
  | [] => none
  | c :: r => if hit (c :: r) then some 0 else (findHit r).map (· + 1)
theorem hit_at (l : List Nat) (s : Nat) : hit (l.drop s) = true ↔ (s + 2 < l.length ∧ (l.toArray.getD s 0 == 61) = true ∧ hexc (l.toArray.getD (s + 1) 0) = true ∧ hexc (l.toArray.getD (s + 2) 0) = true) := by
  have g : ∀ k, l.toArray.getD (s + k) 0 = (l.drop s).getD k 0 := by
    intro k
    simp [List.getD_eq_getElem?_getD, Array.getD_eq_getD_getElem?]
  have hlen : (l.drop s).length = l.length - s := by simp
  have g0 := g 0
  have g1 := g 1
  have g2 := g 2
  rw [Nat.add_zero] at g0
  rw [g0, g1, g2]
  generalize l.drop s = q at *
  match q with
  | [] =>
    simp only [List.length_nil] at hlen
    constructor
    · intro h; cases h
    · rintro ⟨h, _⟩; omega
  | [a] =>
    simp only [List.length_cons, List.length_nil] at hlen
    constructor
    · intro h; cases h
    · rintro ⟨h, _⟩; omega
  | [a, b] =>
    simp only [List.length_cons, List.length_nil] at hlen
    constructor
    · intro h; cases h
    · rintro ⟨h, _⟩; omega
  | a :: b :: c :: r =>
    simp only [List.length_cons] at hlen
    have hq : s + 2 < l.length := by omega
    simp [hit, hq, and_assoc]
/-- what the search finds -/
noncomputable def Found (s : Nat) (m : M) : Option Nat → Prop
  | some k => m.outcome = some .matched ∧ m.start = s + k ∧ m.handed = s + k + 3 ∧ m.lastindex = -1 ∧ m.lastmark = -1
  | none => m.outcome = some .failed
theorem search (l : List Nat) : ∀ (n s : Nat) (first : Bool) (seen : Sre.Seen), l.length - s = n → s ≤ l.length → ∃ k, k ≤ 4 * n + 6 ∧ Found s (stp k (mA l.toArray s first seen)) (findHit (l.drop s)) := by
  intro n
  induction n with
  | zero =>
    intro s first seen hn hs
    have hd : l.drop s = [] := List.drop_of_length_le (by omega)
    rw [hd]
    refine ⟨3, by omega, ?_⟩
    show Found s (stp 2 (mA l.toArray s first seen).step) none
    rw [stepA_end _ _ _ _ (by simp; omega)]
    show Found s (stp 1 (mN l.toArray s first 9 s (seen.add 16)).step) none
    rw [stepN_end _ _ _ _ _ _ (by simp; omega)]
    rfl
  | succ n ih =>
    intro s first seen hn hs
    have hlt : s < l.length := by omega
    obtain ⟨c, r, hcr⟩ : ∃ c r, l.drop s = c :: r := by
      rw [List.drop_eq_getElem_cons hlt]; exact ⟨_, _, rfl⟩
    have hr : l.drop (s + 1) = r := by
      have := congrArg (List.drop 1) hcr
      rwa [List.drop_drop] at this
    have hfd : findHit (l.drop s) = if hit (l.drop s) then some 0 else (findHit (l.drop (s + 1))).map (· + 1) := by rw [hcr, hr]; rfl
    rw [hfd]
    have shift : ∀ m o, Found (s + 1) m o → Found s m (o.map (· + 1)) := by
      intro m o h
      cases o with
      | none => exact h
      | some k => obtain ⟨a, b, c, d, e⟩ := h; exact ⟨a, by show m.start = s + (k + 1); omega, by show m.handed = s + (k + 1) + 3; omega, d, e⟩
    by_cases h : hit (l.drop s) = true
    · rw [if_pos h]
      obtain ⟨h0, h1, h2, h3⟩ := (hit_at l s).mp h
      obtain ⟨seen', e⟩ := stepB_yes l.toArray s first (seen.add 16) (by simpa using h0) h2 h3
      refine ⟨6, by omega, ?_⟩
      show Found s (stp 5 (mA l.toArray s first seen).step) (some 0)
      rw [stepA_yes _ _ _ _ (by simpa using hlt) h1]
      show Found s (stp 4 (mB l.toArray s first (seen.add 16)).step) (some 0)
      rw [e, stpC]
      exact ⟨rfl, rfl, rfl, rfl, rfl⟩
    · rw [if_neg h]
      have fail : ∃ a seen' pc pos, a ≤ 2 ∧ stp a (mA l.toArray s first seen) = mN l.toArray s first pc pos seen' := by
        by_cases h1 : (l.toArray.getD s 0 == 61) = true
        · obtain ⟨seen', e⟩ := stepB_no l.toArray s first (seen.add 16) (fun ⟨a, b, c⟩ => h ((hit_at l s).mpr ⟨by simpa using a, h1, b, c⟩))
          refine ⟨2, seen', 11, s + 1, by omega, ?_⟩
          show (mA l.toArray s first seen).step.step = _
          rw [stepA_yes _ _ _ _ (by simpa using hlt) h1, e]
        · refine ⟨1, seen.add 16, 9, s, by omega, ?_⟩
          show (mA l.toArray s first seen).step = _
          exact stepA_no _ _ _ _ (by simpa using hlt) (Bool.eq_false_iff.mpr h1)
      obtain ⟨a, seen', pc, pos, ha, e⟩ := fail
      obtain ⟨k, hk, hf⟩ := ih (s + 1) false seen' (by omega) (by omega)
      refine ⟨a + (1 + k), by omega, ?_⟩
      rw [stp_add, e, stp_add]
      show Found s (stp k (mN l.toArray s first pc pos seen').step) _
      rw [stepN_more _ _ _ _ _ _ (by simpa using hlt)]
      exact shift _ _ hf
theorem search0 (l : List Nat) (s : Nat) (hs : s ≤ l.length) : ∃ k, k ≤ 4 * l.length + 6 ∧ Found s (stp k (forSearch rc l.toArray 0 s l.toArray.size false)) (findHit (l.drop s)) := by
  by_cases h : l.length - s < 3
  · have e : forSearch rc l.toArray 0 s l.toArray.size false = M.say { code := rc, text := l.toArray, lim := l.toArray.size, start := s, pc := 9, pos := s, handed := s, marks := #[], seen := ({} : Sre.Seen).add 14 } false := by
      have : forSearch rc l.toArray 0 s l.toArray.size false = if (decide (s > l.toArray.size) || decide (l.toArray.size - s < 3)) = true then M.say { code := rc, text := l.toArray, lim := l.toArray.size, start := s, pc := 9, pos := s, handed := s, marks := #[], seen := ({} : Sre.Seen).add 14 } false else mA l.toArray s true (({} : Sre.Seen).add 14) := by kernel_rfl
      rw [this, if_pos (by simp; omega)]
    refine ⟨1, by omega, ?_⟩
    rw [e]
    have hn : findHit (l.drop s) = none := by
      have hlen : (l.drop s).length < 3 := by simpa using h
      match hq : l.drop s with
      | [] => rfl
      | [a] => rfl
      | [a, b] => rfl
      | a :: b :: c :: r => rw [hq] at hlen; simp at hlen; omega
    rw [hn]
    rfl
  · have e : forSearch rc l.toArray 0 s l.toArray.size false = mA l.toArray s true (({} : Sre.Seen).add 14) := by
      have : forSearch rc l.toArray 0 s l.toArray.size false = if (decide (s > l.toArray.size) || decide (l.toArray.size - s < 3)) = true then M.say { code := rc, text := l.toArray, lim := l.toArray.size, start := s, pc := 9, pos := s, handed := s, marks := #[], seen := ({} : Sre.Seen).add 14 } false else mA l.toArray s true (({} : Sre.Seen).add 14) := by kernel_rfl
      rw [this, if_neg (by simp; omega)]
    rw [e]
    obtain ⟨k, hk, hf⟩ := search l (l.length - s) s true (({} : Sre.Seen).add 14) rfl hs
    exact ⟨k, by omega, hf⟩
end
section -- R2
open PySem PySem.W PyProof.Rows PySem.Calls PySem.Sre PySem.Builtin PySem.Builtin.Re
set_option maxRecDepth 100000
section
variable {w : World} {A : Around} {E : Value → Shared → Prop} {s : Shared}
theorem drive {Q : M → Shared → Prop} : ∀ (turns k : Nat) (m : M), k ≤ 4 * turns → 1 ≤ turns → (stp k m).outcome.isSome = true → Q (stp k m) s → wpAny (Mo w) A (reDrive turns m) Q E s := by
  intro turns
  induction turns with
  | zero => intro k m _ h; omega
  | succ turns ih =>
    intro k m hk _ hd hq
    show wpAny (Mo w) A (if (m.runFor reTurnSteps).outcome.isSome = true then pure (m.runFor reTurnSteps) else do rule "sre.turn"; reDrive turns (m.runFor reTurnSteps)) Q E s
    rw [show m.runFor reTurnSteps = stp 4 m from runFor_eq 4 m]
    by_cases h4 : (stp 4 m).outcome.isSome = true
    · rw [if_pos h4]
      refine wpAny_pure ?_
      have : stp 4 m = stp k m := by
        by_cases hk4 : k ≤ 4
        · rw [show 4 = k + (4 - k) by omega, stp_add, stp_done hd]
        · rw [show k = 4 + (k - 4) by omega, stp_add, stp_done h4]
      rw [this]; exact hq
    · rw [if_neg h4]
      have hk4 : ¬ k ≤ 4 := by
        intro hk4
        apply h4
        rw [show 4 = k + (4 - k) by omega, stp_add, stp_done hd]
        exact hd
      have e : stp k m = stp (k - 4) (stp 4 m) := by rw [← stp_add, show 4 + (k - 4) = k by omega]
      rw [e] at hd hq
      exact wpAny_bind (wpAny_rule (ih (k - 4) (stp 4 m) (by omega) (by omega) hd hq))
theorem runEnd {Q : Option M → Shared → Prop} {m m' : M} {k : Nat} (hk : k ≤ 100000) (hm : stp k m = m') (h : (m'.outcome = some .matched ∧ Q (some m') s) ∨ (m'.outcome = some .failed ∧ Q none s)) : wpAny (Mo w) A (reRunToEnd m) Q E s := by
  unfold reRunToEnd
  refine wpAny_bind (drive (2 ^ 64) k m (by omega) (by omega) (by rw [hm]; rcases h with h | h <;> rw [h.1] <;> rfl) ?_)
  rw [hm]
  refine wpAny_bind (wpAny_forIn_list _ (fun _ _ s' => s' = s) _ ?_ ?_ _ _ rfl)
  · rintro i l b s' e
    subst e
    by_cases hi : m'.seen.has i = true
    · rw [if_pos hi]
      exact wpAny_bind (wpAny_rule (wpAny_pure rfl))
    · rw [if_neg hi]
      exact wpAny_pure rfl
  · rintro b s' e
    subst e
    rcases h with h | h
    · rw [h.1]; exact wpAny_pure h.2
    · rw [h.1]; exact wpAny_pure h.2
end
end
section -- R3
open PySem PySem.W PyProof.Rows PySem.Calls PySem.Sre PySem.Builtin PySem.Builtin.Re
set_option maxRecDepth 100000
theorem slot_sub : Slot "re.Pattern" "sub" "re.Pattern.sub" :=
  .of (owner := "re.Pattern") (n := "sub") (by rw [typeLookup_type, builtinLookup_eq_fast]; kernel_rfl) (by decide +kernel) (by decide +kernel) (by decide +kernel)
    (by first | exact .inl (by decide +kernel) | exact .inr (by decide +kernel)) (by rw [isSubtype_type]; kernel_rfl)
theorem type_sub : typeOf (.builtin "re.Pattern.sub") = pure (.type "method_descriptor") := by show builtinType _ = _; rw [builtinType_eq_fast]; kernel_rfl
theorem entry_sub : entryFor table "re.Pattern.sub" = some Builtin.«re.Pattern.sub» := entryFor_of_tree (by kernel_rfl)
theorem entry_subloop : entryFor table "re.Pattern.sub.loop" = some Builtin.«re.Pattern.sub.loop» := entryFor_of_tree (by kernel_rfl)
theorem plain_subloop : plainId "re.Pattern.sub.loop" = true := by decide +kernel
theorem args_sub (a b c : Value) : argsOk "re.Pattern.sub" ⟨[a, b, c], []⟩ := by unfold argsOk; kernel_rfl
theorem slot_group : Slot "re.Match" "group" "re.Match.group" :=
  .of (owner := "re.Match") (n := "group") (by rw [typeLookup_type, builtinLookup_eq_fast]; kernel_rfl) (by decide +kernel) (by decide +kernel) (by decide +kernel)
    (by first | exact .inl (by decide +kernel) | exact .inr (by decide +kernel)) (by rw [isSubtype_type]; kernel_rfl)
theorem type_group : typeOf (.builtin "re.Match.group") = pure (.type "method_descriptor") := by show builtinType _ = _; rw [builtinType_eq_fast]; kernel_rfl
theorem entry_group : entryFor table "re.Match.group" = some Builtin.«re.Match.group» := entryFor_of_tree (by kernel_rfl)
theorem args_group (a b : Value) : argsOk "re.Match.group" ⟨[a, b], []⟩ := by unfold argsOk; kernel_rfl
end
section -- R4
open PySem PySem.W PyProof.Rows PySem.Calls PySem.Sre PySem.Builtin PySem.Builtin.Re
set_option maxRecDepth 100000
noncomputable abbrev matchObj (x : List Nat) (tx : Tok) (pat : Value) (l : Nat) (ta : Addr) : Obj := { cls := .type "re.Match", data := .fields #[.str (T x) tx, pat, rawInt 0, rawInt l, rawInt (-1), .ref ta] }
noncomputable abbrev spanObj (b e : Nat) : Obj := { cls := .type "tuple", data := .seq [rawInt b, rawInt e].toArray }
theorem extractT (x : List Nat) (b e : Nat) : (⟨(T x).cps.extract b e⟩ : Str) = T ((x.drop b).take (e - b)) := by
  show Str.mk (x.toArray.extract b e) = _
  simp [T]
section
variable {w : World} {A : Around} {E : Value → Shared → Prop} {hp : Heap} {gn : Array GenState} {dr : Drawn} {tk : Nat} {os : OsState} {Q : Value → Shared → Prop} {x : List Nat} {tx u : Tok} {pat : Value} {ma ta l b e : Nat}
theorem wIteF {α : Type} {Q : α → Shared → Prop} {s : Shared} {c : Bool} {a b : Sem α} (hc : c = false) (h : wpAny (Mo w) A b Q E s) : wpAny (Mo w) A (if c = true then a else b) Q E s := by
  rw [if_neg (by rw [hc]; decide)]; exact h
set_option maxHeartbeats 2000000 in
theorem call_group (ho : hp.get? ma = some (matchObj x tx pat l ta)) (ht : hp.get? ta = some (spanObj b e)) (hl : x.length ≤ 100000)
    (h : Q (.str (T ((x.drop b).take (e - b))) tk) ⟨hp, gn, dr, tk + 1, os⟩) : wpAny (Mo w) A (call (.builtin "re.Match.group") [.ref ma, .int 0 u]) Q E ⟨hp, gn, dr, tk, os⟩ := by
  refine wpAny_call_entry slot_group ⟨_, ho, rfl⟩ entry_group ?_ (args_group _ _)
  unfold Builtin.«re.Match.group»
  refine wpAny_bind (wpAny_pure ?_)
  dsimp only
  refine wpAny_bind ?_
  unfold reFound
  refine wpAny_bind (wpAny_fieldsOf ho rfl ?_)
  refine wpAny_bind ?_
  unfold reRawItems
  refine wpAny_bind (wpAny_seqItems ht rfl ?_)
  refine wpAny_pure (wpAny_pure ?_)
  rw [show Array.map reRawOf ((some #[rawInt ↑b, rawInt ↑e]).getD #[]) = #[(b : Int), (e : Int)] by kernel_rfl]
  repeat (any_goals (first
    | assumption
    | wp_step))
  show wpAny (model pE w) A.in1 (mkStr ⟨(T x).cps.extract b e⟩) _ _ _
  rw [extractT]
  refine wpAny_mkStr (wpAny_pure ⟨_, rfl, h⟩) ?_
  rw [T_len, sizeLine_eq]
  simp
  omega
end
end
section -- F9
open PySem PySem.W PyProof.Rows PySem.Calls PySem.NumText
set_option maxRecDepth 100000
theorem plainAttrs_match : PlainAttrs "re.Match" :=
  ⟨⟨"object.__getattribute__", by rw [typeLookup_type, builtinLookup_eq_fast]; kernel_rfl, by decide +kernel⟩, by rw [typeLookup_type, builtinLookup_eq_fast]; kernel_rfl⟩
theorem umatch_ {w : World} {news : List (Addr × Obj)} {x : List Nat} {tx : Tok} {pat : Value} {ma ta l b e c d : Nat} (hm : (ma, matchObj x tx pat l ta) ∈ news) (ht : (ta, spanObj b e) ∈ news) (hl : x.length ≤ 100000) (hx : (x.drop b).take (e - b) = [61, c, d]) (hc : c ∈ hexL) (hd' : d ∈ hexL) :
    Claim w 2 86 [.ref ma] news (fun v new => (∃ t, v = .str (T [16 * hv c + hv d]) t) ∧ new = []) := by
  refine enter (binds := [(S "match", .ref ma)]) (l := [(S "match", .ref ma)]) (fo20 _) (by kernel_rfl) (fun s _ => BindsTo.of_eq (by kernel_rfl)) rfl (locs (by kernel_rfl)) (by kernel_rfl) (by kernel_rfl) (by kernel_rfl) (by decide +kernel) ?_
  intro A g L hp gn dr tk os C F N hd hu
  refine wpAny_execs_cons ?_
  repeat walk_at "m"
  refine getMethod_builtin (s := ⟨hp, gn, dr, tk, os⟩) ⟨_, (N _ hm).1, rfl⟩ plainAttrs_match slot_group type_group (fun a e => by cases e; exact ⟨_, (N _ hm).1, rfl⟩) ?_
  repeat walk_at "m"
  refine call_group (N _ hm).1 (N _ ht).1 hl ?_
  rw [hx]
  repeat walk_at "m"
  refine nameK C (by assumption) (g_unquote _) ?_ (by kernel_rfl) (by kernel_rfl) (by kernel_rfl)
  refine callWith_K C.X (kp_unquote _) ?_ (by rfl) (by rfl)
  repeat walk_at "m"
  refine ⟨C.X.keeps (Fr.keep (by assumption)), ?_⟩
  refine use0 (unquote_ hc hd' _) C (by assumption) (by assumption) hd hu ?_
  rintro v h' tk' ⟨t, rfl⟩ F' N'
  exact back0 F' N' ⟨⟨_, rfl⟩, rfl⟩
end
section -- R5
open PySem PySem.W PyProof.Rows PySem.Calls PySem.Sre PySem.Builtin PySem.Builtin.Re
set_option maxRecDepth 100000
noncomputable def rcV : Array Value := #[.int 14 0, .int 8 0, .int 1 0, .int 3 0, .int 3 0, .int 1 0, .int 1 0, .int 61 0, .int 0 0, .int 16 0, .int 61 0, .int 24 0, .int 16 0, .int 2 0, .int 2 0, .int 13 0, .int 11 0, .int 9 0, .int 0 0, .int 67043328 0, .int 126 0, .int 126 0, .int 0 0, .int 0 0, .int 0 0, .int 0 0, .int 0 0, .int 1 0, .int 1 0]
noncomputable abbrev patObj : Obj := { cls := .type "re.Pattern", data := .fields #[.str (S "=[a-fA-F0-9]{2}") 283, .int 256 315, .int 0 0, .none, .none, .ref 35, .int 0 0] }
theorem k36 (P : Params) : (K P).lookup 36 = some patObj := by kernel_rfl
theorem k35 (P : Params) : (K P).lookup 35 = some { cls := .type "tuple", data := .seq rcV 0 } := by kernel_rfl
theorem rcV_eq : (Array.map reRawOf ((some rcV).getD #[])).map (·.toNat) = rc := by kernel_rfl
section
variable {w : World} {A : Around} {E : Value → Shared → Prop} {hp : Heap} {gn : Array GenState} {dr : Drawn} {tk : Nat} {os : OsState} {h₀ : Heap} {L : Addr} {m : Str → Option Value} {news : List (Addr × Obj)} {x : List Nat} {tx : Tok}
theorem pushU {la : Addr} {vs : List Value} {n : Nat} {v : Value} {Q : Unit → Shared → Prop} (F : Fr h₀ L hp m) (N : News h₀ L hp ((la, listOf vs.toArray n) :: news)) (hne : ∀ p ∈ news, p.1 ≠ la) (hsz : vs.length ≤ 100000)
    (h : ∀ h', Fr h₀ L h' m → News h₀ L h' ((la, listOf (vs ++ [v]).toArray (n + 1)) :: news) → Q () ⟨h', gn, dr, tk, os⟩) : wpAny (Mo w) A (updateSeq la (·.push v)) Q E ⟨hp, gn, dr, tk, os⟩ := by
  have z := N (la, listOf vs.toArray n) (.head _)
  refine wpAny_updateSeq (s := ⟨hp, gn, dr, tk, os⟩) z.1 rfl (h _ (F.change (Heap.SameBut.update ..) z.2.1 z.2.2) ?_) (by rw [sizeLine_eq]; simp; omega) (by rw [sizeLine_eq]; simp; omega)
  have := news_set (pre := []) (post := news) (o' := listOf (vs.toArray.push v) (n + 1)) N (fun _ h => (nomatch h)) hne (Heap.SameBut.update (f := Obj.mapSeq (·.push v)) ..) (by rw [Heap.get?_update_self _ z.1 (by rw [mapSeq_push]; rfl), mapSeq_push])
  simpa using this
noncomputable def tgt (x : List Nat) (tx : Tok) : ReTarget := { pattern := .ref 36, string := .str (T x) tx, code := rc, text := x.toArray, kind := 0, groups := 0, pos := 0, lim := x.toArray.size }
theorem wholeT {Q : ReTarget → Shared → Prop} (X : (K w.params).In hp) (h : Q (tgt x tx) ⟨hp, gn, dr, tk, os⟩) : wpAny (Mo w) A (reWholeTarget (.ref 36) (.str (T x) tx)) Q E ⟨hp, gn, dr, tk, os⟩ := by
  unfold reWholeTarget
  refine wpAny_bind (wpAny_fieldsOf (s := ⟨hp, gn, dr, tk, os⟩) (X _ _ (k36 _)) rfl ?_)
  refine wpAny_bind ?_
  unfold reTextOf
  refine wpAny_bind (wpAny_pure ?_)
  refine wpAny_pure ?_
  refine wpAny_bind (show wpAny (Mo w) A (pure ()) _ _ _ from wpAny_pure ?_)
  refine wpAny_bind ?_
  unfold reRawItems
  refine wpAny_bind (wpAny_seqItems (s := ⟨hp, gn, dr, tk, os⟩) (X _ _ (k35 _)) rfl ?_)
  refine wpAny_pure (wpAny_pure ?_)
  rw [rcV_eq]
  exact h
theorem nextFound {Q : Option M → Shared → Prop} {d : Nat} (hl : x.length ≤ 1000) (hd : d ≤ x.length)
    (h : ∀ m', Found d m' (findHit (x.drop d)) → match findHit (x.drop d) with | some _ => Q (some m') ⟨hp, gn, dr, tk, os⟩ | none => Q none ⟨hp, gn, dr, tk, os⟩) :
    wpAny (Mo w) A (reNextFound (tgt x tx) d false) Q E ⟨hp, gn, dr, tk, os⟩ := by
  obtain ⟨k, hk, hf⟩ := search0 x d hd
  have h' := h _ hf
  refine runEnd (k := k) (by omega) rfl ?_
  cases q : findHit (x.drop d) with
  | none => rw [q] at h' hf; exact .inr ⟨hf, h'⟩
  | some j => rw [q] at h' hf; exact .inl ⟨hf.1, h'⟩
theorem newMatch {Q : Value → Shared → Prop} {m' : M} {b e : Nat} (F : Fr h₀ L hp m) (N : News h₀ L hp news) (hb : m'.start = b) (he : m'.handed = e) (hi : m'.lastindex = -1)
    (h : ∀ ma ta h', Fr h₀ L h' m → News h₀ L h' ((ma, matchObj x tx (.ref 36) x.length ta) :: (ta, spanObj b e) :: news) → Q (.ref ma) ⟨h', gn, dr, tk, os⟩) :
    wpAny (Mo w) A (reNewMatch (.ref 36) (.str (T x) tx) 0 0 x.toArray.size m') Q E ⟨hp, gn, dr, tk, os⟩ := by
  unfold reNewMatch
  show wpAny (Mo w) A (do let t ← newTuple [rawInt m'.start, rawInt m'.handed]; newFields "re.Match" [.str (T x) tx, .ref 36, rawInt 0, rawInt x.toArray.size, rawInt m'.lastindex, t]) Q E _
  rw [hb, he, hi, List.size_toArray]
  refine wpAny_bind (wpAny_newTuple (s := ⟨hp, gn, dr, tk, os⟩) ?_ (by rw [sizeLine_eq]; simp))
  refine wpAny_newObj_type (s := ⟨hp.push (spanObj b e), gn, dr, tk, os⟩) ?_ (by size_fits)
  exact h _ _ _ ((F.push _).push _) (News.push (F.push _) (News.push F N _) _)
end
end
section -- R6
open PySem PySem.W PyProof.Rows PySem.Calls PySem.Sre PySem.Builtin PySem.Builtin.Re
set_option maxRecDepth 100000
/-- what the pattern's sub makes of a text -/
noncomputable def subW : List Nat → List Nat
  | c :: a :: b :: r => if hit (c :: a :: b :: r) then (16 * hv a + hv b) :: subW r else c :: subW (a :: b :: r)
  | l => l
theorem sub_none : ∀ l : List Nat, findHit l = none → subW l = l
  | [] => fun _ => rfl
  | [_] => fun _ => rfl
  | [_, _] => fun _ => rfl
  | c :: a :: b :: r => fun h => by
    have h' : (if hit (c :: a :: b :: r) then some 0 else (findHit (a :: b :: r)).map (· + 1)) = none := h
    by_cases q : hit (c :: a :: b :: r) = true
    · rw [if_pos q] at h'; cases h'
    · rw [if_neg q] at h'
      have h2 : findHit (a :: b :: r) = none := by simpa using h'
      rw [subW, if_neg q, sub_none (a :: b :: r) h2]
theorem sub_some : ∀ (l : List Nat) (k : Nat), findHit l = some k → ∃ pre a b r, l = pre ++ 61 :: a :: b :: r ∧ pre.length = k ∧ hexc a = true ∧ hexc b = true ∧ subW l = pre ++ (16 * hv a + hv b) :: subW r
  | [] => fun k h => by cases h
  | [_] => fun k h => by cases h
  | [_, _] => fun k h => by cases h
  | c :: a :: b :: r => fun k h => by
    have h' : (if hit (c :: a :: b :: r) then some 0 else (findHit (a :: b :: r)).map (· + 1)) = some k := h
    by_cases q : hit (c :: a :: b :: r) = true
    · rw [if_pos q] at h'
      cases h'
      have q' : (c == 61 && hexc a && hexc b) = true := q
      simp only [Bool.and_eq_true, beq_iff_eq] at q'
      obtain ⟨⟨rfl, qa⟩, qb⟩ := q'
      exact ⟨[], a, b, r, rfl, rfl, qa, qb, by rw [subW, if_pos q]; rfl⟩
    · rw [if_neg q] at h'
      cases h2 : findHit (a :: b :: r) with
      | none => rw [h2] at h'; cases h'
      | some j =>
        rw [h2] at h'
        obtain ⟨pre, a', b', r', e1, e2, e3, e4, e5⟩ := sub_some (a :: b :: r) j h2
        refine ⟨c :: pre, a', b', r', by rw [e1]; rfl, ?_, e3, e4, ?_⟩
        · have : j + 1 = k := by simpa using h'
          simp [e2, this]
        · rw [subW, if_neg q, e5]; rfl
theorem join0 (ps : List (List Nat)) : Txt.join (T []) (ps.map T) = T ps.flatten := by
  show Builtin.Str.glued (T []) (ps.map T) = _
  rw [StrLaws.glued_eq_join]
  induction ps with
  | nil => rfl
  | cons p r ih =>
    cases r with
    | nil => simp [Str.join]
    | cons q r =>
      show T p ++ T [] ++ Str.join (T []) (T q :: r.map T) = _
      rw [show Str.join (T []) (T q :: r.map T) = Str.join (T []) ((q :: r).map T) from rfl, ih, T_app, T_app]
      simp
theorem at_in1 {w : World} {A : Around} {L : Addr} {g : Heap} (C : At w A L g) : At w A.in1 L g := ⟨C.below, C.X, C.T, C.hh⟩
section
variable {w : World} {A : Around} {hp : Heap} {gn : Array GenState} {dr : Drawn} {tk : Nat} {os : OsState} {g : Heap} {L la : Addr} {m : Str → Option Value} {news : List (Addr × Obj)} {x : List Nat} {tx : Tok} {R : Result → Shared → Prop}
theorem wIteT {α : Type} {E : Value → Shared → Prop} {Q : α → Shared → Prop} {s : Shared} {c : Bool} {a b : Sem α} (hc : c = true) (h : wpAny (Mo w) A a Q E s) : wpAny (Mo w) A (if c = true then a else b) Q E s := by
  rw [if_pos hc]; exact h
theorem wPos {α : Type} {E : Value → Shared → Prop} {Q : α → Shared → Prop} {s : Shared} (c : Prop) [Decidable c] {a b : Sem α} (hc : c) (h : wpAny (Mo w) A a Q E s) : wpAny (Mo w) A (if c then a else b) Q E s := by
  rw [if_pos hc]; exact h
theorem wNeg {α : Type} {E : Value → Shared → Prop} {Q : α → Shared → Prop} {s : Shared} (c : Prop) [Decidable c] {a b : Sem α} (hc : ¬ c) (h : wpAny (Mo w) A b Q E s) : wpAny (Mo w) A (if c then a else b) Q E s := by
  rw [if_neg hc]; exact h
theorem sliceR {E : Value → Shared → Prop} {Q : Value → Shared → Prop} {b e : Nat} (hl : x.length ≤ 1000) (h : Q (.str (T ((x.drop b).take (e - b))) tk) ⟨hp, gn, dr, tk + 1, os⟩) : wpAny (Mo w) A (reSlice x.toArray 0 b e) Q E ⟨hp, gn, dr, tk, os⟩ := by
  show wpAny (Mo w) A (mkStr ⟨(T x).cps.extract b e⟩) Q E _
  rw [extractT]
  refine wpAny_mkStr (s := ⟨hp, gn, dr, tk, os⟩) h ?_
  rw [T_len, sizeLine_eq]
  simp
  omega
theorem sum_flat (ps : List (List Nat)) : ((ps.map T).map (·.length)).sum = ps.flatten.length := by
  induction ps with
  | nil => rfl
  | cons p r ih => simp only [List.map_cons, List.sum_cons, ih, T_len, List.flatten_cons, List.length_append]
theorem subEnd {E : Value → Shared → Prop} {Q : Fin → Shared → Prop} {vs : List Value} {ps : List (List Nat)} {k : Nat} (hl : x.length ≤ 1000) (N : News g L hp ((la, listOf vs.toArray k) :: news)) (hvs : StrsAre vs (ps.map T)) (hvl : vs.length ≤ 2000) (hpl : ps.flatten.length ≤ 2000)
    (h : ∀ t tk', Q (.done (.ret (.str (T ps.flatten) t))) ⟨hp, gn, dr, tk', os⟩) :
    wpAny (Mo w) A (do
      let joiner ← reSlice x.toArray 0 0 0
      let __do_lift ← seqItems? (.ref la)
      let text ← if (__do_lift.getD #[]).isEmpty = true then pure joiner else call (.builtin "str.join") [joiner, .ref la]
      ret text) Q E ⟨hp, gn, dr, tk, os⟩ := by
  refine wpAny_bind (sliceR hl ?_)
  have z := (N _ (.head _)).1
  refine wpAny_bind (wpAny_seqItems (s := ⟨hp, gn, dr, tk + 1, os⟩) z rfl ?_)
  cases ps with
  | nil =>
    cases hvs
    refine wIteT (c := true) rfl ?_
    exact wpAny_bind (wpAny_pure (wpAny_pure (h _ _)))
  | cons p r =>
    have hne : ((some vs.toArray).getD #[]).isEmpty = false := by
      have := Mine.StrsAre.len hvs
      cases vs with
      | nil => simp at this
      | cons v vs => simp
    have hlen := Mine.StrsAre.len hvs
    refine wIteF hne ?_
    refine wpAny_bind ?_
    refine join_listC (s := ⟨hp, gn, dr, tk + 1, os⟩) (ys := (p :: r).map T) (isL N (.head _)) (by simpa using hvs) (by rw [T_len]; simp) (by rw [sum_flat, ← hlen]; omega) fun t' k' => ?_
    rw [show (T ((x.drop 0).take (0 - 0))) = T [] by simp, join0]
    exact wpAny_pure (h _ _)
set_option maxHeartbeats 4000000 in
theorem subLoop (C : At w A L g) (hd : A.depth + 2 < recursionLimit) (hu : A.units + 1 + 16 * 2 < cLine) (hl : x.length ≤ 1000) (hx : ∀ c ∈ x, c < 128) (hne : ∀ p ∈ news, p.1 ≠ la) :
    ∀ (n d : Nat) (hp : Heap) (tk : Nat) (vs : List Value) (ps : List (List Nat)) (k nn : Nat), x.length - d < n → d ≤ x.length → Fr g L hp m → News g L hp ((la, listOf vs.toArray k) :: news) → StrsAre vs (ps.map T) → vs.length ≤ d → ps.flatten.length ≤ d →
      (∀ t h' tk', Fr g L h' m → News g L h' news → R (.ok (.ret (.str (T (ps.flatten ++ subW (x.drop d))) t))) ⟨h', gn, dr, tk', os⟩) →
      codeAny (Mo w) A (.builtin "re.Pattern.sub.loop" ⟨[.ref 36, .str (T x) tx, .ref 86, rawInt 1, rawInt 0, rawInt nn, rawInt d, rawInt d, .bool false, .ref la, .bool false], []⟩) R ⟨hp, gn, dr, tk, os⟩ := by
  intro n
  induction n with
  | zero => intro d hp tk vs ps k nn h; omega
  | succ n ih =>
    intro d hp tk vs ps k nn hn hdl F N hvs hvl hpl hR
    refine codeAny_builtin entry_subloop ?_
    rw [Around.under_plainId plain_subloop _]
    unfold Builtin.«re.Pattern.sub.loop»
    refine wpAny_bind (wholeT (C.X.keeps (Fr.keep F)) ?_)
    refine wpAny_bind (nextFound (d := d) hl hdl fun m' hf => ?_)
    cases hq : findHit (x.drop d) with
    | none =>
      have hsub := sub_none _ hq
      by_cases hdx : d < x.length
      · refine wPos (d < x.length) hdx ?_
        refine wpAny_bind (sliceR (b := d) (e := x.length) hl ?_)
        rw [List.take_of_length_le (by simp)]
        refine wpAny_bind (pushU F N hne (by omega) fun h1 F1 N1 => ?_)
        refine subEnd (ps := ps ++ [x.drop d]) hl N1 (by simpa using Mine.StrsAre.snoc hvs (T (x.drop d)) tk) (by simp; omega) (by rw [List.flatten_append, List.length_append]; simp only [List.flatten_cons, List.flatten_nil, List.append_nil, List.length_drop]; omega) fun t tk' => ?_
        rw [hsub] at hR
        have := hR t h1 tk' F1 (fun p hp => N1 p (List.mem_cons_of_mem _ hp))
        simpa using this
      · refine wNeg (d < x.length) hdx ?_
        refine subEnd hl N hvs (by omega) (by omega) fun t tk' => ?_
        rw [hsub, List.drop_of_length_le (show x.length ≤ d by omega), List.append_nil] at hR
        exact hR t hp tk' F (fun p hp => N p (List.mem_cons_of_mem _ hp))
    | some j =>
      rw [hq] at hf
      obtain ⟨_, hst, hha, hli, _⟩ := hf
      obtain ⟨pre, a, b, r, e1, e2, e3, e4, e5⟩ := sub_some _ _ hq
      have hmem : ∀ c ∈ x.drop d, c < 128 := fun c hc => hx c (List.mem_of_mem_drop hc)
      have ha : a ∈ hexL := by
        have := hexc_eq a (hmem a (by rw [e1]; simp))
        rw [e3] at this; simpa using this.symm
      have hb : b ∈ hexL := by
        have := hexc_eq b (hmem b (by rw [e1]; simp))
        rw [e4] at this; simpa using this.symm
      have hlen : x.length - d = pre.length + (r.length + 3) := by
        have := congrArg List.length e1
        simpa using this
      have hr : x.drop (d + j + 3) = r := by
        have := congrArg (List.drop (j + 3)) e1
        rw [List.drop_drop, ← e2] at this
        rw [← e2, Nat.add_assoc, this]
        simp [List.drop_append]
      have hspan : (x.drop (d + j)).take (d + j + 3 - (d + j)) = [61, a, b] := by
        have := congrArg (List.drop j) e1
        rw [List.drop_drop, ← e2] at this
        rw [← e2, this]
        simp [show d + pre.length + 3 - (d + pre.length) = 3 by omega]
      have fin : ∀ (hp : Heap) (tk : Nat) (vs : List Value) (ps' : List (List Nat)) (k : Nat), Fr g L hp m → News g L hp ((la, listOf vs.toArray k) :: news) → StrsAre vs (ps'.map T) → vs.length ≤ d + 1 → ps'.flatten = ps.flatten ++ pre →
          wpAny (Mo w) A.in1 (do
            let found ← reNewMatch (.ref 36) (.str (T x) tx) 0 0 x.toArray.size m'
            let item ← holding [found] (call (.ref 86) [found])
            if (item != Value.none) = true then
              updateSeq la fun x => x.push item
            again (.builtin "re.Pattern.sub.loop" ⟨[.ref 36, .str (T x) tx, .ref 86, rawInt 1, rawInt 0, rawInt ((nn : Int) + 1), rawInt m'.handed, rawInt m'.handed, .bool (m'.handed == m'.start), .ref la, .bool false], []⟩))
            (fun fin s' => match fin with | .done f => R (.ok f) s' | .again c' => c'.quiet = true ∧ codeAny (model pE w) A c' R s') (fun e s' => R (.error e) s') ⟨hp, gn, dr, tk, os⟩ := by
        intro hp tk vs ps' k F N hvs hvl hps
        refine wpAny_bind (newMatch F N hst hha hli fun ma ta h1 F1 N1 => ?_)
        refine wpAny_bind (wpAny_holding ?_)
        refine use0 (umatch_ (.head _) (.tail _ (.head _)) (by omega) hspan ha hb) (at_in1 C) F1 N1 hd hu ?_
        rintro v h2 tk2 ⟨t, rfl⟩ F2 N2
        refine wIteT (c := (Value.str (T [16 * hv a + hv b]) t != Value.none)) (by kernel_rfl) ?_
        refine wpAny_bind (pushU F2 (fun p hp => N2 p (List.mem_cons_of_mem _ (List.mem_cons_of_mem _ hp))) hne (by omega) fun h3 F3 N3 => ?_)
        refine wpAny_pure ⟨plainId_quiet plain_subloop _, ?_⟩
        rw [hha, hst, show (d + j + 3 == d + j) = false by simp]
        refine ih (d + j + 3) h3 tk2 _ (ps' ++ [[16 * hv a + hv b]]) _ (nn + 1) (by omega) (by omega) F3 N3 (by simpa using Mine.StrsAre.snoc hvs (T [16 * hv a + hv b]) t) (by simp; omega) ?_ ?_
        · rw [List.flatten_append, List.length_append, hps, List.length_append]
          simp only [List.flatten_cons, List.flatten_nil, List.append_nil, List.length_cons, List.length_nil]
          omega
        · intro t' h4 tk4 F4 N4
          have := hR t' h4 tk4 F4 N4
          rw [e5] at this
          rw [hr, List.flatten_append, hps]
          simpa using this
      by_cases hj : 0 < j
      · refine wPos (d < m'.start) (by omega) ?_
        refine wpAny_bind (sliceR (b := d) (e := m'.start) hl ?_)
        rw [show (x.drop d).take (m'.start - d) = pre by rw [hst, show d + j - d = j by omega, e1, ← e2]; simp]
        refine wpAny_bind (pushU F N hne (by omega) fun h1 F1 N1 => ?_)
        exact fin h1 _ _ (ps ++ [pre]) _ F1 N1 (by simpa using Mine.StrsAre.snoc hvs (T pre) tk) (by simp; omega) (by simp)
      · refine wNeg (d < m'.start) (by omega) ?_
        have hpe : pre = [] := List.eq_nil_of_length_eq_zero (by omega)
        exact fin hp tk vs ps k F N hvs (by omega) (by simp [hpe])
end
end
section -- R7
open PySem PySem.W PyProof.Rows PySem.Calls PySem.Sre PySem.Builtin PySem.Builtin.Re
set_option maxRecDepth 100000
theorem fn_call : ∃ v, typeLookup (.type "function") (Str.ofString "__call__") = pure (some v) := ⟨.builtin "function.__call__", by rw [typeLookup_type, builtinLookup_eq_fast]; kernel_rfl⟩
section
variable {w : World} {A : Around} {E : Value → Shared → Prop} {Q : Value → Shared → Prop} {hp : Heap} {gn : Array GenState} {dr : Drawn} {tk : Nat} {os : OsState} {g : Heap} {L : Addr} {m : Str → Option Value} {news : List (Addr × Obj)} {x : List Nat} {tx : Tok}
theorem call_sub (C : At w A L g) (hd : A.depth + 2 < recursionLimit) (hu : A.units + 1 + 16 * 2 < cLine) (hl : x.length ≤ 1000) (hx : ∀ c ∈ x, c < 128) (F : Fr g L hp m) (N : News g L hp news)
    (h : ∀ t h' tk', Fr g L h' m → News g L h' news → Q (.str (T (subW x)) t) ⟨h', gn, dr, tk', os⟩) :
    wpAny (Mo w) A (call (.builtin "re.Pattern.sub") [.ref 36, .ref 86, .str (T x) tx]) Q E ⟨hp, gn, dr, tk, os⟩ := by
  have X := C.X.keeps (Fr.keep F)
  refine wpAny_call (codeAny_call_builtin slot_sub.plain entry_sub (slot_sub.check _ _ _ _ _ _ _ _ ⟨_, X _ _ (k36 _), rfl⟩ (args_sub _ _ _) ?_))
  unfold Builtin.«re.Pattern.sub» reSubstitute
  dsimp only
  have e0 : reNamed "re.Pattern.sub" "sub" ["repl", "string", "count"] 2 [Value.ref 86, Value.str (T x) tx] [] = pure [some (Value.ref 86), some (Value.str (T x) tx), none] := by kernel_rfl
  refine wpAny_bind (wpAny_of_eq e0 ?_)
  dsimp only
  refine wpAny_bind (wpAny_pure ?_)
  obtain ⟨v, hv⟩ := fn_call
  refine wpAny_bind (wpAny_specialOf (T := "function") ⟨_, X _ _ (fo20 _), rfl⟩ hv ?_)
  refine wIteT (c := true) rfl ?_
  refine wpAny_bind (wpAny_pure ?_)
  refine wIteT (c := true) rfl ?_
  refine wpAny_bind (wpAny_pure ?_)
  refine wpAny_bind (wpAny_holding (wholeT X ?_))
  refine wIteT (c := true) rfl ?_
  refine wpAny_bind ?_
  unfold reNotHeld
  refine wpAny_bind (wpAny_isInstance (T := "str") (b := false) (typeIs_str _ _ _) (by rw [isSubtype_type]; kernel_rfl) ?_)
  refine wIteF (c := false) rfl ?_
  refine wpAny_pure ?_
  refine wpAny_bind (newL F N (by simp) fun la h1 F1 N1 hna => ?_)
  refine wpAny_pure ⟨plainId_quiet plain_subloop _, ?_⟩
  refine subLoop C hd hu hl hx hna (x.length + 1) 0 h1 tk [] [] 0 0 (by omega) (by omega) F1 N1 .nil (by simp) (by simp) ?_
  intro t h' tk' F' N'
  exact h t h' tk' F' N'
end
end
section -- F10
open PySem PySem.W PyProof.Rows PySem.Calls PySem.NumText
set_option maxRecDepth 100000
theorem plainAttrs_pattern : PlainAttrs "re.Pattern" :=
  ⟨⟨"object.__getattribute__", by rw [typeLookup_type, builtinLookup_eq_fast]; kernel_rfl, by decide +kernel⟩, by rw [typeLookup_type, builtinLookup_eq_fast]; kernel_rfl⟩
theorem occ_none (x y : Str) (hi lim : Nat) (hn : ∀ i, i + y.length ≤ hi → Builtin.Str.subAt x y i = false) : ∀ (l : List Nat) (st : Array Nat × Nat), (forIn l st (StrLaws.occBody x y hi lim) : Id _) = pure st
  | [], st => by rw [List.forIn_nil]
  | i :: l, st => by
    rw [List.forIn_cons]
    have e : StrLaws.occBody x y hi lim i st = pure (ForInStep.yield st) := by
      unfold StrLaws.occBody
      rw [if_neg]
      rintro ⟨⟨_, h1⟩, h2⟩
      rw [hn i h1] at h2
      cases h2
    rw [e]
    exact occ_none x y hi lim hn l st
theorem occ95 (x : List Nat) (h : 95 ∉ x) (lim : Nat) : Builtin.Str.occurrences (T x) (T [95]) 0 (T x).length lim = [] := by
  rw [StrLaws.occ_eq, occ_none]
  · rfl
  · intro i hi
    unfold Builtin.Str.subAt
    rw [T_len, T_len] at hi
    simp only [List.length_cons, List.length_nil] at hi
    cases hq : ((T x).cps.extract i (i + (T [95]).length) == (T [95]).cps) with
    | false => rfl
    | true =>
      exfalso
      apply h
      have e := eq_of_beq hq
      have e2 := congrArg (fun a => a[0]?) e
      have hlt : i < x.length := by omega
      simp [T_len] at e2
      exact List.mem_of_getElem? e2
theorem replace95 {w : World} {A : Around} {E : Value → Shared → Prop} {Q : Value → Shared → Prop} {hp : Heap} {gn : Array GenState} {dr : Drawn} {tk : Nat} {os : OsState} {x : List Nat} {z : Str} {t u v : Tok} (h95 : 95 ∉ x) (h : Q (.str (T x) t) ⟨hp, gn, dr, tk, os⟩) :
    wpAny (Mo w) A (call (.builtin "str.replace") [.str (T x) t, .str (T [95]) u, .str z v]) Q E ⟨hp, gn, dr, tk, os⟩ := by
  refine call_gives F.slot_str_replace (typeIs_str _ _ _) F.entry_str_replace (F.args_str_replace_3 _ _ _) (gives_str_replace (T x) (T [95]) z t u v fun h => by rw [occ95 x h95] at h; cases h) ?_
  rw [occ95 x h95]
  exact h
theorem header_ {w : World} {news : List (Addr × Obj)} {x : List Nat} (t : Tok) (hl : x.length ≤ 1000) (hx : ∀ c ∈ x, c < 128) (h95 : 95 ∉ x) : Claim w 4 93 [.str (T x) t] news (fun v new => (∃ t, v = .str (T (subW x)) t) ∧ new = []) := by
  refine enter (binds := [(S "s", .str (T x) t)]) (l := [(S "s", .str (T x) t)]) (fo21 _) (by kernel_rfl) (fun s _ => BindsTo.of_eq (by kernel_rfl)) rfl (locs (by kernel_rfl)) (by kernel_rfl) (by kernel_rfl) (by kernel_rfl) (by decide +kernel) ?_
  intro A g L hp gn dr tk os C F N hd hu
  refine wpAny_execs_cons ?_
  repeat walk_at "m"
  rw [show Str.ofString "_" = T [95] by kernel_rfl]
  refine replace95 h95 ?_
  repeat walk_at "m"
  refine nameK C (by assumption) (g_twin_re_1 _) ?_ (by kernel_rfl) (by kernel_rfl) (by kernel_rfl)
  rename_i h1 F1 N1
  have X := C.X.keeps (Fr.keep F1)
  refine getMethod_builtin ⟨_, X _ _ (k36 _), rfl⟩ plainAttrs_pattern slot_sub type_sub (fun a e => by cases e; exact ⟨_, X _ _ (k36 _), rfl⟩) ?_
  repeat walk_at "m"
  refine nameK C (by assumption) (g_unquote_match _) ?_ (by kernel_rfl) (by kernel_rfl) (by kernel_rfl)
  repeat walk_at "m"
  refine call_sub C (by omega) (by omega) hl hx F1 N1 fun t' h' tk' F' N' => ?_
  exact back0 F' N' ⟨⟨_, rfl⟩, rfl⟩
end
section -- LoopsC
open PySem PySem.W PyProof.Rows PySem.Calls
set_option maxRecDepth 100000
section
variable {w : World} {A : Around} {cn : Str} {cs : Scope} {L a : Addr} {cd : Value} {h₀ hp : Heap} {gn : Array GenState} {dr : Drawn} {tk : Nat} {os : OsState} {fl : List (Str × Value)} {news : List (Addr × Obj)} {Q : Flow → Shared → Prop}
theorem loopAtC {x : Str} {body : List Stmt} {I : Addr} {fp : List Addr} {n : Nat} {P : Nat → Value → Prop} {St : Nat → Heap → Prop} (W : Walks pE w A I fp [I] n P St) (hL : L ∉ fp) (hI : h₀.get? I = none)
    (J : Nat → List (Str × Value) → List (Addr × Obj) → Prop) (hnI : ∀ p ∈ news, p.1 ≠ I) (hst : St 0 hp) (F : Fr h₀ L hp (lk fl)) (N : News h₀ L hp news) (h0 : J 0 fl news)
    (turn : ∀ i v fl₁ news₁ h tk own, i < n → P i v → J i fl₁ news₁ → (∀ p ∈ news₁, p.1 ≠ I) → (∀ p ∈ own, p.1 ∈ fp) → (∀ b ∈ fp, h₀.get? b = none → ∀ o, h.get? b = some o → (b, o) ∈ own) → St (i + 1) h →
      Fr h₀ L h (lk (up x v fl₁)) → News h₀ L h (own ++ news₁) → wpAny (Mo w) A (execs body (envOfC cn cs L a cd)) (Turn gn dr os h₀ L I own (J (i + 1)) Q) (fun _ _ => False) ⟨h, gn, dr, tk, os⟩)
    (done : ∀ fl₁ news₁ h tk, J n fl₁ news₁ → (∀ p ∈ news₁, p.1 ≠ I) → Fr h₀ L h (lk fl₁) → News h₀ L h news₁ → Q .next ⟨h, gn, dr, tk, os⟩) :
    LoopAtV pE w A h₀ (envOfC cn cs L a cd) x body Q (fun _ _ => False) (.ref I) ⟨hp, gn, dr, tk, os⟩ := by
  refine ⟨I, fp, [I], n, P, St, lk fl, news, fun i m news => ∃ fl, m = lk fl ∧ J i fl news, rfl, W, hL, fun b hb => by rw [List.mem_singleton.mp hb]; exact hI, fun p hp => by simpa using hnI p hp, hst, F, N, ⟨fl, rfl, h0⟩, ?_, ?_⟩
  · rintro i v m₁ news₁ s₁ own ⟨h, tk, rfl⟩ hi hP ⟨fl₁, rfl, hJ⟩ hn1 hfp _ hown hst₁ F₁ N₁
    rw [lk_up] at F₁
    refine wpAny_mono (turn i v fl₁ news₁ h tk own hi hP hJ (fun p hp => by simpa using hn1 p hp) hfp hown hst₁ F₁ N₁) (fun f s₂ h₂ => ?_) fun _ _ x => x
    cases f with
    | ret v => exact h₂
    | brk => exact h₂
    | next =>
      obtain ⟨h', tk', fl', news', rfl, F', N', hI', hJ'⟩ := h₂
      exact ⟨rfl, h', tk', _, news', rfl, F', N', fun p hp => by simpa using hI' p hp, fl', rfl, hJ'⟩
    | cont =>
      obtain ⟨h', tk', fl', news', rfl, F', N', hI', hJ'⟩ := h₂
      exact ⟨rfl, h', tk', _, news', rfl, F', N', fun p hp => by simpa using hI' p hp, fl', rfl, hJ'⟩
  · rintro h' tk' m' news' F' N' hn' ⟨fl', rfl, hJ'⟩
    exact done fl' news' h' tk' hJ' (fun p hp => by simpa using hn' p hp) F' N'
/-- a for over a list that stands -/
theorem iterLC {x : Str} {body : List Stmt} {l : Addr} {vs : List Value} (hh : A.handled = none) (hl : hp.IsList l vs.toArray) (hlL : l ≠ L)
    (J : Nat → List (Str × Value) → List (Addr × Obj) → Prop) (F : Fr h₀ L hp (lk fl)) (N : News h₀ L hp news) (h0 : J 0 fl news)
    (turn : ∀ I i v fl₁ news₁ h tk own, vs[i]? = some v → J i fl₁ news₁ → (∀ p ∈ news₁, p.1 ≠ I) → (∀ p ∈ own, p.1 = I ∨ p.1 = l) → (∃ io, (I, io) ∈ own) →
      Fr h₀ L h (lk (up x v fl₁)) → News h₀ L h (own ++ news₁) → wpAny (Mo w) A (execs body (envOfC cn cs L a cd)) (Turn gn dr os h₀ L I own (J (i + 1)) Q) (fun _ _ => False) ⟨h, gn, dr, tk, os⟩)
    (done : ∀ fl₁ news₁ h tk, J vs.length fl₁ news₁ → Fr h₀ L h (lk fl₁) → News h₀ L h news₁ → Q .next ⟨h, gn, dr, tk, os⟩) :
    wpAny (Mo w) A (pyIter (.ref l)) (fun it s₂ => LoopAtV pE w A h₀ (envOfC cn cs L a cd) x body Q (fun _ _ => False) it s₂) (fun _ _ => False) ⟨hp, gn, dr, tk, os⟩ := by
  obtain ⟨ol, hol, _⟩ := id hl
  have hne : l ≠ hp.objs.size := Nat.ne_of_lt (Heap.lt_size hol)
  have hI := fresh_none F
  refine wpAny_pyIter_list hl ?_
  refine loopAtC (I := hp.objs.size) (Walks.list hh hp.objs.size l hne vs.toArray) ?_ hI J (fresh_ne N) ⟨⟨_, Heap.get?_push_size _ rfl, rfl, rfl⟩, hl.at fun o e => Heap.get?_push_of_some _ e⟩ (F.push _) (newsPush N _) h0 ?_ ?_
  · intro hm
    rcases List.mem_cons.mp hm with e | hm
    · exact absurd (frame_lt F) (e ▸ Nat.lt_irrefl _)
    · exact hlL (List.mem_singleton.mp hm).symm
  · intro i v fl₁ news₁ h tk own hi hP hJ hn1 hfp hown hst F₁ N₁
    refine turn _ i v fl₁ news₁ h tk own (by simpa using hP) hJ hn1 (fun p hp => by simpa using hfp p hp) ?_ F₁ N₁
    obtain ⟨o, ho, _⟩ := hst.1
    exact ⟨o, hown _ (by simp) hI o ho⟩
  · intro fl₁ news₁ h tk hJ _ F₁ N₁
    exact done fl₁ news₁ h tk (by simpa using hJ) F₁ N₁
/-- a for over a text -/
theorem iterSC {x : Str} {body : List Stmt} {txt : List Nat} {tx : Tok} (hh : A.handled = none) (hx : ∀ c ∈ txt, c < 128)
    (J : Nat → List (Str × Value) → List (Addr × Obj) → Prop) (F : Fr h₀ L hp (lk fl)) (N : News h₀ L hp news) (h0 : J 0 fl news)
    (turn : ∀ I i c t fl₁ news₁ h tk own, txt[i]? = some c → J i fl₁ news₁ → (∀ p ∈ news₁, p.1 ≠ I) → (∀ p ∈ own, p.1 = I) → (∃ io, (I, io) ∈ own) →
      Fr h₀ L h (lk (up x (.str (T [c]) t) fl₁)) → News h₀ L h (own ++ news₁) → wpAny (Mo w) A (execs body (envOfC cn cs L a cd)) (Turn gn dr os h₀ L I own (J (i + 1)) Q) (fun _ _ => False) ⟨h, gn, dr, tk, os⟩)
    (done : ∀ fl₁ news₁ h tk, J txt.length fl₁ news₁ → Fr h₀ L h (lk fl₁) → News h₀ L h news₁ → Q .next ⟨h, gn, dr, tk, os⟩) :
    wpAny (Mo w) A (pyIter (.str (T txt) tx)) (fun it s₂ => LoopAtV pE w A h₀ (envOfC cn cs L a cd) x body Q (fun _ _ => False) it s₂) (fun _ _ => False) ⟨hp, gn, dr, tk, os⟩ := by
  have hI := fresh_none F
  refine wpAny_pyIter_ascii (s := ⟨hp, gn, dr, tk, os⟩) (by simpa [T] using hx) ?_
  refine loopAtC (I := hp.objs.size) (Walks.strAscii hh hp.objs.size (T txt) tx) ?_ hI J (fresh_ne N) ⟨_, Heap.get?_push_size _ rfl, rfl, rfl⟩ (F.push _) (newsPush N _) h0 ?_ ?_
  · intro hm
    exact absurd (frame_lt F) (List.mem_singleton.mp hm ▸ Nat.lt_irrefl _)
  · intro i v fl₁ news₁ h tk own hi hP hJ hn1 hfp hown hst F₁ N₁
    obtain ⟨c, u, hc, rfl⟩ := hP
    refine turn _ i c u fl₁ news₁ h tk own (by simpa using hc) hJ hn1 (fun p hp => by simpa using hfp p hp) ?_ F₁ N₁
    obtain ⟨o, ho, _⟩ := hst
    exact ⟨o, hown _ (by simp) hI o ho⟩
  · intro fl₁ news₁ h tk hJ _ F₁ N₁
    exact done fl₁ news₁ h tk (by simpa using hJ) F₁ N₁
end
end
section -- InfC
open PySem PySem.W PyProof.Rows PySem.Calls
set_option maxRecDepth 100000
section
variable {w : World} {A : Around} {E : Value → Shared → Prop} {s : Shared} {cn : Str} {cs : Scope} {L a : Addr} {cd : Value} {h₀ : Heap} {l : List (Str × Value)} {news : List (Addr × Obj)}
theorem enterC {d f : Nat} {vs : List Value} {Post : Value → List (Addr × Obj) → Prop} {name qual : Str} {params : Arguments} {body : List Stmt} {scope : Scope} {dV kV doc pm cdv ct oc cv : Value} {an od : Option Addr} {osl : Array (Option Value)} {binds l : List (Str × Value)}
    (ho : (K w.params).lookup f = some ⟨oc, od, .func (fnOf name qual params body scope dV kV doc pm an cdv ct), osl⟩) (hcd : codeIn (K w.params) cdv qual = true)
    (hbind : ∀ s : Shared, (K w.params).In s.heap → BindsTo s (fnOf name qual params body scope dV kV doc pm an cdv ct) ⟨vs, []⟩ binds)
    (hkind : (binds.all fun y => scope.names.lookup y.1 == some .local || scope.names.lookup y.1 == some .cell) = true) (hnd : ((cellsFrom 0 scope.names []).map (·.1)).Nodup)
    (hL : ∀ L', bindL (envOfC qual scope L' f cdv).kindOf binds (fun _ => none) = lk l)
    (hC : ∀ L' cells, CellsAre (bindC (envOfC qual scope L' f cdv).kindOf binds fun _ => none) (cellsFrom (L' + 1) scope.names []) cells → ∃ o : Obj, cells = [(L' + 1, o)] ∧ o.data = .cell (some cv))
    (hco : scope.isCoroutine = false) (hgen : scope.isGenerator = false) (hk : scope.kind = .function)
    (h : ∀ (A : Around) (g : Heap) (L : Addr) (hp : Heap) (gn : Array GenState) (dr : Drawn) (tk : Nat) (os : OsState) (co : Obj), At w A L g → Fr g L hp (lk l) → News g L hp ((L + 1, co) :: news) → co.data = .cell (some cv) → (∀ p ∈ news, p.1 < L) → A.depth + d < recursionLimit → A.units + 16 * d < cLine →
      wpAny (Mo w) A (execs body (envOfC qual scope L f cdv)) (Back gn dr os g L news Post) (fun _ _ => False) ⟨hp, gn, dr, tk, os⟩) : Claim w (d + 1) f vs news Post := by
  intro A L h₀ m s Q E C F N hd hu hq
  obtain ⟨A₀, base, env, outer, B, hA, hf, hke⟩ := C.below
  obtain ⟨mean, mg, mb, T⟩ := C.T
  refine wpAny_call (code_defC B F C.X N T hA hf hke ho hcd (by omega) (hbind s (C.X.keeps F.keep)) hkind hnd ?_ hco hgen hk)
  intro g L' h₁ tk cells FG F' N' Y B' X' T' hlt
  obtain ⟨co, rfl, hco'⟩ := hC L' cells Y
  rw [hL L'] at F'
  refine wpAny_mono (h (A.deeper (envOfC qual scope L' f cdv)) g L' h₁ s.gens s.drawn tk s.os co ⟨⟨A, base, _, _, B', by simp only [Around.deeper, hA, Option.map_some]; rfl, rfl, hk⟩, X', ⟨mean, mg, mb, T'⟩, C.hh⟩ F' N' hco' hlt ?_ ?_) ?_ ?_
  · show A.depth + 1 + d < recursionLimit
    omega
  · show A.units + 3 + 16 * d < cLine
    omega
  · rintro fl s' ⟨new, h', tk', m', rfl, F₂, N₂, p⟩
    exact leaveK_ F₂ N₂ fun F₃ N₃ => hq _ new h' tk' p F₃ N₃
  · intro _ _ x
    exact x.elim
theorem ldc {x : Str} {pos : Pos} {v : Value} {Q : Value → Shared → Prop} (F : Fr h₀ L s.heap (lk l)) (hv : lk l x = some v) (h : Q v s)
    (hk : cs.kind = .function) (hl : (envOfC cn cs L a cd).kindOf x = some .local) (hd : (x == ("__debug__" : Str)) = false) :
    wpAny (Mo w) A (eval (.Name x pos) (envOfC cn cs L a cd)) Q E s := wpAny_Name (wpAny_loadName_local hk hl F.ns hv h) hd
theorem ldnc {x : Str} {v : Value} {Q : Value → Shared → Prop} (F : Fr h₀ L s.heap (lk l)) (hv : lk l x = some v) (h : Q v s)
    (hk : cs.kind = .function) (hl : (envOfC cn cs L a cd).kindOf x = some .local) :
    wpAny (Mo w) A (loadName (envOfC cn cs L a cd) x) Q E s := wpAny_loadName_local hk hl F.ns hv h
theorem stc {x : Str} {v : Value} {Q : Unit → Shared → Prop} (F : Fr h₀ L s.heap (lk l)) (N : News h₀ L s.heap news)
    (h : ∀ h', Fr h₀ L h' (lk (up x v l)) → News h₀ L h' news → Q () { s with heap := h', toks := s.toks + 1 })
    (hk : cs.kind = .function) (hl : (envOfC cn cs L a cd).kindOf x = some .local) :
    wpAny (Mo w) A (storeName (envOfC cn cs L a cd) x v) Q E s :=
  stLocN F N (fun h' F' N' => h h' (lk_up x v l ▸ F') N') hk hl
theorem nameBC {m : Str → Option Value} {x : Str} {pos : Pos} {v : Value} {Q : Value → Shared → Prop} (C : At w A L h₀) (F : Fr h₀ L s.heap m) (e : nsIn (K w.params) mainGlobals x = some none) (hv : bootBuiltins x = some v) (hn : x ≠ "__name__") (h : Q v s)
    (hk : cs.kind = .function) (hx : (envOfC cn cs L a cd).kindOf x = some .globalImplicit) (hd : (x == ("__debug__" : Str)) = false) :
    wpAny (Mo w) A (eval (.Name x pos) (envOfC cn cs L a cd)) Q E s := by
  obtain ⟨mean, mg, mb, T⟩ := C.T
  have R := topRead_of T
  exact Name_function_global hk hx (loadGlobal_builtin (env := envOfC cn cs L a cd) (R.g.keeps F.keep) (mg_none_of C.X R.g e) (R.b.keeps F.keep) ((R.builtins x hn).trans hv) h) hd
end
end
section
open PySem PySem.W PyProof.Rows PySem.Calls PySem.NumText
local macro_rules | `(tactic| walk_at "mc") => `(tactic| first
  | with_reducible refine wpAny_execs_cons ?_
  | with_reducible refine wpAny_execs_nil ?_
  | with_reducible refine wpAny_Return_some ?_
  | with_reducible refine wpAny_If ?_
  | with_reducible refine wpAny_Continue ?_
  | ((with_reducible show wpAny _ _ (exec (Stmt.Assign [Expr.Name _ _] _ _) _) _ _ _); refine wpAny_Assign_Name ?_ (by rfl))
  | with_reducible refine wpAny_AugAssign_Name ?_
  | ((with_reducible show wpAny _ _ (exec (Stmt.Expr _ _) _) _ _ _); refine wpAny_Expr ?_ (by kernel_rfl) (by rfl))
  | ((with_reducible show wpAny _ _ (eval (Expr.Compare _ [_] [_] _) _) _ _ _); refine wpAny_Compare1 ?_ (by rfl))
  | ((with_reducible show wpAny _ _ (isTrue (Expr.Compare _ [_] [_] _) _ _) _ _ _); refine wpAny_isTrue_Compare1 ?_ (by rfl))
  | with_reducible refine isTrue_not ?_
  | ((with_reducible show wpAny _ _ (isTrue (Expr.BoolOp BoolOp.And (_ :: _) _) _ _) _ _ _); refine isTrue_and ?_)
  | ((with_reducible show wpAny _ _ (isTrue (Expr.BoolOp BoolOp.And [] _) _ _) _ _ _); refine isTrue_and_nil ?_)
  | ((with_reducible show wpAny _ _ (isTrue (Expr.BoolOp BoolOp.Or (_ :: _) _) _ _) _ _ _); refine isTrue_or ?_)
  | ((with_reducible show wpAny _ _ (isTrue (Expr.BoolOp BoolOp.Or [] _) _ _) _ _ _); refine isTrue_or_nil ?_)
  | ((with_reducible show wpAny _ _ (isTrue (Expr.Name _ _) _ _) _ _ _); refine isTrue_plain ?_ (by rfl))
  | ((with_reducible show wpAny _ _ (isTrue (Expr.Call _ _ _ _) _ _) _ _ _); refine isTrue_plain ?_ (by rfl))
  | ((with_reducible show wpAny _ _ (eval (Expr.Call (Expr.Name _ _) _ [] _) _) _ _ _); refine Call_ ?_ (by rfl))
  | with_reducible refine Subscript_ ?_
  | with_reducible refine wpAny_BinOp ?_
  | with_reducible refine wpAny_UnaryOp ?_
  | with_reducible refine wpAny_Slice ?_
  | with_reducible refine evalPart_some_step ?_
  | with_reducible refine evalPart_none_step ?_
  | with_reducible refine wpAny_Constant_int ?_
  | with_reducible refine Calls.Constant_str ?_
  | with_reducible refine wpAny_truthy_bool ?_
  | with_reducible refine List_ ?_
  | ((with_reducible show wpAny _ _ (callWith _ (Value.builtin _) [] (backTo _ (starEach (_ :: _) _)) []) _ _ _); refine callWith_builtin1 ?_ (by rfl) (by rfl))
  | ((with_reducible show wpAny _ _ (callWith _ (Value.type _) [] (backTo _ (starEach (_ :: _) _)) []) _ _ _); refine PyProof.Rows.callWith_type1 ?_ (by rfl) (by rfl))
  | ((with_reducible show wpAny _ _ (spliced (backTo _ (starEach (_ :: _) _))) _ _ _); refine spliced_more ?_ (by rfl))
  | with_reducible refine spliced_none ?_
  | ((with_reducible show wpAny _ _ (eval (Expr.Name _ _) _) _ _ _); refine ldc (by assumption) rfl ?_ (by kernel_rfl) (by kernel_rfl) (by kernel_rfl))
  | ((with_reducible show wpAny _ _ (loadName _ _) _ _ _); refine ldnc (by assumption) rfl ?_ (by kernel_rfl) (by kernel_rfl))
  | ((with_reducible show wpAny _ _ (storeName _ _ _) _ _ _); (try dsimp only); refine stc (by assumption) (by assumption) ?_ (by kernel_rfl) (by kernel_rfl); intro _ _ _)
  | ((with_reducible show wpAny _ _ (eval (Expr.Call (Expr.Attribute _ _ _) _ [] _) _) _ _ _); refine MethodCall_ ?_)
  | with_reducible refine GM.splitlines ?_
  | with_reducible refine GM.rstrip ?_
  | with_reducible refine GM.endswith ?_
  | with_reducible refine GM.index ?_
  | with_reducible refine GM.replace ?_
  | with_reducible refine GM.split ?_
  | with_reducible refine GM.upper ?_
  | with_reducible refine callWith_method0 ?_
  | ((with_reducible show wpAny _ _ (callWith _ (Value.builtin _) [_] (backTo _ (starEach (_ :: _) _)) []) _ _ _); refine callWith_method1 ?_ (by rfl) (by rfl))
  | with_reducible refine lt_int ?_
  | with_reducible refine gt_int ?_
  | with_reducible refine eq_int ?_
  | with_reducible refine add_int ?_
  | with_reducible refine iadd_int ?_
  | with_reducible refine sub_int ?_
  | with_reducible refine isub_int ?_
  | dsimp only)
local macro_rules | `(tactic| walk_at "ifc1") => `(tactic| (repeat (fail_if_success (with_reducible show wpAny _ _ (execs [Stmt.If _ _ _ _] _) _ _ _)); walk_at "mc"))
local macro_rules | `(tactic| walk_at "ifc") => `(tactic| (repeat (fail_if_success (with_reducible show wpAny _ _ (execs (Stmt.If _ _ _ _ :: _) _) _ _ _)); walk_at "mc"))
local macro_rules | `(tactic| walk_at "asc") => `(tactic| (repeat (fail_if_success (with_reducible show wpAny _ _ (execs [_, _, _, _] _) _ _ _)); walk_at "mc"))
section -- G4
open PySem PySem.W PyProof.Rows PySem.Calls PyProof.V PySem.Spec PySem.SeqAt
set_option maxRecDepth 100000
theorem readsAll_of_strs {h : Heap} : ∀ {vs : List Value} {ns : List Str}, StrsAre vs ns → ReadsAll h vs (ns.map PyData.str) []
  | _, _, .nil => .nil
  | _, _, .cons k t r => by
    have := ReadsAll.cons (Reads.str (h := h) k t) (readsAll_of_strs (h := h) r)
    simpa using this
theorem reads_of_strs {h : Heap} {a : Addr} {vs : List Value} {ns : List Str} (hl : h.IsList a vs.toArray) (hi : StrsAre vs ns) : Reads h (.ref a) (.list (ns.map PyData.str)) [a] := by
  obtain ⟨o, ho, hc, n, hd⟩ := hl
  exact Reads.list ho hc hd (by simpa using readsAll_of_strs hi)
theorem canLayAll0_strs : ∀ ns : List Str, (∀ n ∈ ns, PyData.strOk n = true) → PyData.canLayAll0 (ns.map PyData.str) = true
  | [], _ => by simp [PyData.canLayAll0]
  | n :: r, h => by simp [PyData.canLayAll0, PyData.canLay0, canLayAll0_strs r (fun x hx => h x (List.mem_cons_of_mem _ hx)), h n (.head _)]
theorem depthAll_strs : ∀ ns : List Str, PyData.depthAll (ns.map PyData.str) ≤ 1
  | [] => by simp [PyData.depthAll]
  | n :: r => by
    have := depthAll_strs r
    simp only [List.map_cons, PyData.depthAll, PyData.depth]
    omega
theorem shaped_strs (ns : List Str) (ho : ∀ n ∈ ns, PyData.strOk n = true) : shaped (.list (ns.map PyData.str)) = true := by
  have h1 := depthAll_strs ns
  have h2 : PyData.depth (.list (ns.map PyData.str)) ≤ 64 := by simp only [PyData.depth]; omega
  show (PyData.canLay0 (.list (ns.map PyData.str)) && decide (PyData.depth (.list (ns.map PyData.str)) ≤ 64)) = true
  rw [Bool.and_eq_true]
  exact ⟨by simp only [PyData.canLay0]; exact canLayAll0_strs ns ho, decide_eq_true h2⟩
theorem noMix_strs : ∀ ns ms : List Str, noMixAll (ns.map PyData.str) (ms.map PyData.str) = true
  | [], [] => by simp [noMixAll]
  | [], _ :: _ => by simp [noMixAll]
  | _ :: _, [] => by simp [noMixAll]
  | _ :: r, _ :: q => by simp [noMixAll, noMix, noMix_strs r q]
theorem same_strs : ∀ ns ms : List Str, PySem.Spec.sameAll (ns.map PyData.str) (ms.map PyData.str) = decide (ns = ms)
  | [], [] => by simp [PySem.Spec.sameAll]
  | [], _ :: _ => by simp [PySem.Spec.sameAll]
  | _ :: _, [] => by simp [PySem.Spec.sameAll]
  | n :: r, k :: q => by
    simp only [List.map_cons, PySem.Spec.sameAll, PySem.Spec.same, same_strs r q]
    by_cases h : n = k <;> simp [h]
section
variable {w : World} {A : Around} {E : Value → Shared → Prop} {s : Shared}
theorem eq_strsK {a b : Addr} {vs us : List Value} {ns ms : List Str} {Q : Value → Shared → Prop} (hl : s.heap.IsList a vs.toArray) (hi : StrsAre vs ns) (hl' : s.heap.IsList b us.toArray) (hi' : StrsAre us ms) (hu : A.units + 64 < cLine) (o1 : ∀ n ∈ ns, PyData.strOk n = true) (o2 : ∀ n ∈ ms, PyData.strOk n = true)
    (h : Q (.bool (decide (ns = ms))) s) : wpAny (Mo w) A (compareOp .Eq (.ref a) (.ref b)) Q E s :=
  eq_dataH_same (reads_of_strs hl hi) (reads_of_strs hl' hi') (shaped_strs ns o1) (shaped_strs ms o2) hu (by simp only [noMix]; exact noMix_strs ns ms) (by simp only [PySem.Spec.same]; rw [same_strs]; exact h)
theorem ne_strsK {a b : Addr} {vs us : List Value} {ns ms : List Str} {Q : Value → Shared → Prop} (hl : s.heap.IsList a vs.toArray) (hi : StrsAre vs ns) (hl' : s.heap.IsList b us.toArray) (hi' : StrsAre us ms) (hu : A.units + 64 < cLine) (o1 : ∀ n ∈ ns, PyData.strOk n = true) (o2 : ∀ n ∈ ms, PyData.strOk n = true)
    (h : Q (.bool (!decide (ns = ms))) s) : wpAny (Mo w) A (compareOp .NotEq (.ref a) (.ref b)) Q E s :=
  ne_dataH_same (reads_of_strs hl hi) (reads_of_strs hl' hi') (shaped_strs ns o1) (shaped_strs ms o2) hu (by simp only [noMix]; exact noMix_strs ns ms) (by simp only [PySem.Spec.same]; rw [same_strs]; exact h)
end
end
section -- G5
open PySem PySem.W PyProof.Rows PySem.Calls PyProof.V PySem.Spec PySem.SeqAt
set_option maxRecDepth 100000
noncomputable abbrev rObj (c : List Nat) (n : Nat) (t1 t2 : Tok) (k : Nat) : Obj := listOf [.str (T c) t1, .int (n : Nat) t2].toArray k
/-- the objects of the runs -/
inductive RO : List (Addr × Obj) → List (List Nat × Nat) → Prop
  | nil : RO [] []
  | cons (a : Addr) (t1 t2 : Tok) (k : Nat) (c : List Nat) (n : Nat) {os rs} : RO os rs → RO ((a, rObj c n t1 t2 k) :: os) ((c, n) :: rs)
theorem RO.snoc {os rs} (h : RO os rs) (a : Addr) (t1 t2 : Tok) (k : Nat) (c : List Nat) (n : Nat) : RO (os ++ [(a, rObj c n t1 t2 k)]) (rs ++ [(c, n)]) := by
  induction h with
  | nil => exact .cons a t1 t2 k c n .nil
  | cons a' t1' t2' k' c' n' _ ih => exact .cons a' t1' t2' k' c' n' ih
theorem RO.len {os rs} (h : RO os rs) : os.length = rs.length := by
  induction h with
  | nil => rfl
  | cons _ _ _ _ _ _ _ ih => simp [ih]
theorem RO.split {os rs} (h : RO os rs) : ∀ {r1 : List (List Nat × Nat)} {c n r2}, rs = r1 ++ (c, n) :: r2 → ∃ o1 a t1 t2 k o2, os = o1 ++ (a, rObj c n t1 t2 k) :: o2 ∧ RO o1 r1 ∧ RO o2 r2 := by
  induction h with
  | nil => intro r1 c n r2 e; simp at e
  | @cons a t1 t2 k c' n' os rs h ih =>
    intro r1 c n r2 e
    cases r1 with
    | nil =>
      simp at e
      obtain ⟨⟨rfl, rfl⟩, rfl⟩ := e
      exact ⟨[], a, t1, t2, k, os, rfl, .nil, h⟩
    | cons q r1 =>
      simp at e
      obtain ⟨rfl, e⟩ := e
      obtain ⟨o1, a', t1', t2', k', o2, e1, h1, h2⟩ := ih e
      exact ⟨(a, _) :: o1, a', t1', t2', k', o2, by rw [e1]; rfl, .cons a t1 t2 k c' n' h1, h2⟩
theorem RO.join {o1 r1 o2 r2} (h1 : RO o1 r1) (h2 : RO o2 r2) : RO (o1 ++ o2) (r1 ++ r2) := by
  induction h1 with
  | nil => exact h2
  | cons a t1 t2 k c n _ ih => exact .cons a t1 t2 k c n ih
noncomputable abbrev refs (os : List (Addr × Obj)) : List Value := os.map fun p => .ref p.1
theorem updMid {d : Addr} {o o' : Obj} : ∀ {pre post : List (Addr × Obj)}, (∀ p ∈ pre, p.1 ≠ d) → (∀ p ∈ post, p.1 ≠ d) → Upd d o o' (pre ++ (d, o) :: post) (pre ++ (d, o') :: post)
  | [], _, _, h2 => .head h2
  | p :: pre, _, h1, h2 => .tail (h1 p (.head _)) (updMid (fun q hq => h1 q (List.mem_cons_of_mem _ hq)) h2)
end
section -- P0
open PySem PySem.W
set_option maxRecDepth 100000
/-- the signs of the operators -/
noncomputable def sgs : List Nat := [40, 41, 91, 93, 58, 44, 59, 43, 45, 42, 47, 124, 38, 60, 62, 61, 46, 37, 123, 125, 126, 94, 64, 33]
noncomputable def eqS : List Nat := [33, 37, 38, 42, 43, 45, 47, 58, 60, 62, 64, 94, 124]
noncomputable def dbS : List Nat := [42, 47, 60, 62, 61]
noncomputable def manyOf (c : Nat) : Nat := if c = 46 then 3 else if c ∈ dbS then 2 else 1
noncomputable def pcs (c n : Nat) : List (List Nat) := List.replicate (n / manyOf c) (List.replicate (manyOf c) c) ++ List.replicate (n % manyOf c) [c]
noncomputable def eatB (c : Nat) (b : List Nat) : Bool := (decide (b = [61]) && decide (c ∈ eqS)) || (decide (b = [62]) && decide (c = 45))
noncomputable def fini (ps : List (List Nat)) (b : List Nat) : List (List Nat) := ps.dropLast ++ [ps.getLastD [] ++ b]
noncomputable def cntGo : List (List Nat × Nat) → List (List Nat)
  | ([c], n) :: (b, m) :: r => if pcs c n ≠ [] ∧ eatB c b = true then fini (pcs c n) b ++ cntGo ((b, m - 1) :: r) else pcs c n ++ cntGo ((b, m) :: r)
  | _ => []
termination_by l => l.length
noncomputable def addS : List (List Nat × Nat) → Nat → List (List Nat × Nat)
  | [], c => [([c], 1)]
  | [(s, n)], c => if s = [c] then [(s, n + 1)] else [(s, n), ([c], 1)]
  | p :: q :: r, c => p :: addS (q :: r) c
noncomputable def runsOf (text : List Nat) : List (List Nat × Nat) := text.foldl addS []
noncomputable def tokN (p : List Nat) : Nat := (tok p).getD 0
/-- the counted numbers of a text -/
noncomputable def cnt (text : List Nat) : List Nat := (cntGo (runsOf text ++ [([], 0)])).map tokN
inductive OkT : Nat → List (List Nat × Nat) → Prop
  | nil (lo : Nat) : OkT lo [([], 0)]
  | cons {lo c n : Nat} {r : List (List Nat × Nat)} : c ∈ sgs → lo ≤ n → n ≤ 200 → OkT 1 r → OkT lo (([c], n) :: r)
theorem OkT.mono {r : List (List Nat × Nat)} (h : OkT 1 r) : OkT 0 r := by
  cases h with
  | nil => exact .nil 0
  | cons a b c d => exact .cons a (Nat.zero_le _) c d
theorem addS_snoc (s : List Nat) (n c : Nat) : ∀ r : List (List Nat × Nat), addS (r ++ [(s, n)]) c = if s = [c] then r ++ [(s, n + 1)] else r ++ [(s, n), ([c], 1)]
  | [] => by simp [addS]
  | [p] => by
    show p :: addS [(s, n)] c = _
    simp only [addS]
    split <;> simp
  | p :: q :: r => by
    show p :: addS ((q :: r) ++ [(s, n)]) c = _
    rw [addS_snoc s n c (q :: r)]
    split <;> simp
theorem addS_nil (c : Nat) : addS [] c = [([c], 1)] := rfl
theorem runs_take {text : List Nat} {i c : Nat} (h : text[i]? = some c) : runsOf (text.take (i + 1)) = addS (runsOf (text.take i)) c := by
  unfold runsOf
  rw [List.take_add_one, h]
  simp
end
section -- G6
open PySem PySem.W PyProof.Rows PySem.Calls
set_option maxRecDepth 100000
theorem newsSub {g h : Heap} {L : Addr} {news news' : List (Addr × Obj)} (N : News g L h news) (hs : ∀ p ∈ news', p ∈ news) : News g L h news' := fun p hp => N p (hs p hp)
/-- the runs as they lie -/
structure St (g : Heap) (L : Addr) (h : Heap) (base : List (Addr × Obj)) (rs : List (List Nat × Nat)) (ra : Addr) (os : List (Addr × Obj)) (k : Nat) : Prop where
  ro : RO os rs
  nd : (ra :: os.map (·.1)).Nodup
  ap : ∀ p ∈ base, p.1 ∉ ra :: os.map (·.1)
  N : News g L h ((ra, listOf (refs os).toArray k) :: (os ++ base))
section
variable {w : World} {A : Around} {E : Value → Shared → Prop} {hp : Heap} {gn : Array GenState} {dr : Drawn} {tk : Nat} {os : OsState} {h₀ : Heap} {L : Addr} {m : Str → Option Value} {news : List (Addr × Obj)}
theorem newLt {vs : List Value} {Q : Value → Shared → Prop} (F : Fr h₀ L hp m) (N : News h₀ L hp news) (hsz : vs.length ≤ 100000)
    (h : ∀ l h', Fr h₀ L h' m → News h₀ L h' ((l, listOf vs.toArray 0) :: news) → (∀ p ∈ news, p.1 < l) → Q (.ref l) ⟨h', gn, dr, tk, os⟩) : wpAny (Mo w) A (newList vs) Q E ⟨hp, gn, dr, tk, os⟩ :=
  newList_K (s := ⟨hp, gn, dr, tk, os⟩) F N h (by rw [sizeLine_eq]; omega)
theorem neNil {a b : Addr} {vs : List Value} {n k : Nat} {Q : Value → Shared → Prop} (N : News h₀ L hp news) (ha : (a, listOf vs.toArray n) ∈ news) (hb : (b, listOf ([] : List Value).toArray k) ∈ news) (hu : A.units < cLine)
    (h : Q (.bool (decide (vs ≠ []))) ⟨hp, gn, dr, tk, os⟩) : wpAny (Mo w) A (compareOp .NotEq (.ref a) (.ref b)) Q E ⟨hp, gn, dr, tk, os⟩ := by
  have l1 := isL N ha
  have l2 := isL N hb
  show wpAny (Mo w) A (richCompare .NotEq (.ref a) (.ref b)) Q E ⟨hp, gn, dr, tk, os⟩
  cases vs with
  | nil =>
    refine PySem.SeqAt.RcNeAt.lists (s := ⟨hp, gn, dr, tk, os⟩) (e := fun _ => true) l1 l2 rfl hu (fun j h1 _ => by simp at h1) _ w E Q ?_
    simpa using h
  | cons v vs =>
    refine PySem.SeqAt.RcNeAt.lists_lengths (s := ⟨hp, gn, dr, tk, os⟩) l1 l2 (by simp) hu _ w E Q ?_
    simpa using h
theorem itemNeg {value slice : Expr} {l : Addr} {vs : List Value} {v : Value} {n : Nat} {u : Tok} {Q : Value → Shared → Prop} (N : News h₀ L hp news) (hm : (l, listOf (vs ++ [v]).toArray n) ∈ news) (h : Q v ⟨hp, gn, dr, tk, os⟩)
    (hs : subscripted slice false (.ref l) (.int (-1) u) = operate [.ref l, .int (-1) u] (getItem (.ref l) (.int (-1) u))) :
    wpAny (Mo w) A (subscriptTail value slice (.ref l) (.int (-1) u)) Q E ⟨hp, gn, dr, tk, os⟩ :=
  tail_any (s := ⟨hp, gn, dr, tk, os⟩) (isL N hm).typeIs slot_list_getitem.lookup (wpAny_getItem_list_neg (isL N hm) (by decide) (by simp; omega) (by decide) (by simp; rw [show (-1 + ((vs.length : Int) + 1)).toNat = vs.length by omega]; simp) h) hs
theorem getNeg {l : Addr} {vs : List Value} {v : Value} {n : Nat} {u : Tok} {Q : Value → Shared → Prop} (N : News h₀ L hp news) (hm : (l, listOf (vs ++ [v]).toArray n) ∈ news) (h : Q v ⟨hp, gn, dr, tk, os⟩) :
    wpAny (Mo w) A (getItem (.ref l) (.int (-1) u)) Q E ⟨hp, gn, dr, tk, os⟩ :=
  wpAny_getItem_list_neg (s := ⟨hp, gn, dr, tk, os⟩) (isL N hm) (by decide) (by simp; omega) (by decide) (by simp; rw [show (-1 + ((vs.length : Int) + 1)).toNat = vs.length by omega]; simp) h
theorem getPos {l : Addr} {vs : List Value} {v : Value} {n k : Nat} {u : Tok} {Q : Value → Shared → Prop} (N : News h₀ L hp news) (hm : (l, listOf vs.toArray n) ∈ news) (hk : k ≤ 100000) (hx : vs[k]? = some v) (h : Q v ⟨hp, gn, dr, tk, os⟩) :
    wpAny (Mo w) A (getItem (.ref l) (.int (k : Nat) u)) Q E ⟨hp, gn, dr, tk, os⟩ :=
  wpAny_getItem_list (s := ⟨hp, gn, dr, tk, os⟩) (isL N hm) (by omega) (by omega) (by simpa using hx) h
noncomputable abbrev oth (d : Addr) (news : List (Addr × Obj)) : List (Addr × Obj) := news.filter fun p => decide (p.1 ≠ d)
theorem oth_ne {d : Addr} : ∀ p ∈ oth d news, p.1 ≠ d := fun p hp => by simpa using (List.mem_filter.mp hp).2
theorem oth_in {d : Addr} {p : Addr × Obj} (hp : p ∈ news) (hd : p.1 ≠ d) : p ∈ oth d news := List.mem_filter.mpr ⟨hp, by simpa using hd⟩
theorem toOth {d : Addr} {o : Obj} (N : News h₀ L hp news) (hm : (d, o) ∈ news) : News h₀ L hp ((d, o) :: oth d news) := newsSub N fun p hp => by
  rcases List.mem_cons.mp hp with rfl | hp
  · exact hm
  · exact (List.mem_filter.mp hp).1
/-- a store into a list -/
theorem setN {d : Addr} {vs q : List Value} {n k : Nat} {t : Tok} {v : Value} {Q : Unit → Shared → Prop} (F : Fr h₀ L hp m) (N : News h₀ L hp news) (hm : (d, listOf vs.toArray n) ∈ news) (hk : k ≤ 100000) (e : ki_setL vs k v = some q)
    (h : ∀ h', Fr h₀ L h' m → News h₀ L h' ((d, listOf q.toArray n) :: oth d news) → Q () ⟨h', gn, dr, tk, os⟩) : wpAny (Mo w) A (setItem (.ref d) (.int (k : Nat) t) v) Q E ⟨hp, gn, dr, tk, os⟩ :=
  ki_set (s := ⟨hp, gn, dr, tk, os⟩) F (toOth N hm) (by omega) (by omega) (by simpa using e) (.head oth_ne) h
/-- a store at a list's end -/
theorem setL {d : Addr} {vs : List Value} {x : Value} {n : Nat} {t : Tok} {v : Value} {Q : Unit → Shared → Prop} (F : Fr h₀ L hp m) (N : News h₀ L hp news) (hm : (d, listOf (vs ++ [x]).toArray n) ∈ news)
    (e : ki_setL (vs ++ [x]) vs.length v = some (vs ++ [v])) (h : ∀ h', Fr h₀ L h' m → News h₀ L h' ((d, listOf (vs ++ [v]).toArray n) :: oth d news) → Q () ⟨h', gn, dr, tk, os⟩) : wpAny (Mo w) A (setItem (.ref d) (.int (-1) t) v) Q E ⟨hp, gn, dr, tk, os⟩ :=
  ki_setNeg (s := ⟨hp, gn, dr, tk, os⟩) (j := vs.length) F (toOth N hm) (by decide) (by decide) (by rw [seqIndex_neg (by decide) (by simp; omega)]; simp; omega) (by simpa using e) (.head oth_ne) h
theorem ki_setL_last (v x : Value) : ∀ vs : List Value, ki_setL (vs ++ [x]) vs.length v = some (vs ++ [v])
  | [] => rfl
  | y :: vs => by
    show (match ki_setL (vs ++ [x]) vs.length v with | some q => some (y :: q) | none => none) = _
    rw [ki_setL_last v x vs]; rfl
theorem appN {l : Addr} {vs : List Value} {n : Nat} {x : Value} {Q : Value → Shared → Prop} (F : Fr h₀ L hp m) (N : News h₀ L hp news) (hm : (l, listOf vs.toArray n) ∈ news) (hsz : vs.length ≤ 100000)
    (h : ∀ h', Fr h₀ L h' m → News h₀ L h' ((l, listOf (vs ++ [x]).toArray (n + 1)) :: oth l news) → Q .none ⟨h', gn, dr, tk, os⟩) : wpAny (Mo w) A (call (.builtin "list.append") [.ref l, x]) Q E ⟨hp, gn, dr, tk, os⟩ :=
  appH F (toOth N hm) oth_ne hsz h
/-- a list grown by a list, in place -/
theorem fillsI_list : fillsInplaceSlot (.type "list") "add" (Operator.Add == .Add) = pure false := by
  unfold fillsInplaceSlot
  show (typeLookup (.type "list") (dunderI "add") >>= fun fi => pure (fi.isSome && !isSeqSlot fi)) = pure false
  rw [F.slot_list_iadd.lookup]
  rfl
theorem seqI_list : seqSlot? (.type "list") (dunderI "add") = pure (some (.builtin "list.__iadd__")) := PySem.seqSlot_of PySem.F.slot_list_iadd.lookup (by decide +kernel)
theorem iaddL {a b : Addr} {vs ws : List Value} {n k : Nat} {Q : Value → Shared → Prop} (F : Fr h₀ L hp m) (N : News h₀ L hp news) (ha : (a, listOf vs.toArray n) ∈ news) (hb : hp.IsList b ws.toArray) (hbo : hp.get? b = some (listOf ws.toArray k)) (hsz : vs.length + ws.length ≤ 100000)
    (h : ∀ h' n', Fr h₀ L h' m → News h₀ L h' ((a, listOf (vs ++ ws).toArray n') :: oth a news) → Q (.ref a) ⟨h', gn, dr, tk, os⟩) : wpAny (Mo w) A (inplaceOp .Add (.ref a) (.ref b)) Q E ⟨hp, gn, dr, tk, os⟩ := by
  have hm := N _ ha
  have T1 : Shared.TypeIs ⟨hp, gn, dr, tk, os⟩ (.ref a) "list" := ⟨_, hm.1, rfl⟩
  have T2 : Shared.TypeIs ⟨hp, gn, dr, tk, os⟩ (.ref b) "list" := ⟨_, hbo, rfl⟩
  unfold inplaceOp
  refine wpAny_holding ?_
  refine wpAny_bind (wpAny_typeOf T1 (wpAny_bind (wpAny_of_eq fillsI_list ?_)))
  show wpAny _ _ (if false = true then _ else _) Q E _
  rw [if_neg Bool.false_ne_true]
  refine wpAny_bind (wpAny_binaryOp1_none (nm := "add") T1 T2 noFill_list_add ?_)
  refine wpAny_bind (wpAny_of_eq seqI_list ?_)
  refine wpAny_bind (wpAny_rule ?_)
  have hsz' : vs.toArray.size + ws.toArray.size ≤ sizeLine := by rw [sizeLine_eq]; simp; omega
  refine call_meets PySem.F.slot_list_iadd T1 PySem.F.entry_list_iadd (PySem.F.args_list_iadd_2 _ _) (AutoSeq1.list___iadd___list_list_0 a vs.toArray n b ws.toArray k (extend_door hsz') (Nat.le_trans (Nat.le_add_right _ _) hsz')) ⟨hm.1, hbo, ?_⟩
  have e : vs.toArray ++ ws.toArray = (vs ++ ws).toArray := by simp
  have ho' : (hp.update a (Obj.mapSeq fun x => x ++ ws.toArray)).get? a = some { cls := .type "list", data := .seq (vs ++ ws).toArray (if (vs.toArray ++ ws.toArray).size == vs.toArray.size then n else n + 1) } := by
    rw [Heap.get?_update_self _ hm.1 (by rw [mapSeq_app]; rfl), mapSeq_app, e]
  exact h _ _ (F.change (Heap.SameBut.update ..) hm.2.1 hm.2.2) (news_set (pre := []) (toOth N ha) (fun _ hq => nomatch hq) oth_ne (Heap.SameBut.update ..) ho')
end
end
section -- G7
open PySem PySem.W PyProof.Rows PySem.Calls
set_option maxRecDepth 100000
open PySem.SeqAt PySem.AutoSeq1 in
theorem meets_iaddW (l : Addr) (items : Array Value) (n : Nat) (b : Addr) (items2 : Array Value) (n2 : Nat) (dd : Option Addr) (sl : Array (Option Value)) (hs0 : ¬(!items.isEmpty && Builtin.List.listTooLong (items.size + items2.size)) = true) (hs1 : items.size ≤ sizeLine) (hs2 : items.size + items2.size ≤ sizeLine + 1) :
    Meets (Builtin.«list.__iadd__» ⟨[.ref l, .ref b], []⟩) (fun _ R s => s.heap.get? l = some { cls := .type "list", dict := none, data := .seq items n, slots := #[] } ∧ s.heap.get? b = some { cls := .type "list", dict := dd, data := .seq items2 n2, slots := sl } ∧ R (.ok (.ret (Value.ref l))) { s with heap := s.heap.update l (Obj.mapSeq fun x => x ++ items2), toks := s.toks }) :=
  .of_wp fun prog w A R s h => by
    obtain ⟨hp, g, d, tk, os⟩ := s; obtain ⟨hl, hb, h⟩ := h; have f1 := PySem.AutoSeq1.idx_int; have f2 := PySem.AutoSeq1.sub_tuple_tuple; have f3 := PySem.AutoSeq1.sub_list_list; have f4 := PySem.AutoSeq1.sub_tuple_list; have f5 := PySem.AutoSeq1.sub_list_tuple;
    have hz' : (items ++ items2).size ≤ sizeLine + 1 := by rw [Array.size_append]; exact hs2
    wp_walk using (wpAny_updateSeq hl rfl (hz := hs1) (_hz' := hz')), wpAny_loadPart' hl, wpAny_loadPart' hb; exact ⟨_, rfl, h⟩
section
variable {w : World} {A : Around} {E : Value → Shared → Prop} {hp : Heap} {gn : Array GenState} {dr : Drawn} {tk : Nat} {os : OsState} {h₀ : Heap} {L : Addr} {m : Str → Option Value} {news : List (Addr × Obj)}
theorem iaddW {a b : Addr} {vs ws : List Value} {n : Nat} {Q : Value → Shared → Prop} (F : Fr h₀ L hp m) (N : News h₀ L hp news) (ha : (a, listOf vs.toArray n) ∈ news) (hb : hp.IsList b ws.toArray) (hsz : vs.length + ws.length ≤ 100000)
    (h : ∀ h' n', Fr h₀ L h' m → News h₀ L h' ((a, listOf (vs ++ ws).toArray n') :: oth a news) → Q (.ref a) ⟨h', gn, dr, tk, os⟩) : wpAny (Mo w) A (inplaceOp .Add (.ref a) (.ref b)) Q E ⟨hp, gn, dr, tk, os⟩ := by
  have hm := N _ ha
  obtain ⟨⟨cls, dd, data, sl⟩, hbo, hc, k, hd⟩ := id hb
  simp only at hc hd
  subst hc hd
  have T1 : Shared.TypeIs ⟨hp, gn, dr, tk, os⟩ (.ref a) "list" := ⟨_, hm.1, rfl⟩
  have T2 : Shared.TypeIs ⟨hp, gn, dr, tk, os⟩ (.ref b) "list" := ⟨_, hbo, rfl⟩
  unfold inplaceOp
  refine wpAny_holding ?_
  refine wpAny_bind (wpAny_typeOf T1 (wpAny_bind (wpAny_of_eq fillsI_list ?_)))
  show wpAny _ _ (if false = true then _ else _) Q E _
  rw [if_neg Bool.false_ne_true]
  refine wpAny_bind (wpAny_binaryOp1_none (nm := "add") T1 T2 noFill_list_add ?_)
  refine wpAny_bind (wpAny_of_eq seqI_list ?_)
  refine wpAny_bind (wpAny_rule ?_)
  have hsz' : vs.toArray.size + ws.toArray.size ≤ sizeLine := by rw [sizeLine_eq]; simp; omega
  refine call_meets PySem.F.slot_list_iadd T1 PySem.F.entry_list_iadd (PySem.F.args_list_iadd_2 _ _) (meets_iaddW a vs.toArray n b ws.toArray k dd sl (extend_door hsz') (Nat.le_trans (Nat.le_add_right _ _) hsz') (Nat.le_succ_of_le hsz')) ⟨hm.1, hbo, ?_⟩
  have e : vs.toArray ++ ws.toArray = (vs ++ ws).toArray := by simp
  have ho' : (hp.update a (Obj.mapSeq fun x => x ++ ws.toArray)).get? a = some { cls := .type "list", data := .seq (vs ++ ws).toArray (if (vs.toArray ++ ws.toArray).size == vs.toArray.size then n else n + 1) } := by
    rw [Heap.get?_update_self _ hm.1 (by rw [mapSeq_app]; rfl), mapSeq_app, e]
  exact h _ _ (F.change (Heap.SameBut.update ..) hm.2.1 hm.2.2) (news_set (pre := []) (toOth N ha) (fun _ hq => nomatch hq) oth_ne (Heap.SameBut.update ..) ho')
theorem mulL {a : Addr} {vs : List Value} {n k : Nat} {u : Tok} {Q : Value → Shared → Prop} (F : Fr h₀ L hp m) (N : News h₀ L hp news) (ha : (a, listOf vs.toArray n) ∈ news) (hsz : vs.length * k ≤ 256) (hk : k ≤ 100000)
    (h : ∀ D h', Fr h₀ L h' m → News h₀ L h' ((D, listOf (List.replicate k vs).flatten.toArray 0) :: news) → (∀ p ∈ news, p.1 < D) → Q (.ref D) ⟨h', gn, dr, tk, os⟩) : wpAny (Mo w) A (binaryOp .Mult (.ref a) (.int (k : Nat) u)) Q E ⟨hp, gn, dr, tk, os⟩ :=
  KMa.mul (s := ⟨hp, gn, dr, tk, os⟩) F N (isL N ha) (by omega) (by omega) (by simpa using hsz) (by simp) h
theorem addL {a b : Addr} {vs ws : List Value} {n k : Nat} {Q : Value → Shared → Prop} (F : Fr h₀ L hp m) (N : News h₀ L hp news) (ha : (a, listOf vs.toArray n) ∈ news) (hb : (b, listOf ws.toArray k) ∈ news) (hsz : vs.length + ws.length ≤ 100000)
    (h : ∀ D h', Fr h₀ L h' m → News h₀ L h' ((D, listOf (vs ++ ws).toArray 0) :: news) → (∀ p ∈ news, p.1 < D) → Q (.ref D) ⟨h', gn, dr, tk, os⟩) : wpAny (Mo w) A (binaryOp .Add (.ref a) (.ref b)) Q E ⟨hp, gn, dr, tk, os⟩ :=
  kmk_add_lit (s := ⟨hp, gn, dr, tk, os⟩) F N (isL N ha) (isL N hb) (by simp) h (by rw [sizeLine_eq]; simpa using by omega)
theorem txtMul (c k : Nat) (hk : 1 ≤ k) : Txt.mul (T [c]) (k : Nat) = T (List.replicate k c) := by
  unfold Txt.mul
  rw [if_neg (by omega)]
  by_cases h : k = 1
  · subst h; rfl
  · rw [if_neg (by rw [T_len]; simp; omega)]
    have : ∀ (n : Nat) (acc : Array Nat), ((List.replicate n (T [c]).cps).foldl (· ++ ·) acc) = acc ++ (List.replicate n c).toArray := by
      intro n
      induction n with
      | zero => intro acc; simp
      | succ n ih =>
        intro acc
        rw [List.replicate_succ, List.foldl_cons, ih]
        apply Array.toList_inj.mp
        simp [List.replicate_succ]
    rw [Int.toNat_natCast, this]
    simp [T]
theorem mulT {c k : Nat} {t u : Tok} {Q : Value → Shared → Prop} (hk : 1 ≤ k) (hk3 : k ≤ 3) (h : ∀ t' tk', Q (.str (T (List.replicate k c)) t') ⟨hp, gn, dr, tk', os⟩) : wpAny (Mo w) A (binaryOp .Mult (.str (T [c]) t) (.int (k : Nat) u)) Q E ⟨hp, gn, dr, tk, os⟩ := by
  refine SB.mul ?_ fun t' k' => ?_
  · refine ⟨by simp; omega, fun _ _ => ?_, fun _ _ => ?_⟩
    · rw [T_len]
      have hk' : k = 1 ∨ k = 2 ∨ k = 3 := by omega
      rcases hk' with rfl | rfl | rfl <;> (show _ ; simp only [List.length_cons, List.length_nil]; decide)
    · rw [T_len]
      have hk' : k = 1 ∨ k = 2 ∨ k = 3 := by omega
      rcases hk' with rfl | rfl | rfl <;> (show _ ; simp only [List.length_cons, List.length_nil]; decide)
  · rw [txtMul c k hk]; exact h t' k'
/-- where an operator stands -/
theorem opL_nodup : opL.Nodup := by decide +kernel
theorem op_tok : ∀ p ∈ opL, 7 + opL.idxOf p = tokN p := by decide +kernel
noncomputable def isT (p : List Nat) : Value → Bool
  | .str a _ => a == T p
  | _ => false
theorem strs_at {vs : List Value} {ns : List Str} (h : StrsAre vs ns) {v : Value} (hv : v ∈ vs) : ∃ y t, v = .str y t := by
  induction h with
  | nil => cases hv
  | cons y t _ ih =>
    rcases List.mem_cons.mp hv with rfl | hv
    · exact ⟨y, t, rfl⟩
    · exact ih hv
theorem idxS {oa : Addr} {ovs : List Value} {n : Nat} {p : List Nat} {t : Tok} {Q : Value → Shared → Prop} (ho : hp.get? oa = some (listOf ovs.toArray n)) (hov : StrsAre ovs (opL.map T)) (hp' : p ∈ opL)
    (h : Q (.int (opL.idxOf p : Nat) tk) ⟨hp, gn, dr, tk + 1, os⟩) : wpAny (Mo w) A (call (.builtin "list.index") [.ref oa, .str (T p) t]) Q E ⟨hp, gn, dr, tk, os⟩ := by
  have hlen : ovs.length = opL.length := by rw [Mine.StrsAre.len hov, List.length_map]
  have hj : opL.idxOf p < opL.length := List.idxOf_lt_length_of_mem hp'
  have h48 : opL.length = 48 := by decide +kernel
  have hget : ∀ (i : Nat) (hi : i < ovs.toArray.size), isT p ovs.toArray[i] = decide (opL[i]? = some p) := by
    intro i hi
    have hi' : i < opL.length := by simpa [hlen] using hi
    obtain ⟨t', ht'⟩ := Mine.StrsAre.get hov (k := i) (y := T opL[i]) (by simp [hi'])
    have e : ovs.toArray[i] = .str (T opL[i]) t' := by
      have : ovs.toArray[i]? = some (.str (T opL[i]) t') := by simpa using ht'
      rw [Array.getElem?_eq_getElem hi] at this
      exact Option.some.inj this
    rw [e]
    show (T opL[i] == T p) = _
    rw [List.getElem?_eq_getElem hi']
    by_cases q : opL[i] = p
    · simp [q]
    · have : T opL[i] ≠ T p := fun e => q (T_inj e)
      simp [q, this]
  refine call_meets (s := ⟨hp, gn, dr, tk, os⟩) PySem.F.slot_list_index ⟨_, ho, rfl⟩ PySem.F.entry_list_index (PySem.F.args_list_index_2 _ _)
    (PySem.SeqAt.list_indexAt oa ovs.toArray n none #[] (.str (T p) t) (isT p) (opL.idxOf p) (by simpa [hlen] using hj) (by omega) ?_ ?_) ⟨ho, ?_, h⟩
  · rw [hget]
    simp [List.getElem?_eq_getElem hj]
  · intro i hi hlt
    rw [hget]
    have hi' : i < opL.length := Nat.lt_trans hlt hj
    rw [List.getElem?_eq_getElem hi']
    have : opL[i] ≠ p := fun e => by
      have e2 : opL[i] = opL[opL.idxOf p] := by rw [e, List.getElem_idxOf hj]
      have := (List.getElem_inj opL_nodup).mp e2
      omega
    simp [this]
  · intro y hy
    obtain ⟨z, t', rfl⟩ := strs_at hov (List.mem_toArray.mp hy)
    exact PySem.SeqAt.EqAt.str_str z t' (T p) t
theorem db_in : ∀ c ∈ sgs, Txt.contains (S "*/<>=") (T [c]) = decide (c ∈ dbS) := by decide +kernel
theorem eq_in : ∀ c ∈ sgs, Txt.contains (S "!%&*+-/:<>@^|") (T [c]) = decide (c ∈ eqS) := by decide +kernel
end
end
section -- G8
open PySem PySem.W PyProof.Rows PySem.Calls PySem.NumText
set_option maxRecDepth 100000
set_option linter.unusedVariables false
noncomputable def cnF1 : List Stmt := match bd 81 with | _ :: .For _ _ b _ _ :: _ => b | _ => []
noncomputable def cnF2 : List Stmt := match bd 81 with | _ :: _ :: _ :: _ :: .For _ _ b _ _ :: _ => b | _ => []
noncomputable abbrev evC (i : Nat) (f cd : Nat) (L : Addr) : Env := envOfC (fnp i).name (fnp i).scope L f (.ref cd)
/-- the runs and the rest of what is new -/
noncomputable abbrev cN (ra : Addr) (ros base : List (Addr × Obj)) (k : Nat) : List (Addr × Obj) := (ra, listOf (refs ros).toArray k) :: (ros ++ base)
/-- the addresses of the runs are apart -/
structure Apt (ra : Addr) (ros base : List (Addr × Obj)) : Prop where
  nd : (ros.map (·.1)).Nodup
  rr : ∀ p ∈ ros, p.1 ≠ ra
  br : ∀ p ∈ base, p.1 ≠ ra
  bo : ∀ p ∈ base, ∀ q ∈ ros, p.1 ≠ q.1
/-- the state between two turns of the first loop -/
noncomputable def cJ1 (text : List Nat) (t : Tok) (ra : Addr) (base : List (Addr × Obj)) (i : Nat) (fl : List (Str × Value)) (news : List (Addr × Obj)) : Prop :=
  ∃ rest ros k, fl = (S "text", .str (T text) t) :: (S "runs", .ref ra) :: rest ∧ ((rest = [] ∧ i = 0) ∨ ∃ v, rest = [(S "sign", v)]) ∧ RO ros (runsOf (text.take i)) ∧ Apt ra ros base ∧ news = cN ra ros base k
theorem Apt.push {ra na : Addr} {ros base news : List (Addr × Obj)} {o : Obj} {k : Nat} (a : Apt ra ros base) (hsub : ∀ p ∈ cN ra ros base k, p ∈ news) (hna : ∀ p ∈ news, p.1 < na) : Apt ra (ros ++ [(na, o)]) base := by
  have hlt : ∀ p ∈ cN ra ros base k, p.1 < na := fun p hp => hna p (hsub p hp)
  refine ⟨?_, ?_, a.br, ?_⟩
  · rw [List.map_append, List.nodup_append]
    refine ⟨a.nd, by simp, ?_⟩
    intro x hx y hy e
    obtain ⟨p, hp, rfl⟩ := List.mem_map.mp hx
    simp only [List.map_cons, List.map_nil, List.mem_singleton] at hy
    have := hlt p (by simp [hp])
    rw [e, hy] at this
    exact Nat.lt_irrefl _ this
  · intro p hp
    rcases List.mem_append.mp hp with hp | hp
    · exact a.rr p hp
    · rw [List.mem_singleton.mp hp]
      exact Nat.ne_of_gt (hlt (ra, listOf (refs ros).toArray k) (by simp))
  · intro p hp q hq
    rcases List.mem_append.mp hq with hq | hq
    · exact a.bo p hp q hq
    · rw [List.mem_singleton.mp hq]
      exact Nat.ne_of_lt (hlt p (by simp [hp]))
theorem Apt.set {ra a : Addr} {o1 o2 base : List (Addr × Obj)} {o o' : Obj} (h : Apt ra (o1 ++ (a, o) :: o2) base) : Apt ra (o1 ++ (a, o') :: o2) base := by
  have e : (o1 ++ (a, o') :: o2).map (·.1) = (o1 ++ (a, o) :: o2).map (·.1) := by simp
  refine ⟨by rw [e]; exact h.nd, ?_, h.br, ?_⟩
  · intro p hp
    rcases List.mem_append.mp hp with hp | hp
    · exact h.rr p (List.mem_append_left _ hp)
    · rcases List.mem_cons.mp hp with rfl | hp
      · exact h.rr (a, o) (by simp)
      · exact h.rr p (by simp [hp])
  · intro p hp q hq
    rcases List.mem_append.mp hq with hq | hq
    · exact h.bo p hp q (List.mem_append_left _ hq)
    · rcases List.mem_cons.mp hq with rfl | hq
      · exact h.bo p hp (a, o) (by simp)
      · exact h.bo p hp q (by simp [hq])
theorem Apt.mid {ra a : Addr} {o1 o2 base : List (Addr × Obj)} {o : Obj} (h : Apt ra (o1 ++ (a, o) :: o2) base) : (∀ p ∈ o1, p.1 ≠ a) ∧ (∀ p ∈ o2, p.1 ≠ a) ∧ ra ≠ a ∧ ∀ p ∈ base, p.1 ≠ a := by
  have nd := h.nd
  rw [List.map_append, List.map_cons, List.nodup_append] at nd
  obtain ⟨_, n2, n3⟩ := nd
  refine ⟨fun p hp => n3 _ (List.mem_map_of_mem hp) _ (by simp), fun p hp e => (List.nodup_cons.mp n2).1 (List.mem_map.mpr ⟨p, hp, e⟩), fun e => h.rr (a, o) (by simp) e.symm, fun p hp => h.bo p hp (a, o) (by simp)⟩
theorem cPush {w : World} {g : Heap} {L I : Addr} {gn : Array GenState} {dr : Drawn} {os : OsState} {base own news : List (Addr × Obj)} {Q : Flow → Shared → Prop} {h' : Heap} {tk : Nat} {text : List Nat} {ra na : Addr} {ros : List (Addr × Obj)} {k c : Nat} {t t1 t2 : Tok} {v : Value} {i : Nat}
    (hc : text[i]? = some c) (ro : RO ros (runsOf (text.take i))) (hrs : addS (runsOf (text.take i)) c = runsOf (text.take i) ++ [([c], 1)]) (ap : Apt ra ros base) (hown : ∀ p ∈ own, p.1 = I) (hio : ∃ io, (I, io) ∈ own) (hI : ∀ p ∈ cN ra ros base k, p.1 ≠ I)
    (hsub : ∀ p ∈ own ++ cN ra ros base k, p ∈ news) (hna : ∀ p ∈ news, p.1 < na)
    (F : Fr g L h' (lk [(S "text", .str (T text) t), (S "runs", .ref ra), (S "sign", v)])) (N : News g L h' ((ra, listOf (refs ros ++ [Value.ref na]).toArray (k + 1)) :: oth ra ((na, rObj [c] 1 t1 t2 0) :: news))) :
    Turn gn dr os g L I own (cJ1 text t ra base (i + 1)) Q .next ⟨h', gn, dr, tk, os⟩ := by
  have hlt : ∀ p ∈ own ++ cN ra ros base k, p.1 < na := fun p hp => hna p (hsub p hp)
  have hra : ra < na := hlt (ra, listOf (refs ros).toArray k) (by simp)
  obtain ⟨io, hio⟩ := hio
  have hIna : I < na := hlt (I, io) (List.mem_append_left _ hio)
  have hnI : ∀ p ∈ own, p.1 ≠ ra := fun p hp e => hI (ra, listOf (refs ros).toArray k) (by simp) (by rw [← e]; exact hown p hp)
  refine turn_next (fl' := [(S "text", .str (T text) t), (S "runs", .ref ra), (S "sign", v)]) (news' := cN ra (ros ++ [(na, rObj [c] 1 t1 t2 0)]) base (k + 1)) F (newsSub N ?_) ?_ ⟨_, _, _, rfl, .inr ⟨_, rfl⟩, ?_, ap.push (fun p hp => hsub p (List.mem_append_right _ hp)) hna, rfl⟩
  · intro p hp
    rcases List.mem_append.mp hp with hp | hp
    · exact .tail _ (oth_in (.tail _ (hsub p (List.mem_append_left _ hp))) (hnI p hp))
    · rcases List.mem_cons.mp hp with rfl | hp
      · rw [show refs (ros ++ [(na, rObj [c] 1 t1 t2 0)]) = refs ros ++ [Value.ref na] by simp]
        exact .head _
      · rcases List.mem_append.mp hp with hp | hp
        · rcases List.mem_append.mp hp with hp | hp
          · exact .tail _ (oth_in (.tail _ (hsub p (by simp [hp]))) (ap.rr p hp))
          · rw [List.mem_singleton.mp hp]
            exact .tail _ (oth_in (.head _) (Nat.ne_of_gt hra))
        · exact .tail _ (oth_in (.tail _ (hsub p (by simp [hp]))) (ap.br p hp))
  · intro p hp
    rcases List.mem_cons.mp hp with rfl | hp
    · exact hI (ra, listOf (refs ros).toArray k) (by simp)
    · rcases List.mem_append.mp hp with hp | hp
      · rcases List.mem_append.mp hp with hp | hp
        · exact hI p (by simp [hp])
        · rw [List.mem_singleton.mp hp]
          exact Nat.ne_of_gt hIna
      · exact hI p (by simp [hp])
  · rw [runs_take hc, hrs]
    exact ro.snoc na t1 t2 0 [c] 1
theorem cInc {w : World} {g : Heap} {L I : Addr} {gn : Array GenState} {dr : Drawn} {os : OsState} {base own news : List (Addr × Obj)} {Q : Flow → Shared → Prop} {h' : Heap} {tk : Nat} {text : List Nat} {ra a : Addr} {ros : List (Addr × Obj)} {r1 : List (List Nat × Nat)} {k c n : Nat} {k' : Nat} {t t1 t2 t3 : Tok} {v : Value} {i : Nat}
    (hc : text[i]? = some c) (ro : RO ros r1) (hrs : runsOf (text.take i) = r1 ++ [([c], n)]) (ap : Apt ra (ros ++ [(a, rObj [c] n t1 t2 k')]) base) (hown : ∀ p ∈ own, p.1 = I) (hI : ∀ p ∈ cN ra (ros ++ [(a, rObj [c] n t1 t2 k')]) base k, p.1 ≠ I)
    (hsub : ∀ p ∈ own ++ cN ra (ros ++ [(a, rObj [c] n t1 t2 k')]) base k, p ∈ news)
    (F : Fr g L h' (lk [(S "text", .str (T text) t), (S "runs", .ref ra), (S "sign", v)])) (N : News g L h' ((a, rObj [c] (n + 1) t1 t3 k') :: oth a news)) :
    Turn gn dr os g L I own (cJ1 text t ra base (i + 1)) Q .next ⟨h', gn, dr, tk, os⟩ := by
  obtain ⟨m1, _, m3, m4⟩ := ap.mid
  have hnI : ∀ p ∈ own, p.1 ≠ a := fun p hp e => hI (a, rObj [c] n t1 t2 k') (by simp) (by rw [← e]; exact hown p hp)
  refine turn_next (fl' := [(S "text", .str (T text) t), (S "runs", .ref ra), (S "sign", v)]) (news' := cN ra (ros ++ [(a, rObj [c] (n + 1) t1 t3 k')]) base k) F (newsSub N ?_) ?_ ⟨_, _, _, rfl, .inr ⟨_, rfl⟩, ?_, ap.set, rfl⟩
  · intro p hp
    rcases List.mem_append.mp hp with hp | hp
    · exact .tail _ (oth_in (hsub p (List.mem_append_left _ hp)) (hnI p hp))
    · rcases List.mem_cons.mp hp with rfl | hp
      · exact .tail _ (oth_in (hsub _ (List.mem_append_right _ (by simp))) m3)
      · rcases List.mem_append.mp hp with hp | hp
        · rcases List.mem_append.mp hp with hp | hp
          · exact .tail _ (oth_in (hsub p (by simp [hp])) (m1 p hp))
          · rw [List.mem_singleton.mp hp]; exact .head _
        · exact .tail _ (oth_in (hsub p (by simp [hp])) (m4 p hp))
  · intro p hp
    rcases List.mem_cons.mp hp with rfl | hp
    · exact hI (ra, listOf (refs (ros ++ [(a, rObj [c] n t1 t2 k')])).toArray k) List.mem_cons_self
    · rcases List.mem_append.mp hp with hp | hp
      · rcases List.mem_append.mp hp with hp | hp
        · exact hI p (by simp [hp])
        · rw [List.mem_singleton.mp hp]
          exact hI (a, rObj [c] n t1 t2 k') (by simp)
      · exact hI p (by simp [hp])
  · rw [runs_take hc, hrs, addS_snoc, if_pos rfl]
    exact ro.snoc a t1 t3 k' [c] (n + 1)
end
section -- G9
open PySem PySem.W PyProof.Rows PySem.Calls
set_option maxRecDepth 100000
section
variable {w : World} {A : Around} {cn : Str} {cs : Scope} {L a : Addr} {cd : Value} {h₀ hp : Heap} {gn : Array GenState} {dr : Drawn} {tk : Nat} {os : OsState} {fl : List (Str × Value)} {news : List (Addr × Obj)} {Q : Flow → Shared → Prop}
/-- a for over a range -/
theorem iterRC {x : Str} {body : List Stmt} {r : Addr} {n : Nat} {t u v : Tok} (hh : A.handled = none) (hr : IsRange hp r 0 (n : Nat) 1 t u v) (hn : n ≤ 100000)
    (J : Nat → List (Str × Value) → List (Addr × Obj) → Prop) (F : Fr h₀ L hp (lk fl)) (N : News h₀ L hp news) (h0 : J 0 fl news)
    (turn : ∀ I i t fl₁ news₁ h tk own, i < n → J i fl₁ news₁ → (∀ p ∈ news₁, p.1 ≠ I) → (∀ p ∈ own, p.1 = I) →
      Fr h₀ L h (lk (up x (.int (i : Nat) t) fl₁)) → News h₀ L h (own ++ news₁) → wpAny (Mo w) A (execs body (envOfC cn cs L a cd)) (Turn gn dr os h₀ L I own (J (i + 1)) Q) (fun _ _ => False) ⟨h, gn, dr, tk, os⟩)
    (done : ∀ fl₁ news₁ h tk, J n fl₁ news₁ → Fr h₀ L h (lk fl₁) → News h₀ L h news₁ → Q .next ⟨h, gn, dr, tk, os⟩) :
    wpAny (Mo w) A (pyIter (.ref r)) (fun it s₂ => LoopAtV pE w A h₀ (envOfC cn cs L a cd) x body Q (fun _ _ => False) it s₂) (fun _ _ => False) ⟨hp, gn, dr, tk, os⟩ := by
  have hI := fresh_none F
  have hsz : Builtin.Range.rangeSize 0 (n : Nat) 1 = (n : Int) := by rw [rangeSize_nat]; omega
  refine wpAny_pyIter_range (s := ⟨hp, gn, dr, tk, os⟩) hr (small_one (by omega) (by omega) (by omega) (by omega)) ?_
  rw [hsz]
  refine loopAtC (I := hp.objs.size) (Walks.range hh hp.objs.size 0 1 n) ?_ hI J (fresh_ne N) ?_ (F.push _) (newsPush N _) h0 ?_ ?_
  · intro hm
    exact absurd (frame_lt F) (List.mem_singleton.mp hm ▸ Nat.lt_irrefl _)
  · have := Heap.get?_push_size hp (o := { cls := .type "range_iterator", data := .fields #[rawInt 0, rawInt (n : Int), rawInt 1] }) rfl
    simpa using this
  · intro i v fl₁ news₁ h tk own hi hP hJ hn1 hfp hown hst F₁ N₁
    obtain ⟨t', rfl⟩ := hP
    refine turn _ i t' fl₁ news₁ h tk own hi hJ hn1 (fun p hp => by simpa using hfp p hp) ?_ N₁
    have e : (0 : Int) + (i : Int) * 1 = (i : Nat) := by omega
    rw [e] at F₁
    exact F₁
  · intro fl₁ news₁ h tk hJ _ F₁ N₁
    exact done fl₁ news₁ h tk hJ F₁ N₁
end
end
section -- P1
open PySem PySem.W
set_option maxRecDepth 100000
set_option linter.unusedVariables false
theorem tok_mem {l : List Nat} (h : (tok l).isSome = true) : ∃ v, (l, v) ∈ tokL := by
  obtain ⟨v, hv⟩ := Option.isSome_iff_exists.mp h
  refine ⟨v, ?_⟩
  unfold tok at hv
  revert hv
  generalize tokL = q
  induction q with
  | nil => intro h; cases h
  | cons p q ih =>
    obtain ⟨a, u⟩ := p
    rw [List.lookup_cons]
    by_cases e : l = a
    · subst e; simp
      intro e; exact .inl e.symm
    · rw [beq_eq_false_iff_ne.mpr e]
      intro h
      exact List.mem_cons_of_mem _ (ih h)
noncomputable def shp (l : List Nat) : Bool := match l with
  | [x, y, z] => (decide (x = 46) && decide (y = 46) && decide (z = 46)) || (decide (x = y) && decide (x ∈ dbS) && decide (z = 61) && decide (x ≠ 61))
  | [x, y] => (decide (x = y) && decide (x ∈ dbS)) || (decide (y = 61) && decide (x ∈ eqS)) || (decide (x = 45) && decide (y = 62))
  | _ => true
theorem shp_all : (tokL.all fun p => shp p.1) = true := by decide +kernel
theorem shp_tok {l : List Nat} (h : (tok l).isSome = true) : shp l = true := by
  obtain ⟨v, hv⟩ := tok_mem h
  exact List.all_eq_true.mp shp_all _ hv
theorem tok3n {x y z : Nat} (h1 : ¬ (x = 46 ∧ y = 46 ∧ z = 46)) (h2 : ¬ (x = y ∧ x ∈ dbS ∧ z = 61 ∧ x ≠ 61)) : tok [x, y, z] = none := by
  cases h : tok [x, y, z] with
  | none => rfl
  | some v =>
    exfalso
    have e := shp_tok (l := [x, y, z]) (by rw [h]; rfl)
    unfold shp at e
    simp only [Bool.or_eq_true, Bool.and_eq_true, decide_eq_true_eq] at e
    rcases e with ⟨⟨a, b⟩, c⟩ | ⟨⟨⟨a, b⟩, c⟩, d⟩
    · exact h1 ⟨a, b, c⟩
    · exact h2 ⟨a, b, c, d⟩
theorem tok2n {x y : Nat} (h1 : ¬ (x = y ∧ x ∈ dbS)) (h2 : eatB x [y] = false) : tok [x, y] = none := by
  cases h : tok [x, y] with
  | none => rfl
  | some v =>
    exfalso
    have e := shp_tok (l := [x, y]) (by rw [h]; rfl)
    unfold shp at e
    simp only [Bool.or_eq_true, Bool.and_eq_true, decide_eq_true_eq] at e
    unfold eatB at h2
    simp only [Bool.or_eq_false_iff, Bool.and_eq_false_iff, decide_eq_false_iff_not, List.cons.injEq, and_true] at h2
    rcases e with (⟨a, b⟩ | ⟨a, b⟩) | ⟨a, b⟩
    · exact h1 ⟨a, b⟩
    · rcases h2.1 with q | q
      · exact q a
      · exact q b
    · rcases h2.2 with q | q
      · exact q b
      · exact q a
theorem tokN_eq {p : List Nat} (h : (tok p).isSome = true) : tok p = some (tokN p) := by
  obtain ⟨v, hv⟩ := Option.isSome_iff_exists.mp h
  rw [tokN, hv]; rfl
theorem rdt1 {c : Nat} {l o : List Nat} (hc : (tok [c]).isSome = true) (hl : l = [] ∨ ∃ x r, l = x :: r ∧ tok [c, x] = none ∧ ∀ y r', r = y :: r' → tok [c, x, y] = none) (h : Rd 0 l o) : Rd 0 (c :: l) (tokN [c] :: o) := by
  rcases hl with rfl | ⟨x, r, rfl, h2, h3⟩
  · cases h with
    | tok a => exact absurd rfl a
    | nil => exact .tok (k := 2) (v := tokN [c]) (by simp) (by simp [szD, hc]) (tokN_eq hc) .nil
  · refine .tok (k := 0) (v := tokN [c]) (by simp) ?_ (tokN_eq hc) h
    have h3' : tok ((c :: x :: r).take 3) = none := by
      cases r with
      | nil => exact h2
      | cons y r => exact h3 y r rfl
    have h2' : tok ((c :: x :: r).take 2) = none := h2
    have h1' : (tok ((c :: x :: r).take 1)).isSome = true := hc
    simp only [szD, h3', h2', h1', Option.isSome_none, Bool.false_eq_true, if_false, if_true]
theorem rdt2 {a b : Nat} {l o : List Nat} (hc : (tok [a, b]).isSome = true) (hl : l = [] ∨ ∃ x r, l = x :: r ∧ tok [a, b, x] = none) (h : Rd 0 l o) : Rd 0 (a :: b :: l) (tokN [a, b] :: o) := by
  rcases hl with rfl | ⟨x, r, rfl, h3⟩
  · cases h with
    | tok a => exact absurd rfl a
    | nil => exact .tok (k := 2) (v := tokN [a, b]) (by simp) (by simp [szD, hc]) (tokN_eq hc) .nil
  · refine .tok (k := 1) (v := tokN [a, b]) (by simp) ?_ (tokN_eq hc) h
    have h3' : tok ((a :: b :: x :: r).take 3) = none := h3
    have h2' : (tok ((a :: b :: x :: r).take 2)).isSome = true := hc
    simp only [szD, h3', h2', Option.isSome_none, Bool.false_eq_true, if_false, if_true]
theorem rdt3 {a b c : Nat} {l o : List Nat} (hc : (tok [a, b, c]).isSome = true) (h : Rd 0 l o) : Rd 0 (a :: b :: c :: l) (tokN [a, b, c] :: o) := by
  refine .tok (k := 2) (v := tokN [a, b, c]) (by simp) ?_ (tokN_eq hc) h
  have h2' : (tok ((a :: b :: c :: l).take 3)).isSome = true := hc
  simp only [szD, h2', if_true]
theorem one_ok : ∀ c ∈ sgs, (tok [c]).isSome = true := by decide +kernel
theorem two_ok : ∀ c ∈ dbS, (tok [c, c]).isSome = true := by decide +kernel
theorem eat2_ok {c b : Nat} (h : eatB c [b] = true) : (tok [c, b]).isSome = true := by
  unfold eatB at h
  simp only [Bool.or_eq_true, Bool.and_eq_true, decide_eq_true_eq, List.cons.injEq, and_true] at h
  rcases h with ⟨rfl, h⟩ | ⟨rfl, rfl⟩
  · revert h
    exact (show ∀ c ∈ eqS, (tok [c, 61]).isSome = true by decide +kernel) c
  · decide +kernel
theorem eat3_ok {c b : Nat} (hc : c ∈ dbS) (h : eatB c [b] = true) : (tok [c, c, b]).isSome = true := by
  unfold eatB at h
  simp only [Bool.or_eq_true, Bool.and_eq_true, decide_eq_true_eq, List.cons.injEq, and_true] at h
  rcases h with ⟨rfl, h⟩ | ⟨rfl, rfl⟩
  · revert h
    exact (show ∀ c ∈ dbS, c ∈ eqS → (tok [c, c, 61]).isSome = true by decide +kernel) c hc
  · revert hc; decide
/-- what stands behind a run -/
inductive Nx (c : Nat) : List Nat → Prop
  | nil : Nx c []
  | cons {b : Nat} {r : List Nat} : b ≠ c → eatB c [b] = false → Nx c (b :: r)
theorem nx1 {c : Nat} {t : List Nat} (h : Nx c t) : t = [] ∨ ∃ x r, t = x :: r ∧ tok [c, x] = none ∧ ∀ y r', r = y :: r' → tok [c, x, y] = none := by
  cases h with
  | nil => exact .inl rfl
  | cons h1 h2 => exact .inr ⟨_, _, rfl, tok2n (fun e => h1 e.1.symm) h2, fun y _ _ => tok3n (fun e => h1 (e.2.1.trans e.1.symm)) fun e => h1 e.1.symm⟩
theorem nx2 {c : Nat} {t : List Nat} (hc : c ∈ dbS) (h : Nx c t) : t = [] ∨ ∃ x r, t = x :: r ∧ tok [c, c, x] = none := by
  cases h with
  | nil => exact .inl rfl
  | @cons b r h1 h2 =>
    refine .inr ⟨_, _, rfl, tok3n (fun e => h1 (e.2.2.trans e.1.symm)) fun e => ?_⟩
    obtain ⟨_, _, rfl, h61⟩ := e
    have : c ∈ eqS := (show ∀ c ∈ dbS, c ≠ 61 → c ∈ eqS by decide) c hc h61
    simp [eatB, this] at h2
theorem many1 {c : Nat} (h1 : c ≠ 46) (h2 : c ∉ dbS) : manyOf c = 1 := by rw [manyOf, if_neg h1, if_neg h2]
theorem many2 {c : Nat} (h2 : c ∈ dbS) : manyOf c = 2 := by
  rw [manyOf, if_neg, if_pos h2]
  rintro rfl
  revert h2; decide
theorem pcs1 {c : Nat} (n : Nat) (h1 : c ≠ 46) (h2 : c ∉ dbS) : pcs c n = List.replicate n [c] := by
  rw [pcs, many1 h1 h2]; simp [Nat.mod_one]
theorem pcs2 {c : Nat} (n : Nat) (h2 : c ∈ dbS) : pcs c n = List.replicate (n / 2) [c, c] ++ List.replicate (n % 2) [c] := by
  rw [pcs, many2 h2]; rfl
theorem pcs3 (n : Nat) : pcs 46 n = List.replicate (n / 3) [46, 46, 46] ++ List.replicate (n % 3) [46] := rfl
theorem rep1 {c : Nat} (hs : c ∈ sgs) (h1 : c ≠ 46) (h2 : c ∉ dbS) {t o : List Nat} (ht : t = [] ∨ ∃ x r, t = x :: r ∧ tok [c, x] = none ∧ ∀ y r', r = y :: r' → tok [c, x, y] = none) (h : Rd 0 t o) : ∀ n, Rd 0 (List.replicate n c ++ t) (List.replicate n (tokN [c]) ++ o)
  | 0 => h
  | 1 => rdt1 (one_ok c hs) ht h
  | n + 2 => by
    have ih := rep1 hs h1 h2 ht h (n + 1)
    refine rdt1 (one_ok c hs) (.inr ⟨c, List.replicate n c ++ t, rfl, tok2n (fun e => h2 e.2) ?_, fun y _ _ => tok3n (fun e => h1 e.1) fun e => h2 e.2.1⟩) ih
    unfold eatB
    simp only [Bool.or_eq_false_iff, Bool.and_eq_false_iff, decide_eq_false_iff_not, List.cons.injEq, and_true]
    refine ⟨.inl ?_, .inl ?_⟩ <;> (rintro rfl; exact h2 (by decide))
theorem rep2 {c : Nat} (h2 : c ∈ dbS) {t o : List Nat} (ht : t = [] ∨ ∃ x r, t = x :: r ∧ tok [c, c, x] = none) (h : Rd 0 t o) : ∀ n, Rd 0 (List.replicate (2 * n) c ++ t) (List.replicate n (tokN [c, c]) ++ o)
  | 0 => h
  | 1 => rdt2 (two_ok c h2) ht h
  | n + 2 => by
    have ih := rep2 h2 ht h (n + 1)
    refine rdt2 (two_ok c h2) (.inr ⟨c, List.replicate (2 * n + 1) c ++ t, ?_, tok3n (fun e => ?_) fun e => e.2.2.2 e.2.2.1⟩) ih
    · rfl
    · obtain ⟨rfl, _⟩ := e; revert h2; decide
theorem rep3 {t o : List Nat} (h : Rd 0 t o) : ∀ n, Rd 0 (List.replicate (3 * n) 46 ++ t) (List.replicate n (tokN [46, 46, 46]) ++ o)
  | 0 => h
  | n + 1 => rdt3 (by decide +kernel) (rep3 h n)
theorem rest1 {c : Nat} (hs : c ∈ sgs) {t o : List Nat} (ht : Nx c t) (h : Rd 0 t o) : Rd 0 (c :: t) (tokN [c] :: o) := rdt1 (one_ok c hs) (nx1 ht) h
theorem plRunB {c : Nat} (hs : c ∈ sgs) (n : Nat) {t o : List Nat} (ht : Nx c t) (h : Rd 0 t o) : Rd 0 (List.replicate n c ++ t) ((pcs c n).map tokN ++ o) := by
  by_cases h1 : c = 46
  · subst h1
    rw [pcs3, List.map_append, List.map_replicate, List.map_replicate, List.append_assoc]
    have hn : n = 3 * (n / 3) + n % 3 := (Nat.div_add_mod n 3).symm
    have e : List.replicate n 46 ++ t = List.replicate (3 * (n / 3)) 46 ++ (List.replicate (n % 3) 46 ++ t) := by
      rw [← List.append_assoc, List.replicate_append_replicate, ← hn]
    rw [e]
    refine rep3 ?_ _
    have hm : n % 3 = 0 ∨ n % 3 = 1 ∨ n % 3 = 2 := by omega
    rcases hm with e | e | e <;> rw [e]
    · exact h
    · exact rest1 hs ht h
    · refine rdt1 (one_ok 46 hs) (.inr ⟨46, t, rfl, by decide +kernel, fun y r' e => tok3n (fun e2 => ?_) fun e2 => absurd e2.2.1 (by decide)⟩) (rest1 hs ht h)
      cases ht with
      | nil => cases e
      | cons q _ => cases e; exact q e2.2.2
  · by_cases h2 : c ∈ dbS
    · rw [pcs2 n h2, List.map_append, List.map_replicate, List.map_replicate, List.append_assoc]
      have hn : n = 2 * (n / 2) + n % 2 := (Nat.div_add_mod n 2).symm
      have e : List.replicate n c ++ t = List.replicate (2 * (n / 2)) c ++ (List.replicate (n % 2) c ++ t) := by
        rw [← List.append_assoc, List.replicate_append_replicate, ← hn]
      rw [e]
      have hm : n % 2 = 0 ∨ n % 2 = 1 := by omega
      rcases hm with e | e <;> rw [e]
      · exact rep2 h2 (nx2 h2 ht) h _
      · refine rep2 h2 (.inr ⟨c, t, rfl, tok3n (fun e => h1 e.1) fun e => e.2.2.2 e.2.2.1⟩) (rest1 hs ht h) _
    · rw [pcs1 n h1 h2, List.map_replicate]
      exact rep1 hs h1 h2 (nx1 ht) h n
theorem fini_rep (n : Nat) (p b : List Nat) : fini (List.replicate (n + 1) p) b = List.replicate n p ++ [p ++ b] := by
  unfold fini
  rw [List.replicate_succ', List.dropLast_concat, List.getLastD_concat]
theorem fini_app (l : List (List Nat)) (p b : List Nat) : fini (l ++ [p]) b = l ++ [p ++ b] := by
  unfold fini
  rw [List.dropLast_concat, List.getLastD_concat]
theorem eat_facts {c b : Nat} (h : eatB c [b] = true) : c ≠ 46 ∧ c ≠ 61 ∧ b ≠ 46 ∧ b ≠ c := by
  unfold eatB at h
  simp only [Bool.or_eq_true, Bool.and_eq_true, decide_eq_true_eq, List.cons.injEq, and_true] at h
  rcases h with ⟨rfl, h⟩ | ⟨rfl, rfl⟩
  · refine ⟨?_, ?_, by decide, ?_⟩ <;> (rintro rfl; revert h; decide)
  · decide
theorem plRunC {c b : Nat} (hs : c ∈ sgs) (n : Nat) {t o : List Nat} (hb : eatB c [b] = true) (hn : 1 ≤ n) (h : Rd 0 t o) : Rd 0 (List.replicate n c ++ b :: t) ((fini (pcs c n) [b]).map tokN ++ o) := by
  obtain ⟨h1, h61, hb46, hbc⟩ := eat_facts hb
  have hC : Rd 0 (c :: b :: t) (tokN [c, b] :: o) := by
    refine rdt2 (eat2_ok hb) ?_ h
    cases t with
    | nil => exact .inl rfl
    | cons x r => exact .inr ⟨x, r, rfl, tok3n (fun e => h1 e.1) fun e => hbc e.1.symm⟩
  by_cases h2 : c ∈ dbS
  · rw [pcs2 n h2]
    have hn : n = 2 * (n / 2) + n % 2 := (Nat.div_add_mod n 2).symm
    have hm : n % 2 = 0 ∨ n % 2 = 1 := by omega
    rcases hm with e | e <;> rw [e]
    · obtain ⟨q, hq⟩ : ∃ q, n / 2 = q + 1 := ⟨n / 2 - 1, by omega⟩
      rw [hq, List.replicate_zero, List.append_nil, fini_rep, List.map_append, List.map_replicate, List.append_assoc]
      have e2 : List.replicate n c ++ b :: t = List.replicate (2 * q) c ++ (c :: c :: b :: t) := by
        rw [show n = 2 * q + 2 by omega, ← List.replicate_append_replicate, List.append_assoc]; rfl
      rw [e2]
      refine rep2 h2 (.inr ⟨c, c :: b :: t, rfl, tok3n (fun e => h1 e.1) fun e => e.2.2.2 e.2.2.1⟩) ?_ q
      exact rdt3 (eat3_ok h2 hb) h
    · rw [show List.replicate 1 [c] = [[c]] from rfl, fini_app, List.map_append, List.map_replicate, List.append_assoc]
      have e2 : List.replicate n c ++ b :: t = List.replicate (2 * (n / 2)) c ++ (c :: b :: t) := by
        rw [show n = 2 * (n / 2) + 1 by omega, ← List.replicate_append_replicate, List.append_assoc]
        rw [show (2 * (n / 2) + 1) / 2 = n / 2 by omega]; rfl
      rw [e2]
      exact rep2 h2 (.inr ⟨c, b :: t, rfl, tok3n (fun e => h1 e.1) fun e => e.2.2.2 e.2.2.1⟩) hC _
  · obtain ⟨q, rfl⟩ : ∃ q, n = q + 1 := ⟨n - 1, by omega⟩
    rw [pcs1 _ h1 h2, fini_rep, List.map_append, List.map_replicate, List.append_assoc]
    have e2 : List.replicate (q + 1) c ++ b :: t = List.replicate q c ++ (c :: b :: t) := by
      rw [← List.replicate_append_replicate, List.append_assoc]; rfl
    rw [e2]
    refine rep1 hs h1 h2 (.inr ⟨c, b :: t, rfl, tok2n (fun e => h2 e.2) ?_, fun y r' e => ?_⟩) hC q
    · unfold eatB
      simp only [Bool.or_eq_false_iff, Bool.and_eq_false_iff, decide_eq_false_iff_not, List.cons.injEq, and_true]
      refine ⟨.inl ?_, .inl ?_⟩ <;> (rintro rfl; exact h2 (by decide))
    · exact tok3n (fun e => h1 e.1) fun e => h2 e.2.1
theorem pcs_nil {c n : Nat} : pcs c n = [] ↔ n = 0 := by
  constructor
  · intro h
    unfold pcs at h
    simp only [List.append_eq_nil_iff, List.replicate_eq_nil_iff] at h
    have := Nat.div_add_mod n (manyOf c)
    rw [h.1, h.2] at this
    omega
  · rintro rfl
    simp [pcs]
noncomputable def flat (rs : List (List Nat × Nat)) : List Nat := rs.flatMap fun p => (List.replicate p.2 p.1).flatten
theorem flat_cons (c n : Nat) (rs : List (List Nat × Nat)) : flat (([c], n) :: rs) = List.replicate n c ++ flat rs := by
  unfold flat
  rw [List.flatMap_cons]
  simp
/-- neighbours differ -/
noncomputable def Dist : List (List Nat × Nat) → Prop
  | p :: q :: r => p.1 ≠ q.1 ∧ Dist (q :: r)
  | _ => True
theorem plainL : ∀ (N : Nat) (rs : List (List Nat × Nat)), rs.length = N → OkT 0 rs → Dist rs → Rd 0 (flat rs) ((cntGo rs).map tokN) := by
  intro N
  induction N with
  | zero => intro rs hN h _; cases h <;> cases hN
  | succ N plainL =>
  intro rs hN h hD
  cases h with
  | nil =>
    rw [show flat [([], 0)] = [] from rfl, cntGo]
    · exact .nil
    · intro c n b m r e; simp at e
  | @cons _ c n r hc _ hn200 hr =>
    rw [flat_cons]
    cases hr with
    | nil =>
      rw [cntGo, if_neg (by simp [eatB]), List.map_append]
      refine plRunB hc n ?_ ?_
      · exact .nil
      · exact plainL [([], 0)] (by simp at hN ⊢; omega) (.nil 0) trivial
    | @cons _ b m r' hb hm hm2 hr' =>
      have hbc : b ≠ c := fun e => hD.1 (by rw [e])
      rw [cntGo]
      by_cases he : pcs c n ≠ [] ∧ eatB c [b] = true
      · rw [if_pos he, List.map_append, flat_cons]
        obtain ⟨k, rfl⟩ : ∃ k, m = k + 1 := ⟨m - 1, by omega⟩
        have hn0 : n ≠ 0 := fun e => he.1 (pcs_nil.mpr e)
        refine plRunC hc n he.2 (by omega) ?_
        show Rd 0 (List.replicate k b ++ flat r') _
        rw [← flat_cons]
        refine plainL (([b], k + 1 - 1) :: r') (by simpa using hN) (.cons hb (Nat.zero_le _) (by omega) hr') ?_
        cases hr' with
        | nil => exact ⟨(hD.2).1, trivial⟩
        | cons => exact hD.2
      · rw [if_neg he, List.map_append]
        have ih := plainL (([b], m) :: r') (by simpa using hN) (.cons hb (Nat.zero_le _) hm2 hr') hD.2
        by_cases hn0 : n = 0
        · subst hn0
          rw [pcs_nil.mpr rfl]
          exact ih
        · refine plRunB hc n ?_ ih
          rw [flat_cons]
          obtain ⟨k, rfl⟩ : ∃ k, m = k + 1 := ⟨m - 1, by omega⟩
          refine .cons hbc ?_
          cases h : eatB c [b] with
          | false => rfl
          | true => exact absurd ⟨fun e => hn0 (pcs_nil.mp e), h⟩ he
theorem flat_app (a b : List (List Nat × Nat)) : flat (a ++ b) = flat a ++ flat b := by unfold flat; rw [List.flatMap_append]
/-- the runs of a text -/
structure Rns (text : List Nat) (rs : List (List Nat × Nat)) : Prop where
  eqn : flat rs = text
  dist : Dist (rs ++ [([], 0)])
  ok : ∀ p ∈ rs, ∃ c n, p = ([c], n) ∧ c ∈ sgs ∧ 1 ≤ n ∧ n ≤ text.length
theorem dist_snoc {s : List Nat} {n n' : Nat} : ∀ {r : List (List Nat × Nat)} {t : List (List Nat × Nat)}, Dist (r ++ (s, n) :: t) → Dist (r ++ [(s, n')])
  | [], _, _ => trivial
  | [p], _, h => ⟨h.1, trivial⟩
  | p :: q :: r, t, h => ⟨h.1, dist_snoc (r := q :: r) h.2⟩
theorem dist_push {s s' : List Nat} {n n' m' : Nat} (hs : s ≠ s') (hs' : s' ≠ []) : ∀ {r : List (List Nat × Nat)} {t : List (List Nat × Nat)}, Dist (r ++ (s, n) :: t) → Dist (r ++ [(s, n'), (s', m'), ([], 0)])
  | [], _, _ => ⟨hs, hs', trivial⟩
  | [p], _, h => ⟨h.1, hs, hs', trivial⟩
  | p :: q :: r, t, h => ⟨h.1, dist_push hs hs' (r := q :: r) h.2⟩
theorem dist_end {s : List Nat} {n n' : Nat} (hs : s ≠ []) : ∀ {r : List (List Nat × Nat)} {t : List (List Nat × Nat)}, Dist (r ++ (s, n) :: t) → Dist (r ++ [(s, n'), ([], 0)])
  | [], _, _ => ⟨hs, trivial⟩
  | [p], _, h => ⟨h.1, hs, trivial⟩
  | p :: q :: r, t, h => ⟨h.1, dist_end hs (r := q :: r) h.2⟩
theorem Rns.snoc {text : List Nat} {rs : List (List Nat × Nat)} {c : Nat} (h : Rns text rs) (hc : c ∈ sgs) : Rns (text ++ [c]) (addS rs c) := by
  rcases List.eq_nil_or_concat rs with rfl | ⟨r, p, rfl⟩
  · rw [addS_nil]
    have := h.eqn
    have e : text = [] := by rw [← this]; rfl
    subst e
    exact ⟨rfl, ⟨by simp, trivial⟩, fun p hp => by rw [List.mem_singleton.mp hp]; exact ⟨c, 1, rfl, hc, Nat.le_refl _, by simp⟩⟩
  · obtain ⟨s, n⟩ := p
    rw [List.concat_eq_append] at h ⊢
    rw [addS_snoc]
    obtain ⟨c', n', e, hc', h1, h2⟩ := h.ok (s, n) (by simp)
    cases e
    have hfl := h.eqn
    rw [flat_app, flat_cons, show flat [] = [] from rfl, List.append_nil] at hfl
    have hd : Dist (r ++ ([c'], n) :: [([], 0)]) := by have := h.dist; rwa [List.append_assoc] at this
    by_cases e : [c'] = [c]
    · rw [if_pos e]
      cases e
      refine ⟨?_, ?_, ?_⟩
      · rw [flat_app, flat_cons, show flat [] = [] from rfl, List.append_nil, List.replicate_succ', ← List.append_assoc, hfl]
      · rw [List.append_assoc]
        exact dist_end (by simp) hd
      · intro p hp
        rcases List.mem_append.mp hp with hp | hp
        · obtain ⟨c'', n'', e, a, b, d⟩ := h.ok p (List.mem_append_left _ hp)
          exact ⟨c'', n'', e, a, b, by simp; omega⟩
        · rw [List.mem_singleton.mp hp]
          exact ⟨c, n + 1, rfl, hc, by omega, by simp; omega⟩
    · rw [if_neg e]
      refine ⟨?_, ?_, ?_⟩
      · rw [flat_app, flat_cons, flat_cons, show flat [] = [] from rfl, List.append_nil, ← List.append_assoc, hfl]
        rfl
      · rw [List.append_assoc]
        exact dist_push e (by simp) hd
      · intro p hp
        rcases List.mem_append.mp hp with hp | hp
        · obtain ⟨c'', n'', e, a, b, d⟩ := h.ok p (List.mem_append_left _ hp)
          exact ⟨c'', n'', e, a, b, by simp; omega⟩
        · simp only [List.mem_cons, List.mem_nil_iff, or_false] at hp
          rcases hp with rfl | rfl
          · exact ⟨c', n, rfl, hc', h1, by simp; omega⟩
          · exact ⟨c, 1, rfl, hc, Nat.le_refl _, by simp⟩
theorem rns_fold : ∀ (l t : List Nat) (rs : List (List Nat × Nat)), Rns t rs → (∀ c ∈ l, c ∈ sgs) → Rns (t ++ l) (l.foldl addS rs)
  | [], t, rs, h, _ => by simpa using h
  | c :: l, t, rs, h, hl => by
    have := rns_fold l (t ++ [c]) (addS rs c) (h.snoc (hl c (.head _))) fun c' hc' => hl c' (List.mem_cons_of_mem _ hc')
    simpa using this
theorem rns_all (text : List Nat) (h : ∀ c ∈ text, c ∈ sgs) : Rns text (runsOf text) := by
  have := rns_fold text [] [] ⟨rfl, trivial, fun p hp => nomatch hp⟩ h
  rw [List.nil_append] at this
  exact this
theorem okt_of {k : Nat} (hk : k ≤ 200) : ∀ {rs : List (List Nat × Nat)}, (∀ p ∈ rs, ∃ c n, p = ([c], n) ∧ c ∈ sgs ∧ 1 ≤ n ∧ n ≤ k) → OkT 1 (rs ++ [([], 0)])
  | [], _ => .nil 1
  | p :: r, h => by
    obtain ⟨c, n, rfl, a, b, d⟩ := h p (.head _)
    exact .cons a b (by omega) (okt_of hk fun q hq => h q (List.mem_cons_of_mem _ hq))
theorem Rns.okt {text : List Nat} {rs : List (List Nat × Nat)} (h : Rns text rs) (hl : text.length ≤ 200) : OkT 1 (rs ++ [([], 0)]) := okt_of hl h.ok
/-- the plain text, cut, is what is counted -/
theorem plain_cut (text : List Nat) (h : ∀ c ∈ text, c ∈ sgs) (hl : text.length ≤ 200) : Rd 0 text (cnt text) := by
  have R := rns_all text h
  have := plainL _ _ rfl (R.okt hl).mono R.dist
  rw [flat_app, R.eqn, show flat [([], 0)] = [] from rfl, List.append_nil] at this
  exact this
theorem flat_len : ∀ rs : List (List Nat × Nat), (∀ p ∈ rs, ∃ c n, p = ([c], n) ∧ 1 ≤ n) → rs.length ≤ (flat rs).length
  | [], _ => Nat.zero_le _
  | p :: r, h => by
    obtain ⟨c, n, rfl, hn⟩ := h p (.head _)
    have ih := flat_len r fun q hq => h q (List.mem_cons_of_mem _ hq)
    rw [flat_cons, List.length_append, List.length_replicate, List.length_cons]
    omega
theorem Rns.len {text : List Nat} {rs : List (List Nat × Nat)} (h : Rns text rs) : rs.length ≤ text.length := by
  have := flat_len rs fun p hp => by
    obtain ⟨c, n, e, _, h1, _⟩ := h.ok p hp
    exact ⟨c, n, e, h1⟩
  rwa [h.eqn] at this
theorem Rns.ne {text : List Nat} {rs : List (List Nat × Nat)} (h : Rns text rs) (ht : text ≠ []) : rs ≠ [] := by
  rintro rfl
  exact ht h.eqn.symm
end
section -- F11
open PySem PySem.W PyProof.Rows PySem.Calls PySem.NumText
set_option maxRecDepth 100000
theorem cT1 {w : World} {A : Around} {g : Heap} {L I : Addr} {gn : Array GenState} {dr : Drawn} {os : OsState} {base own : List (Addr × Obj)} {Q : Flow → Shared → Prop} {h : Heap} {tk : Nat} {text : List Nat} {ra : Addr} {ros : List (Addr × Obj)} {k c : Nat} {t tc : Tok} {i : Nat}
    (hd : A.depth + 1 < recursionLimit) (hu : A.units + 16 * 1 < cLine) (hlen : text.length ≤ 200)
    (hc : text[i]? = some c) (ro : RO ros (runsOf (text.take i))) (hcn : ∀ p ∈ runsOf (text.take i), ∃ s n, p = ([s], n)) (hrl : (runsOf (text.take i)).length ≤ 1000) (ap : Apt ra ros base) (hown : ∀ p ∈ own, p.1 = I) (hio : ∃ io, (I, io) ∈ own) (hI : ∀ p ∈ cN ra ros base k, p.1 ≠ I)
    (F : Fr g L h (lk [(S "text", .str (T text) t), (S "runs", .ref ra), (S "sign", .str (T [c]) tc)])) (N : News g L h (own ++ cN ra ros base k)) :
    wpAny (Mo w) A (execs cnF1 (evC 81 143 142 L)) (Turn gn dr os g L I own (cJ1 text t ra base (i + 1)) Q) (fun _ _ => False) ⟨h, gn, dr, tk, os⟩ := by
  have hrl' : (refs ros).length ≤ 1000 := by rw [List.length_map, ro.len]; exact hrl
  refine wpAny_execs_cons ?_
  repeat walk_at "mc"
  refine newLt F N (by simp) fun ea h1 F1 N1 hna => ?_
  repeat walk_at "mc"
  refine neNil N1 (a := ra) (vs := refs ros) (n := k) (b := ea) (k := 0) (by simp) (by simp) (by omega) ?_
  repeat walk_at "mc"
  rcases List.eq_nil_or_concat (runsOf (text.take i)) with e | ⟨r1, p, e⟩
  · have hnil : ros = [] := by rw [e] at ro; cases ro; rfl
    refine itN (by simp [hnil]) ?_
    repeat walk_at "mc"
    refine itF ?_
    repeat walk_at "mc"
    refine gmApp N1 (l := ra) (vs := refs ros) (n := k) (by simp) ?_
    repeat walk_at "mc"
    refine newLt F1 N1 (by simp) fun na h2 F2 N2 hna2 => ?_
    repeat walk_at "mc"
    refine appN F2 N2 (vs := refs ros) (n := k) (by simp) (by omega) fun h3 F3 N3 => ?_
    repeat walk_at "mc"
    exact cPush (w := w) hc ro (by rw [e]; rfl) ap hown hio hI (fun p hp => .tail _ hp) hna2 F3 N3
  · rw [List.concat_eq_append] at e
    obtain ⟨s, n, rfl⟩ := hcn p (by rw [e]; simp)
    obtain ⟨o1, a, t1, t2, k', o2, rfl, ro1, ro2⟩ := ro.split e
    cases ro2
    refine itY (by simp) ?_
    repeat walk_at "mc"
    refine neg_int ?_
    repeat walk_at "mc"
    have hra1 : ∀ {q : Addr × Obj} {l : List (Addr × Obj)}, (ra, listOf (refs o1 ++ [Value.ref a]).toArray k) ∈ q :: (own ++ cN ra (o1 ++ [(a, rObj [s] n t1 t2 k')]) base k) := fun {q l} => by simp
    have ha1 : ∀ {q : Addr × Obj}, (a, rObj [s] n t1 t2 k') ∈ q :: (own ++ cN ra (o1 ++ [(a, rObj [s] n t1 t2 k')]) base k) := fun {q} => by simp
    refine itemNeg (vs := refs o1) (v := .ref a) (n := k) N1 (by simp) ?_ (by with_unfolding_all rfl)
    repeat walk_at "mc"
    refine itemL (k := 0) N1 ha1 (by omega) rfl ?_ (by with_unfolding_all rfl)
    repeat walk_at "mc"
    refine eqT [c] ?_ rfl
    repeat walk_at "mc"
    by_cases hsc : s = c
    · subst hsc
      refine itY (by simp) ?_
      repeat walk_at "mc"
      refine itT ?_
      repeat walk_at "mc"
      refine wpAny_AugAssign_Subscript_any ?_
      repeat walk_at "mc"
      refine neg_int ?_
      repeat walk_at "mc"
      refine itemNeg (vs := refs o1) (v := .ref a) (n := k) N1 (by simp) ?_ (by with_unfolding_all rfl)
      repeat walk_at "mc"
      refine getPos (k := 1) N1 ha1 (by omega) rfl ?_
      repeat walk_at "mc"
      refine setN (k := 1) F1 N1 ha1 (by omega) rfl fun h2 F2 N2 => ?_
      repeat walk_at "mc"
      exact cInc (w := w) (text := text) (k := k) (n := n) hc ro1 e ap hown hI (fun p hp => .tail _ hp) F2 N2
    · refine itN (by simpa using hsc) ?_
      repeat walk_at "mc"
      refine itF ?_
      repeat walk_at "mc"
      refine gmApp N1 (l := ra) (vs := refs o1 ++ [Value.ref a]) (n := k) (by simp) ?_
      repeat walk_at "mc"
      refine newLt F1 N1 (by simp) fun na h2 F2 N2 hna2 => ?_
      repeat walk_at "mc"
      refine appN F2 N2 (vs := refs o1 ++ [Value.ref a]) (n := k) (by simp) (by simp at hrl' ⊢; omega) fun h3 F3 N3 => ?_
      repeat walk_at "mc"
      exact cPush (w := w) hc ro (by rw [e, addS_snoc, if_neg (by simpa using hsc), List.append_assoc]; rfl) ap hown hio hI (fun p hp => .tail _ hp) hna2 F3 (by rw [show refs (o1 ++ [(a, rObj [s] n t1 t2 k')]) = refs o1 ++ [Value.ref a] by simp]; exact N3)
end
section -- F12
open PySem PySem.W PyProof.Rows PySem.Calls PySem.NumText
set_option maxRecDepth 100000
noncomputable def cnB2 : List Stmt := match cnF2 with | _ :: _ :: _ :: b => b | _ => []
noncomputable def cnB3 : List Stmt := match cnB2 with | _ :: _ :: b => b | _ => []
noncomputable def cnB4 : List Stmt := match cnB3 with | _ :: b => b | _ => []
noncomputable abbrev c2 (text : List Nat) (t : Tok) (ra ta pa ba : Addr) (c k mn : Nat) (ts tk_ tm : Tok) : List (Str × Value) :=
  [(S "text", .str (T text) t), (S "runs", .ref ra), (S "sign", .str (T [c]) ts), (S "told", .ref ta), (S "k", .int (k : Nat) tk_), (S "many", .int (mn : Nat) tm), (S "pieces", .ref pa), (S "behind", .ref ba)]
noncomputable def cJ2 (text : List Nat) (t : Tok) (ra ta : Addr) (base : List (Addr × Obj)) (kk : Nat) (out : List Nat) (N k : Nat) (fl : List (Str × Value)) (news : List (Addr × Obj)) : Prop :=
  ∃ v rest ros rs tvs t1 tn, fl = (S "text", .str (T text) t) :: (S "runs", .ref ra) :: (S "sign", v) :: (S "told", .ref ta) :: rest ∧ (rest = [] ∨ ∃ v1 v2 v3 v4, rest = [(S "k", v1), (S "many", v2), (S "pieces", v3), (S "behind", v4)]) ∧
    RO ros rs ∧ rs.length = N + 1 ∧ OkT 0 (rs.drop k) ∧ Apt ra ros base ∧ (∀ p ∈ cN ra ros base kk, p.1 ≠ ta) ∧ IntsAre tvs (iv t1) ∧ t1 ++ (cntGo (rs.drop k)).map tokN = out ∧ tvs.length ≤ 300 * k ∧ news = (ta, listOf tvs.toArray tn) :: cN ra ros base kk
theorem areStr {vs : List Value} {ns : List Str} (h : StrsAre vs ns) : AreOf ItemKind.str vs ns := by
  induction h with
  | nil => exact .nil
  | cons y t _ ih => exact .cons ⟨t, rfl⟩ ih
theorem cD {w : World} {A : Around} {g : Heap} {L I : Addr} {gn : Array GenState} {dr : Drawn} {os : OsState} {base own cur ros : List (Addr × Obj)} {Q : Flow → Shared → Prop} {h : Heap} {tk : Nat} {text out t1 : List Nat} {ra ta pa ba oa : Addr} {rs : List (List Nat × Nat)} {ps : List (List Nat)} {tvs pvs ovs : List Value} {c k mn tn pn ok N kk : Nat} {t ts tk_ tm : Tok} {co : Obj}
    (C : At w A L g) (hkN : k ≤ 200)
    (hov : StrsAre ovs (opL.map T)) (hcell : (L + 1, co) ∈ base) (hco : co.data = .cell (some (.ref oa))) (hoa : (oa, listOf ovs.toArray ok) ∈ base)
    (hpv : StrsAre pvs (ps.map T)) (hps : ∀ p ∈ ps, p ∈ opL) (hpl : ps.length ≤ 300) (hpa : (pa, listOf pvs.toArray pn) ∈ cur)
    (ro : RO ros rs) (hrs : rs.length = N + 1) (hok : OkT 0 (rs.drop (k + 1))) (ap : Apt ra ros base) (hta : ∀ p ∈ cN ra ros base kk, p.1 ≠ ta) (htv : IntsAre tvs (iv t1)) (hout : t1 ++ (ps.map tokN ++ (cntGo (rs.drop (k + 1))).map tokN) = out) (htl : tvs.length ≤ 300 * k)
    (hown : ∀ p ∈ own, p.1 = I) (hI : ∀ p ∈ (ta, listOf tvs.toArray tn) :: cN ra ros base kk, p.1 ≠ I)
    (hsub : ∀ p ∈ own ++ (ta, listOf tvs.toArray tn) :: cN ra ros base kk, p ∈ cur)
    (F : Fr g L h (lk (c2 text t ra ta pa ba c k mn ts tk_ tm))) (N1 : News g L h cur) :
    wpAny (Mo w) A (execs cnB4 (evC 81 143 142 L)) (Turn gn dr os g L I own (cJ2 text t ra ta base kk out N (k + 1)) Q) (fun _ _ => False) ⟨h, gn, dr, tk, os⟩ := by
  have hbc : ∀ p ∈ base, p ∈ cur := fun p hp => hsub p (by simp [hp])
  refine wpAny_execs_cons ?_
  repeat walk_at "mc"
  refine ListComp_DC (K := ItemKind.str) (pz := fun _ => true) (d := fun p => .int (7 + (opL.idxOf (Str.cps p).toList : Nat) : Int)) (cl := [(S "operators", L + 1)]) (h₀ := g) (L := L) (m := lk (c2 text t ra ta pa ba c k mn ts tk_ tm)) (news := cur) C.hh (by kernel_rfl) (by decide +kernel) (by kernel_rfl) (by decide +kernel) (by kernel_rfl) ?_ (by intro _; rfl)
  refine ldc (by assumption) rfl ?_ (by kernel_rfl) (by kernel_rfl) (by kernel_rfl)
  refine ⟨pa, pvs, ps.map T, rfl, isL N1 hpa, areStr hpv, by rw [sizeLine_eq, List.length_map]; omega, F, N1, ?_, ?_, ?_⟩
  · intro C' a v s₂ m₂ E' _ _ _ _ _
    rw [List.forIn_nil]
    exact wpAny_pure ⟨rfl, _, _, rfl, fun _ _ e => e⟩
  · rintro C' a v ⟨h2, g2, d2, tk2, o2⟩ m₂ E' ha ⟨tv, rfl⟩ _ hns hm hk2
    obtain ⟨p, hp, rfl⟩ := List.mem_map.mp ha
    refine wpAny_BinOp ?_
    refine wpAny_Constant_int ?_
    refine MethodCall_ ?_
    refine ldCellK (c := L + 1) (v := .ref oa) (by kernel_rfl) ⟨co, hk2 _ _ (N1 _ (hbc _ hcell)).1, hco⟩ ?_ (by kernel_rfl) (by kernel_rfl) (by kernel_rfl)
    have ho := hk2 _ _ (N1 _ (hbc _ hoa)).1
    refine getMethod_builtin ⟨_, ho, rfl⟩ PySem.F.plainAttrs_list PySem.F.slot_list_index PySem.F.type_list_index (fun a e => by cases e; exact ⟨_, ho, rfl⟩) ?_
    refine callWith_method1 ?_ (by rfl) (by rfl)
    refine spliced_more ?_ (by rfl)
    refine ldVarK hns hm ?_ (by kernel_rfl) (by kernel_rfl) (by kernel_rfl)
    refine spliced_none ?_
    refine idxS ho hov (hps p hp) ?_
    refine add_int ?_
    refine ⟨?_, _, _, rfl, fun _ _ e => e⟩
    exact .int _ _
  · intro D ys h' tk' F' N' hD hl hca
    have hin : (ta, listOf tvs.toArray tn) ∈ cur := hsub _ (by simp)
    have hys : IntsAre ys (iv (ps.map tokN)) := by
      have e : ((ps.map T).filter fun _ => true).map (fun p => PyData.int (7 + (opL.idxOf (Str.cps p).toList : Nat) : Int)) = (iv (ps.map tokN)).map PyData.int := by
        rw [List.filter_eq_self.mpr (fun _ _ => rfl), List.map_map, List.map_map, List.map_map]
        refine List.map_congr_left fun p hp => ?_
        have := op_tok p (hps p hp)
        simp only [Function.comp]
        rw [← this]
        simp
      rw [e] at hca
      exact IntsAre.ofCarried hca
    have hyl : ys.length = ps.length := by rw [Mine.IntsAre.len hys]; simp
    refine iaddW F' N' hin hl (by omega) fun h2 n2 F2 N2 => ?_
    repeat walk_at "mc"
    rename_i h3 F3 N3
    have F4 : Fr g L h3 (lk (c2 text t ra ta pa ba c k mn ts tk_ tm)) := F3
    have hnt : ∀ p ∈ own, p.1 ≠ ta := fun p hp e => hI (ta, listOf tvs.toArray tn) (.head _) (by rw [← e]; exact hown p hp)
    refine turn_next (fl' := c2 text t ra ta pa ba c k mn ts tk_ tm) (news' := (ta, listOf (tvs ++ ys).toArray n2) :: cN ra ros base kk) F4 (newsSub N3 ?_) ?_ ⟨_, _, ros, rs, tvs ++ ys, t1 ++ ps.map tokN, n2, rfl, .inr ⟨_, _, _, _, rfl⟩, ro, hrs, hok, ap, hta, ?_, ?_, ?_, rfl⟩
    · intro p hp
      rcases List.mem_append.mp hp with hp | hp
      · exact .tail _ (oth_in (hsub p (List.mem_append_left _ hp)) (hnt p hp))
      · rcases List.mem_cons.mp hp with rfl | hp
        · exact .head _
        · exact .tail _ (oth_in (hsub p (List.mem_append_right _ (.tail _ hp))) (hta p hp))
    · intro p hp
      rcases List.mem_cons.mp hp with rfl | hp
      · exact hI (ta, listOf tvs.toArray tn) (.head _)
      · exact hI p (.tail _ hp)
    · have : iv (t1 ++ ps.map tokN) = iv t1 ++ iv (ps.map tokN) := by simp [iv]
      rw [this]
      exact htv.append hys
    · rw [← hout, List.append_assoc]
    · rw [List.length_append]; omega
end
section -- F13
open PySem PySem.W PyProof.Rows PySem.Calls PySem.NumText
set_option maxRecDepth 100000
theorem strs_snoc_inv {y : Str} : ∀ {ns : List Str} {vs : List Value}, StrsAre vs (ns ++ [y]) → ∃ v1 t, vs = v1 ++ [Value.str y t] ∧ StrsAre v1 ns
  | [], _, .cons _ t .nil => ⟨[], t, rfl, .nil⟩
  | n :: ns, _, .cons _ t h => by
    obtain ⟨v1, t', rfl, h1⟩ := strs_snoc_inv h
    exact ⟨.str n t :: v1, t', rfl, .cons n t h1⟩
theorem fini_app' (l : List (List Nat)) (p b : List Nat) : fini (l ++ [p]) b = l ++ [p ++ b] := by
  unfold fini
  rw [List.dropLast_concat, List.getLastD_concat]
noncomputable def cnE : List Stmt := match cnB3 with | .If _ b _ _ :: _ => b | _ => []
theorem cEat {w : World} {A : Around} {g : Heap} {L : Addr} {gn : Array GenState} {dr : Drawn} {os : OsState} {cur : List (Addr × Obj)} {R : Flow → Shared → Prop} {h : Heap} {tk : Nat} {text : List Nat} {ra ta pa ba : Addr} {ps : List (List Nat)} {b : List Nat} {pvs : List Value} {c k mn pn m k2 : Nat} {t ts tk_ tm t1 t2 : Tok}
    (hu : A.units + 16 * 1 < cLine)
    (hpv : StrsAre pvs (ps.map T)) (hpn : ps ≠ []) (hpl : ∀ p ∈ ps, p.length ≤ 3) (hpa : (pa, listOf pvs.toArray pn) ∈ cur) (hba : (ba, rObj b m t1 t2 k2) ∈ cur) (hm : 1 ≤ m) (hbl : b.length ≤ 1) (hne : ba ≠ pa)
    (F : Fr g L h (lk (c2 text t ra ta pa ba c k mn ts tk_ tm))) (N1 : News g L h cur)
    (hR : ∀ h' tk' pvs' t3, StrsAre pvs' ((fini ps b).map T) → Fr g L h' (lk (c2 text t ra ta pa ba c k mn ts tk_ tm)) → News g L h' ((ba, rObj b (m - 1) t1 t3 k2) :: oth ba ((pa, listOf pvs'.toArray pn) :: oth pa cur)) → R .next ⟨h', gn, dr, tk', os⟩) :
    wpAny (Mo w) A (execs cnE (evC 81 143 142 L)) R (fun _ _ => False) ⟨h, gn, dr, tk, os⟩ := by
  obtain ⟨p1, p, rfl⟩ : ∃ p1 p, ps = p1 ++ [p] := by
    rcases List.eq_nil_or_concat ps with rfl | ⟨a, b, e⟩
    · exact absurd rfl hpn
    · exact ⟨a, b, by rw [e, List.concat_eq_append]⟩
  obtain ⟨pv1, tl, rfl, hp1⟩ : ∃ pv1 tl, pvs = pv1 ++ [Value.str (T p) tl] ∧ StrsAre pv1 (p1.map T) := strs_snoc_inv (by simpa using hpv)
  have hpl3 := hpl p (by simp)
  refine wpAny_execs_cons ?_
  repeat walk_at "mc"
  refine wpAny_AugAssign_Subscript_any ?_
  repeat walk_at "mc"
  refine neg_int ?_
  repeat walk_at "mc"
  refine getNeg (vs := pv1) (n := pn) N1 hpa ?_
  repeat walk_at "mc"
  refine itemL (k := 0) N1 hba (by omega) rfl ?_ (by with_unfolding_all rfl)
  repeat walk_at "mc"
  refine iaddT (by omega) fun t5 k5 => ?_
  repeat walk_at "mc"
  refine setL (vs := pv1) F N1 hpa (ki_setL_last _ _ _) fun h2 F2 N2 => ?_
  repeat walk_at "mc"
  refine wpAny_AugAssign_Subscript_any ?_
  repeat walk_at "mc"
  have hba2 : (ba, rObj b m t1 t2 k2) ∈ (pa, listOf (pv1 ++ [Value.str (T (p ++ b)) t5]).toArray pn) :: oth pa cur := .tail _ (oth_in hba hne)
  refine getPos (k := 1) N2 hba2 (by omega) rfl ?_
  repeat walk_at "mc"
  refine setN (k := 1) F2 N2 hba2 (by omega) rfl fun h3 F3 N3 => ?_
  repeat walk_at "mc"
  rw [show (m : Int) - 1 = ((m - 1 : Nat) : Int) by omega] at N3
  refine hR _ _ _ _ ?_ F3 N3
  rw [fini_app']
  have := Mine.StrsAre.snoc hp1 (T (p ++ b)) t5
  simpa using this
end
section -- F14
open PySem PySem.W PyProof.Rows PySem.Calls PySem.NumText
set_option maxRecDepth 100000
theorem pcs_mem {c n : Nat} {p : List Nat} (h : p ∈ pcs c n) : p = List.replicate (manyOf c) c ∨ p = [c] := by
  unfold pcs at h
  rcases List.mem_append.mp h with h | h
  · exact .inl (List.eq_of_mem_replicate h)
  · exact .inr (List.eq_of_mem_replicate h)
theorem op_one : ∀ c ∈ sgs, List.replicate (manyOf c) c ∈ opL ∧ [c] ∈ opL := by decide +kernel
theorem op_eat : ∀ c ∈ sgs, ∀ b ∈ [[61], [62]], eatB c b = true → List.replicate (manyOf c) c ++ b ∈ opL ∧ [c] ++ b ∈ opL := by decide +kernel
theorem op_len : ∀ p ∈ opL, p.length ≤ 3 := by decide +kernel
theorem pcs_op {c n : Nat} (hc : c ∈ sgs) : ∀ p ∈ pcs c n, p ∈ opL := fun p hp => by
  rcases pcs_mem hp with rfl | rfl
  · exact (op_one c hc).1
  · exact (op_one c hc).2
theorem eat_b {c : Nat} {b : List Nat} (h : eatB c b = true) : b ∈ [[61], [62]] := by
  unfold eatB at h
  simp only [Bool.or_eq_true, Bool.and_eq_true, decide_eq_true_eq] at h
  rcases h with ⟨rfl, _⟩ | ⟨rfl, _⟩ <;> simp
theorem fini_op {c n : Nat} {b : List Nat} (hc : c ∈ sgs) (hb : eatB c b = true) (hn : pcs c n ≠ []) : (∀ p ∈ fini (pcs c n) b, p ∈ opL) ∧ (fini (pcs c n) b).length = (pcs c n).length := by
  have hop := fun p => pcs_op (n := n) hc p
  have hmm := fun p => pcs_mem (c := c) (n := n) (p := p)
  revert hn hop hmm
  generalize pcs c n = ps
  intro hn hop hmm
  obtain ⟨p1, p, rfl⟩ : ∃ p1 p, ps = p1 ++ [p] := by
    rcases List.eq_nil_or_concat ps with rfl | ⟨a, b, e⟩
    · exact absurd rfl hn
    · exact ⟨a, b, by rw [e, List.concat_eq_append]⟩
  rw [fini_app']
  refine ⟨fun q hq => ?_, by simp⟩
  rcases List.mem_append.mp hq with hq | hq
  · exact hop q (List.mem_append_left _ hq)
  · rw [List.mem_singleton.mp hq]
    have := op_eat c hc b (eat_b hb) hb
    rcases hmm p (by simp) with rfl | rfl
    · exact this.1
    · exact this.2
theorem many_le : ∀ c, manyOf c = 1 ∨ manyOf c = 2 ∨ manyOf c = 3 := by
  intro c
  unfold manyOf
  split
  · simp
  · split <;> simp
theorem pcs_len (c n : Nat) : (pcs c n).length ≤ n := by
  unfold pcs
  rw [List.length_append, List.length_replicate, List.length_replicate]
  rcases many_le c with e | e | e <;> rw [e] <;> omega
set_option maxHeartbeats 2000000 in
theorem cC {w : World} {A : Around} {g : Heap} {L I : Addr} {gn : Array GenState} {dr : Drawn} {os : OsState} {base own cur o1 o2 : List (Addr × Obj)} {Q : Flow → Shared → Prop} {h : Heap} {tk : Nat} {text out t1 : List Nat} {ra ta pa ba oa aa : Addr} {r1 r : List (List Nat × Nat)} {b : List Nat} {tvs pvs ovs : List Value} {c k n m mn tn pn ok N kk k1 k2 : Nat} {t ts tk_ tm ta1 ta2 tb1 tb2 : Tok} {co : Obj}
    (C : At w A L g) (hu : A.units + 16 * 1 < cLine) (hkN : k ≤ 200) (hk : r1.length = k)
    (hov : StrsAre ovs (opL.map T)) (hcell : (L + 1, co) ∈ base) (hco : co.data = .cell (some (.ref oa))) (hoa : (oa, listOf ovs.toArray ok) ∈ base)
    (hpv : StrsAre pvs ((pcs c n).map T)) (hpa : (pa, listOf pvs.toArray pn) ∈ cur) (hpf : ∀ p ∈ own ++ (ta, listOf tvs.toArray tn) :: cN ra (o1 ++ (aa, rObj [c] n ta1 ta2 k1) :: (ba, rObj b m tb1 tb2 k2) :: o2) base kk, p.1 ≠ pa)
    (ro1 : RO o1 r1) (ro2 : RO o2 r) (hrs : (r1 ++ ([c], n) :: (b, m) :: r).length = N + 1) (hok : OkT 0 (([c], n) :: (b, m) :: r)) (ap : Apt ra (o1 ++ (aa, rObj [c] n ta1 ta2 k1) :: (ba, rObj b m tb1 tb2 k2) :: o2) base)
    (hta : ∀ p ∈ cN ra (o1 ++ (aa, rObj [c] n ta1 ta2 k1) :: (ba, rObj b m tb1 tb2 k2) :: o2) base kk, p.1 ≠ ta) (htv : IntsAre tvs (iv t1)) (hout : t1 ++ (cntGo (([c], n) :: (b, m) :: r)).map tokN = out) (htl : tvs.length ≤ 300 * k)
    (hown : ∀ p ∈ own, p.1 = I) (hI : ∀ p ∈ (ta, listOf tvs.toArray tn) :: cN ra (o1 ++ (aa, rObj [c] n ta1 ta2 k1) :: (ba, rObj b m tb1 tb2 k2) :: o2) base kk, p.1 ≠ I)
    (hsub : ∀ p ∈ own ++ (ta, listOf tvs.toArray tn) :: cN ra (o1 ++ (aa, rObj [c] n ta1 ta2 k1) :: (ba, rObj b m tb1 tb2 k2) :: o2) base kk, p ∈ cur)
    (F : Fr g L h (lk (c2 text t ra ta pa ba c k mn ts tk_ tm))) (N1 : News g L h cur) :
    wpAny (Mo w) A (execs cnB3 (evC 81 143 142 L)) (Turn gn dr os g L I own (cJ2 text t ra ta base kk out N (k + 1)) Q) (fun _ _ => False) ⟨h, gn, dr, tk, os⟩ := by
  obtain ⟨hc, hn200, hok1⟩ : c ∈ sgs ∧ n ≤ 200 ∧ OkT 1 ((b, m) :: r) := by
    cases hok with | cons a _ b d => exact ⟨a, b, d⟩
  have hpl := pcs_len c n
  have hba : (ba, rObj b m tb1 tb2 k2) ∈ cur := hsub _ (by simp)
  have hpvl : pvs.length = (pcs c n).length := by rw [Mine.StrsAre.len hpv, List.length_map]
  have hdr : ∀ m', (r1 ++ ([c], n) :: (b, m') :: r).drop (k + 1) = (b, m') :: r := fun m' => by
    rw [← hk, show r1 ++ ([c], n) :: (b, m') :: r = (r1 ++ [([c], n)]) ++ (b, m') :: r by simp, List.drop_left' (by simp)]
  have hbl : b.length ≤ 1 := by
    cases hok1 with
    | nil => simp
    | cons => simp
  have noeat : ∀ {cur' : List (Addr × Obj)} {h' : Heap} {tk' : Nat}, ¬ (pcs c n ≠ [] ∧ eatB c b = true) → (∀ p ∈ cur, p ∈ cur') → Fr g L h' (lk (c2 text t ra ta pa ba c k mn ts tk_ tm)) → News g L h' cur' →
      wpAny (Mo w) A (execs cnB4 (evC 81 143 142 L)) (Turn gn dr os g L I own (cJ2 text t ra ta base kk out N (k + 1)) Q) (fun _ _ => False) ⟨h', gn, dr, tk', os⟩ := by
    intro cur' h' tk' hne hcur F' N'
    refine cD (rs := r1 ++ ([c], n) :: (b, m) :: r) (ps := pcs c n) C hkN hov hcell hco hoa hpv (pcs_op hc) (by omega) (hcur _ hpa) (ro1.join (.cons aa ta1 ta2 k1 [c] n (.cons ba tb1 tb2 k2 b m ro2))) hrs (by rw [hdr]; exact hok1.mono) ap hta htv ?_ htl hown hI (fun p hp => hcur p (hsub p hp)) F' N'
    rw [hdr, ← hout, cntGo, if_neg hne, List.map_append]
  have eat : ∀ {cur' : List (Addr × Obj)} {h' : Heap} {tk' : Nat}, (pcs c n ≠ [] ∧ eatB c b = true) → (∀ p ∈ cur, p ∈ cur') → Fr g L h' (lk (c2 text t ra ta pa ba c k mn ts tk_ tm)) → News g L h' cur' →
      wpAny (Mo w) A (execs cnE (evC 81 143 142 L)) (fun f s' => match f with | .next => wpAny (Mo w) A (execs cnB4 (evC 81 143 142 L)) (Turn gn dr os g L I own (cJ2 text t ra ta base kk out N (k + 1)) Q) (fun _ _ => False) s' | f => Turn gn dr os g L I own (cJ2 text t ra ta base kk out N (k + 1)) Q f s') (fun _ _ => False) ⟨h', gn, dr, tk', os⟩ := by
    intro cur' h' tk' he hcur F' N'
    obtain ⟨hm1, hm200⟩ : 1 ≤ m ∧ OkT 0 ((b, m - 1) :: r) := by
      cases hok1 with
      | nil => exact absurd he.2 (by simp [eatB])
      | cons x y z w => exact ⟨y, .cons x (Nat.zero_le _) (by omega) w⟩
    have eq1 : ∀ o : Obj, o1 ++ (aa, rObj [c] n ta1 ta2 k1) :: (ba, o) :: o2 = (o1 ++ [(aa, rObj [c] n ta1 ta2 k1)]) ++ (ba, o) :: o2 := fun o => by simp
    have ap' := ap
    rw [eq1] at ap'
    obtain ⟨m1, m2, m3, m4⟩ := ap'.mid
    have hpb : pa ≠ ba := fun e => hpf (ba, rObj b m tb1 tb2 k2) (by simp) e.symm
    obtain ⟨fo1, fo2⟩ := fini_op (n := n) hc he.2 he.1
    refine cEat (ps := pcs c n) hu hpv he.1 (fun p hp => op_len p (pcs_op hc p hp)) (hcur _ hpa) (hcur _ hba) hm1 hbl (fun e => hpb e.symm) F' N' fun h3 tk3 pvs' t3 hpv' F3 N3 => ?_
    have eR : refs (o1 ++ (aa, rObj [c] n ta1 ta2 k1) :: (ba, rObj b (m - 1) tb1 t3 k2) :: o2) = refs (o1 ++ (aa, rObj [c] n ta1 ta2 k1) :: (ba, rObj b m tb1 tb2 k2) :: o2) := by simp
    have hsub' : ∀ p ∈ own ++ (ta, listOf tvs.toArray tn) :: cN ra (o1 ++ (aa, rObj [c] n ta1 ta2 k1) :: (ba, rObj b (m - 1) tb1 t3 k2) :: o2) base kk, p ∈ (ba, rObj b (m - 1) tb1 t3 k2) :: oth ba ((pa, listOf pvs'.toArray pn) :: oth pa cur') := by
      intro p hp
      have go : p ∈ own ++ (ta, listOf tvs.toArray tn) :: cN ra (o1 ++ (aa, rObj [c] n ta1 ta2 k1) :: (ba, rObj b m tb1 tb2 k2) :: o2) base kk → p.1 ≠ ba → p ∈ (ba, rObj b (m - 1) tb1 t3 k2) :: oth ba ((pa, listOf pvs'.toArray pn) :: oth pa cur') := fun h1 h2 => .tail _ (oth_in (.tail _ (oth_in (hcur _ (hsub p h1)) (hpf p h1))) h2)
      rcases List.mem_append.mp hp with hp | hp
      · exact go (List.mem_append_left _ hp) fun e => hI (ba, rObj b m tb1 tb2 k2) (by simp) (by rw [← hown p hp, e])
      · rcases List.mem_cons.mp hp with rfl | hp
        · exact go (by simp) fun e => hta (ba, rObj b m tb1 tb2 k2) (by simp) e.symm
        · rcases List.mem_cons.mp hp with rfl | hp
          · exact go (List.mem_append_right _ (.tail _ (by rw [eR]; exact .head _))) m3
          · rcases List.mem_append.mp hp with hp | hp
            · rw [eq1] at hp
              rcases List.mem_append.mp hp with hp | hp
              · refine go ?_ (m1 p hp)
                have : p ∈ o1 ++ (aa, rObj [c] n ta1 ta2 k1) :: (ba, rObj b m tb1 tb2 k2) :: o2 := by rw [eq1]; exact List.mem_append_left _ hp
                exact List.mem_append_right _ (.tail _ (.tail _ (List.mem_append_left _ this)))
              · rcases List.mem_cons.mp hp with rfl | hp
                · exact .head _
                · refine go ?_ (m2 p hp)
                  have : p ∈ o1 ++ (aa, rObj [c] n ta1 ta2 k1) :: (ba, rObj b m tb1 tb2 k2) :: o2 := by simp [hp]
                  exact List.mem_append_right _ (.tail _ (.tail _ (List.mem_append_left _ this)))
            · exact go (List.mem_append_right _ (.tail _ (.tail _ (List.mem_append_right _ hp)))) (m4 p hp)
    have hcN : ∀ p ∈ cN ra (o1 ++ (aa, rObj [c] n ta1 ta2 k1) :: (ba, rObj b (m - 1) tb1 t3 k2) :: o2) base kk, ∃ q ∈ cN ra (o1 ++ (aa, rObj [c] n ta1 ta2 k1) :: (ba, rObj b m tb1 tb2 k2) :: o2) base kk, p.1 = q.1 := by
      intro p hp
      rcases List.mem_cons.mp hp with rfl | hp
      · exact ⟨_, .head _, rfl⟩
      · rcases List.mem_append.mp hp with hp | hp
        · rw [eq1] at hp
          rcases List.mem_append.mp hp with hp | hp
          · refine ⟨p, .tail _ (List.mem_append_left _ ?_), rfl⟩
            rw [eq1]; exact List.mem_append_left _ hp
          · rcases List.mem_cons.mp hp with rfl | hp
            · exact ⟨(ba, rObj b m tb1 tb2 k2), by simp, rfl⟩
            · exact ⟨p, by simp [hp], rfl⟩
        · exact ⟨p, by simp [hp], rfl⟩
    refine cD (rs := r1 ++ ([c], n) :: (b, m - 1) :: r) (ps := fini (pcs c n) b) (ros := o1 ++ (aa, rObj [c] n ta1 ta2 k1) :: (ba, rObj b (m - 1) tb1 t3 k2) :: o2) C hkN hov hcell hco hoa hpv' fo1 (by omega) (.tail _ (oth_in (.head _) hpb)) (ro1.join (.cons aa ta1 ta2 k1 [c] n (.cons ba tb1 t3 k2 b (m - 1) ro2))) (by simpa using hrs) (by rw [hdr]; exact hm200) ?_ ?_ htv ?_ htl hown ?_ hsub' F3 N3
    · rw [eq1]; exact ap'.set
    · intro p hp
      obtain ⟨q, hq, e⟩ := hcN p hp
      rw [e]; exact hta q hq
    · rw [hdr, ← hout, cntGo, if_pos he, List.map_append]
    · intro p hp
      rcases List.mem_cons.mp hp with rfl | hp
      · exact hI _ (.head _)
      · obtain ⟨q, hq, e⟩ := hcN p hp
        rw [e]; exact hI q (.tail _ hq)
  refine wpAny_execs_cons ?_
  repeat walk_at "mc"
  refine newLt F N1 (by simp) fun ea h1 F1 N2 hna => ?_
  repeat walk_at "mc"
  refine neNil N2 (a := pa) (vs := pvs) (n := pn) (b := ea) (k := 0) (.tail _ hpa) (.head _) (by omega) ?_
  repeat walk_at "mc"
  by_cases hp0 : pcs c n = []
  · have : pvs = [] := List.eq_nil_of_length_eq_zero (by rw [hpvl, hp0]; rfl)
    refine itN (by simp [this]) ?_
    repeat walk_at "mc"
    refine itF ?_
    walk_at "mc"
    exact noeat (fun h => h.1 hp0) (fun p hp => .tail _ hp) F1 N2
  · have : pvs ≠ [] := fun e => hp0 (List.eq_nil_of_length_eq_zero (by rw [← hpvl, e]; rfl))
    refine itY (by simp [this]) ?_
    repeat walk_at "mc"
    refine itemL (k := 0) N2 (.tail _ hba) (by omega) rfl ?_ (by with_unfolding_all rfl)
    repeat walk_at "mc"
    refine eqT [61] ?_ (by kernel_rfl)
    repeat walk_at "mc"
    by_cases h61 : b = [61]
    · refine itY (by simp [h61]) ?_
      repeat walk_at "mc"
      refine SB.contains ?_
      rw [show Str.ofString "!%&*+-/:<>@^|" = S "!%&*+-/:<>@^|" from rfl, eq_in c hc]
      repeat walk_at "mc"
      by_cases hce : c ∈ eqS
      · refine itY (by simp [hce]) ?_
        repeat walk_at "mc"
        refine itT ?_
        refine itT ?_
        repeat walk_at "mc"
        refine itT ?_
        exact eat ⟨hp0, by simp [eatB, h61, hce]⟩ (fun p hp => .tail _ hp) F1 N2
      · refine itN (by simp [hce]) ?_
        repeat walk_at "mc"
        refine itF ?_
        repeat walk_at "mc"
        refine itemL (k := 0) N2 (.tail _ hba) (by omega) rfl ?_ (by with_unfolding_all rfl)
        repeat walk_at "mc"
        refine eqT [62] ?_ (by kernel_rfl)
        repeat walk_at "mc"
        by_cases h62 : b = [62]
        · refine itY (by simp [h62]) ?_
          repeat walk_at "mc"
          refine eqT [45] ?_ (by kernel_rfl)
          repeat walk_at "mc"
          by_cases h45 : c = 45
          · refine itY (by simp [h45]) ?_
            repeat walk_at "mc"
            refine itT ?_
            refine itT ?_
            repeat walk_at "mc"
            refine itT ?_
            exact eat ⟨hp0, by simp [eatB, h62, h45]⟩ (fun p hp => .tail _ hp) F1 N2
          · refine itN (by simp [h45]) ?_
            repeat walk_at "mc"
            refine itF ?_
            repeat walk_at "mc"
            refine itF ?_
            repeat walk_at "mc"
            refine itF ?_
            walk_at "mc"
            exact noeat (fun h => by simp [eatB, h62, h45] at h) (fun p hp => .tail _ hp) F1 N2
        · refine itN (by simp [h62]) ?_
          repeat walk_at "mc"
          refine itF ?_
          repeat walk_at "mc"
          refine itF ?_
          repeat walk_at "mc"
          refine itF ?_
          walk_at "mc"
          exact noeat (fun h => by simp [eatB, h62, hce] at h) (fun p hp => .tail _ hp) F1 N2
    · refine itN (by simp [h61]) ?_
      repeat walk_at "mc"
      refine itF ?_
      repeat walk_at "mc"
      refine itemL (k := 0) N2 (.tail _ hba) (by omega) rfl ?_ (by with_unfolding_all rfl)
      repeat walk_at "mc"
      refine eqT [62] ?_ (by kernel_rfl)
      repeat walk_at "mc"
      by_cases h62 : b = [62]
      · refine itY (by simp [h62]) ?_
        repeat walk_at "mc"
        refine eqT [45] ?_ (by kernel_rfl)
        repeat walk_at "mc"
        by_cases h45 : c = 45
        · refine itY (by simp [h45]) ?_
          repeat walk_at "mc"
          refine itT ?_
          refine itT ?_
          repeat walk_at "mc"
          refine itT ?_
          exact eat ⟨hp0, by simp [eatB, h62, h45]⟩ (fun p hp => .tail _ hp) F1 N2
        · refine itN (by simp [h45]) ?_
          repeat walk_at "mc"
          refine itF ?_
          repeat walk_at "mc"
          refine itF ?_
          repeat walk_at "mc"
          refine itF ?_
          walk_at "mc"
          exact noeat (fun h => by simp [eatB, h62, h45] at h) (fun p hp => .tail _ hp) F1 N2
      · refine itN (by simp [h62]) ?_
        repeat walk_at "mc"
        refine itF ?_
        repeat walk_at "mc"
        refine itF ?_
        repeat walk_at "mc"
        refine itF ?_
        walk_at "mc"
        exact noeat (fun h => by simp [eatB, h62, h61] at h) (fun p hp => .tail _ hp) F1 N2
end
section -- F15
open PySem PySem.W PyProof.Rows PySem.Calls PySem.NumText
set_option maxRecDepth 100000
theorem strs_rep (y : Str) (t : Tok) : ∀ n : Nat, StrsAre (List.replicate n (Value.str y t)) (List.replicate n y)
  | 0 => .nil
  | n + 1 => .cons y t (strs_rep y t n)
theorem strs_app {a b : List Value} {x y : List Str} (h : StrsAre a x) (h' : StrsAre b y) : StrsAre (a ++ b) (x ++ y) := by
  induction h with
  | nil => exact h'
  | cons y t _ ih => exact .cons y t ih
theorem flat_rep (v : Value) : ∀ n : Nat, (List.replicate n [v]).flatten = List.replicate n v
  | 0 => rfl
  | n + 1 => by rw [List.replicate_succ, List.flatten_cons, flat_rep v n]; rfl
noncomputable abbrev c2s (text : List Nat) (t : Tok) (ra ta : Addr) (c k mn : Nat) (ts tk_ tm : Tok) (rest : List (Str × Value)) : List (Str × Value) :=
  (S "text", .str (T text) t) :: (S "runs", .ref ra) :: (S "sign", .str (T [c]) ts) :: (S "told", .ref ta) :: (S "k", .int (k : Nat) tk_) :: (S "many", .int (mn : Nat) tm) :: rest
set_option maxHeartbeats 2000000 in
theorem cB {w : World} {A : Around} {g : Heap} {L I : Addr} {gn : Array GenState} {dr : Drawn} {os : OsState} {base own o1 o2 : List (Addr × Obj)} {Q : Flow → Shared → Prop} {h : Heap} {tk : Nat} {text out t1 : List Nat} {ra ta ba oa aa : Addr} {r1 r : List (List Nat × Nat)} {b : List Nat} {tvs ovs : List Value} {c k n m tn ok N kk k1 k2 : Nat} {t ts tk_ tm ta1 ta2 tb1 tb2 : Tok} {co : Obj} {rest : List (Str × Value)}
    (C : At w A L g) (hu : A.units + 16 * 1 < cLine) (hkN : k ≤ 200) (hk : r1.length = k) (hrest : rest = [] ∨ ∃ v1 v2, rest = [(S "pieces", v1), (S "behind", v2)])
    (hov : StrsAre ovs (opL.map T)) (hcell : (L + 1, co) ∈ base) (hco : co.data = .cell (some (.ref oa))) (hoa : (oa, listOf ovs.toArray ok) ∈ base)
    (ro1 : RO o1 r1) (ro2 : RO o2 r) (hrs : (r1 ++ ([c], n) :: (b, m) :: r).length = N + 1) (hok : OkT 0 (([c], n) :: (b, m) :: r)) (ap : Apt ra (o1 ++ (aa, rObj [c] n ta1 ta2 k1) :: (ba, rObj b m tb1 tb2 k2) :: o2) base)
    (hta : ∀ p ∈ cN ra (o1 ++ (aa, rObj [c] n ta1 ta2 k1) :: (ba, rObj b m tb1 tb2 k2) :: o2) base kk, p.1 ≠ ta) (htv : IntsAre tvs (iv t1)) (hout : t1 ++ (cntGo (([c], n) :: (b, m) :: r)).map tokN = out) (htl : tvs.length ≤ 300 * k)
    (hown : ∀ p ∈ own, p.1 = I) (hI : ∀ p ∈ (ta, listOf tvs.toArray tn) :: cN ra (o1 ++ (aa, rObj [c] n ta1 ta2 k1) :: (ba, rObj b m tb1 tb2 k2) :: o2) base kk, p.1 ≠ I)
    (F : Fr g L h (lk (c2s text t ra ta c k (manyOf c) ts tk_ tm rest))) (N1 : News g L h (own ++ (ta, listOf tvs.toArray tn) :: cN ra (o1 ++ (aa, rObj [c] n ta1 ta2 k1) :: (ba, rObj b m tb1 tb2 k2) :: o2) base kk)) :
    wpAny (Mo w) A (execs cnB2 (evC 81 143 142 L)) (Turn gn dr os g L I own (cJ2 text t ra ta base kk out N (k + 1)) Q) (fun _ _ => False) ⟨h, gn, dr, tk, os⟩ := by
  have hn200 : n ≤ 200 := by cases hok with | cons _ _ b _ => exact b
  have hmany := many_le c
  obtain ⟨mn, hmn⟩ : ∃ mn, mn = manyOf c := ⟨_, rfl⟩
  have hmn1 : 1 ≤ mn := by omega
  have hmn3 : mn ≤ 3 := by omega
  have hq : n / mn ≤ n := Nat.div_le_self _ _
  have hr3 : n % mn < mn := Nat.mod_lt _ (by omega)
  rw [← hmn] at F
  have hpc : pcs c n = List.replicate (n / mn) (List.replicate mn c) ++ List.replicate (n % mn) [c] := by rw [pcs, hmn]
  obtain ⟨cur, hcur⟩ : ∃ cur, cur = own ++ (ta, listOf tvs.toArray tn) :: cN ra (o1 ++ (aa, rObj [c] n ta1 ta2 k1) :: (ba, rObj b m tb1 tb2 k2) :: o2) base kk := ⟨_, rfl⟩
  have hra : (ra, listOf (refs (o1 ++ (aa, rObj [c] n ta1 ta2 k1) :: (ba, rObj b m tb1 tb2 k2) :: o2)).toArray kk) ∈ cur := by rw [hcur]; exact List.mem_append_right _ (.tail _ (.head _))
  have haa : (aa, rObj [c] n ta1 ta2 k1) ∈ cur := by rw [hcur]; simp
  have hg1 : (refs (o1 ++ (aa, rObj [c] n ta1 ta2 k1) :: (ba, rObj b m tb1 tb2 k2) :: o2))[k]? = some (.ref aa) := by
    have e : o1.length = k := by rw [ro1.len, hk]
    rw [← e]; simp
  have hg2 : (refs (o1 ++ (aa, rObj [c] n ta1 ta2 k1) :: (ba, rObj b m tb1 tb2 k2) :: o2))[k + 1]? = some (.ref ba) := by
    have e : o1.length = k := by rw [ro1.len, hk]
    rw [← e]; simp
  have N0 : News g L h cur := by rw [hcur]; exact N1
  have fin : ∀ {l1 l2 l3 l4 l5 : Addr × Obj} {pvs : List Value} {h' : Heap} {tk' : Nat}, StrsAre pvs ((pcs c n).map T) → l5.2 = listOf pvs.toArray 0 → (∀ p ∈ l4 :: l3 :: l2 :: l1 :: cur, p.1 < l5.1) → Fr g L h' (lk (c2 text t ra ta l5.1 ba c k mn ts tk_ tm)) → News g L h' (l5 :: l4 :: l3 :: l2 :: l1 :: cur) →
      wpAny (Mo w) A (execs cnB3 (evC 81 143 142 L)) (Turn gn dr os g L I own (cJ2 text t ra ta base kk out N (k + 1)) Q) (fun _ _ => False) ⟨h', gn, dr, tk', os⟩ := by
    intro l1 l2 l3 l4 l5 pvs h' tk' hpv e5 hl5 F' N'
    have hin : ∀ p ∈ own ++ (ta, listOf tvs.toArray tn) :: cN ra (o1 ++ (aa, rObj [c] n ta1 ta2 k1) :: (ba, rObj b m tb1 tb2 k2) :: o2) base kk, p ∈ l5 :: l4 :: l3 :: l2 :: l1 :: cur := by
      intro p hp
      rw [← hcur] at hp
      exact .tail _ (.tail _ (.tail _ (.tail _ (.tail _ hp))))
    refine cC C hu hkN hk hov hcell hco hoa hpv (pn := 0) (by rw [← e5]; exact .head _) (fun p hp => ?_) ro1 ro2 hrs hok ap hta htv hout htl hown hI hin F' N'
    rw [← hcur] at hp
    exact Nat.ne_of_lt (hl5 p (.tail _ (.tail _ (.tail _ (.tail _ hp)))))
  rcases hrest with rfl | ⟨v1, v2, rfl⟩
  all_goals
    refine wpAny_execs_cons ?_
    repeat walk_at "mc"
    refine mulT hmn1 hmn3 fun t5 k5 => ?_
    repeat walk_at "mc"
    refine newLt F N0 (by simp) fun l1 h1 F1 N1 hna1 => ?_
    repeat walk_at "mc"
    refine itemL (k := k) N1 (.tail _ hra) (by omega) hg1 ?_ (by with_unfolding_all rfl)
    repeat walk_at "mc"
    refine itemL (k := 1) N1 (.tail _ haa) (by omega) rfl ?_ (by with_unfolding_all rfl)
    repeat walk_at "mc"
    refine divN (by omega) (by omega) ?_
    repeat walk_at "mc"
    refine mulL (n := 0) F1 N1 (.head _) (by simp; omega) (by omega) fun l2 h2 F2 N2 hna2 => ?_
    repeat walk_at "mc"
    refine newLt F2 N2 (by simp) fun l3 h3 F3 N3 hna3 => ?_
    repeat walk_at "mc"
    refine itemL (k := k) N3 (.tail _ (.tail _ (.tail _ hra))) (by omega) hg1 ?_ (by with_unfolding_all rfl)
    repeat walk_at "mc"
    refine itemL (k := 1) N3 (.tail _ (.tail _ (.tail _ haa))) (by omega) rfl ?_ (by with_unfolding_all rfl)
    repeat walk_at "mc"
    refine modN (by omega) ?_
    repeat walk_at "mc"
    refine mulL (n := 0) F3 N3 (.head _) (by simp; omega) (by omega) fun l4 h4 F4 N4 hna4 => ?_
    repeat walk_at "mc"
    refine addL (n := 0) (k := 0) F4 N4 (.tail _ (.tail _ (.head _))) (.head _) (by rw [flat_rep, flat_rep]; simp; omega) fun l5 h5 F5 N5 hna5 => ?_
    repeat walk_at "mc"
    rename_i h6 F6 N6
    refine itemL (k := k + 1) N6 (.tail _ (.tail _ (.tail _ (.tail _ (.tail _ hra))))) (by omega) hg2 ?_ (by with_unfolding_all rfl)
    walk_at "ifc"
    rename_i h7 F7 N7
    have F8 : Fr g L h7 (lk (c2 text t ra ta l5 ba c k mn ts tk_ tm)) := F7
    refine fin (l5 := (l5, _)) (pvs := List.replicate (n / mn) (Value.str (T (List.replicate mn c)) t5) ++ List.replicate (n % mn) (Value.str (T [c]) ts)) ?_ (by rw [flat_rep, flat_rep]) hna5 F8 N7
    rw [hpc, List.map_append, List.map_replicate, List.map_replicate]
    exact strs_app (strs_rep _ _ _) (strs_rep _ _ _)
end
section -- F16
open PySem PySem.W PyProof.Rows PySem.Calls PySem.NumText
set_option maxRecDepth 100000
set_option maxHeartbeats 2000000 in
theorem cT2 {w : World} {A : Around} {g : Heap} {L I : Addr} {gn : Array GenState} {dr : Drawn} {os : OsState} {base own ros : List (Addr × Obj)} {Q : Flow → Shared → Prop} {h : Heap} {tk : Nat} {text out t1 : List Nat} {ra ta oa : Addr} {rs : List (List Nat × Nat)} {tvs ovs : List Value} {k tn ok N kk : Nat} {t tk_ : Tok} {co : Obj} {rest : List (Str × Value)} {v : Value}
    (C : At w A L g) (hu : A.units + 16 * 1 < cLine) (hN : N ≤ 200) (hkN : k < N) (hrest : rest = [] ∨ ∃ v2 v3 v4, rest = [(S "many", v2), (S "pieces", v3), (S "behind", v4)])
    (hov : StrsAre ovs (opL.map T)) (hcell : (L + 1, co) ∈ base) (hco : co.data = .cell (some (.ref oa))) (hoa : (oa, listOf ovs.toArray ok) ∈ base)
    (ro : RO ros rs) (hrs : rs.length = N + 1) (hok : OkT 0 (rs.drop k)) (ap : Apt ra ros base)
    (hta : ∀ p ∈ cN ra ros base kk, p.1 ≠ ta) (htv : IntsAre tvs (iv t1)) (hout : t1 ++ (cntGo (rs.drop k)).map tokN = out) (htl : tvs.length ≤ 300 * k)
    (hown : ∀ p ∈ own, p.1 = I) (hI : ∀ p ∈ (ta, listOf tvs.toArray tn) :: cN ra ros base kk, p.1 ≠ I)
    (F : Fr g L h (lk ((S "text", .str (T text) t) :: (S "runs", .ref ra) :: (S "sign", v) :: (S "told", .ref ta) :: (S "k", .int (k : Nat) tk_) :: rest))) (N1 : News g L h (own ++ (ta, listOf tvs.toArray tn) :: cN ra ros base kk)) :
    wpAny (Mo w) A (execs cnF2 (evC 81 143 142 L)) (Turn gn dr os g L I own (cJ2 text t ra ta base kk out N (k + 1)) Q) (fun _ _ => False) ⟨h, gn, dr, tk, os⟩ := by
  obtain ⟨c, n, b, m, r, hdr⟩ : ∃ c n b m r, rs.drop k = ([c], n) :: (b, m) :: r := by
    have hl : (rs.drop k).length = N + 1 - k := by rw [List.length_drop, hrs]
    revert hok hl
    generalize rs.drop k = l
    intro hok hl
    cases hok with
    | nil => simp at hl; omega
    | @cons _ c n r _ _ _ hr =>
      cases hr with
      | nil => exact ⟨c, n, [], 0, [], rfl⟩
      | @cons _ c' n' r' => exact ⟨c, n, [c'], n', r', rfl⟩
  have hsp : rs = rs.take k ++ ([c], n) :: (b, m) :: r := by rw [← hdr, List.take_append_drop]
  have hk : (rs.take k).length = k := by rw [List.length_take]; omega
  generalize rs.take k = r1 at hsp hk
  rw [hdr] at hok hout
  obtain ⟨o1, aa, ta1, ta2, k1, o2', rfl, ro1, ro2'⟩ := ro.split hsp
  cases ro2' with
  | @cons ba tb1 tb2 k2 _ _ o2 _ ro2 =>
  have hc : c ∈ sgs := by cases hok with | cons a _ _ _ => exact a
  rw [hsp] at hrs
  have hra : (ra, listOf (refs (o1 ++ (aa, rObj [c] n ta1 ta2 k1) :: (ba, rObj b m tb1 tb2 k2) :: o2)).toArray kk) ∈ own ++ (ta, listOf tvs.toArray tn) :: cN ra (o1 ++ (aa, rObj [c] n ta1 ta2 k1) :: (ba, rObj b m tb1 tb2 k2) :: o2) base kk := List.mem_append_right _ (.tail _ (.head _))
  have haa : (aa, rObj [c] n ta1 ta2 k1) ∈ own ++ (ta, listOf tvs.toArray tn) :: cN ra (o1 ++ (aa, rObj [c] n ta1 ta2 k1) :: (ba, rObj b m tb1 tb2 k2) :: o2) base kk := by simp
  have hg1 : (refs (o1 ++ (aa, rObj [c] n ta1 ta2 k1) :: (ba, rObj b m tb1 tb2 k2) :: o2))[k]? = some (.ref aa) := by
    have e : o1.length = k := by rw [ro1.len, hk]
    rw [← e]; simp
  have fin : ∀ {h' : Heap} {tk' : Nat} {ts tm : Tok} {rest' : List (Str × Value)}, (rest' = [] ∨ ∃ v1 v2, rest' = [(S "pieces", v1), (S "behind", v2)]) → Fr g L h' (lk (c2s text t ra ta c k (manyOf c) ts tk_ tm rest')) → News g L h' (own ++ (ta, listOf tvs.toArray tn) :: cN ra (o1 ++ (aa, rObj [c] n ta1 ta2 k1) :: (ba, rObj b m tb1 tb2 k2) :: o2) base kk) →
      wpAny (Mo w) A (execs cnB2 (evC 81 143 142 L)) (Turn gn dr os g L I own (cJ2 text t ra ta base kk out N (k + 1)) Q) (fun _ _ => False) ⟨h', gn, dr, tk', os⟩ :=
    fun hr' F' N' => cB C hu (by omega) hk hr' hov hcell hco hoa ro1 ro2 hrs hok ap hta htv hout htl hown hI F' N'
  rcases hrest with rfl | ⟨v2, v3, v4, rfl⟩
  all_goals
    refine wpAny_execs_cons ?_
    repeat walk_at "mc"
    refine itemL (k := k) N1 hra (by omega) hg1 ?_ (by with_unfolding_all rfl)
    repeat walk_at "mc"
    refine itemL (k := 0) N1 haa (by omega) rfl ?_ (by with_unfolding_all rfl)
    walk_at "ifc"
    walk_at "mc"
    repeat walk_at "mc"
    refine eqT [46] ?_ (by kernel_rfl)
    repeat walk_at "mc"
    by_cases h46 : c = 46
    · have hm : manyOf c = 3 := by rw [h46]; rfl
      refine itY (by simp [h46]) ?_
      walk_at "asc"
      rename_i h7 F7 N7
      refine fin ?_ (by rw [hm]; exact F7) N7
      first | exact .inl rfl | exact .inr ⟨_, _, rfl⟩
    · refine itN (by simp [h46]) ?_
      repeat walk_at "mc"
      refine SB.contains ?_
      rw [show Str.ofString "*/<>=" = S "*/<>=" from rfl, db_in c hc]
      repeat walk_at "mc"
      by_cases hdb : c ∈ dbS
      · have hm : manyOf c = 2 := by rw [manyOf, if_neg h46, if_pos hdb]
        refine itY (by simp [hdb]) ?_
        walk_at "asc"
        rename_i h7 F7 N7
        refine fin ?_ (by rw [hm]; exact F7) N7
        first | exact .inl rfl | exact .inr ⟨_, _, rfl⟩
      · have hm : manyOf c = 1 := by rw [manyOf, if_neg h46, if_neg hdb]
        refine itN (by simp [hdb]) ?_
        walk_at "asc"
        refine fin ?_ (by rw [hm]; assumption) (by assumption)
        first | exact .inl rfl | exact .inr ⟨_, _, rfl⟩
end
section -- F17
open PySem PySem.W PyProof.Rows PySem.Calls PySem.NumText
set_option maxRecDepth 100000
theorem counted_ {w : World} {news : List (Addr × Obj)} {text : List Nat} {oa : Addr} {ovs : List Value} {ok : Nat} (t : Tok) (hne : text ≠ []) (hlen : text.length ≤ 200) (hsg : ∀ c ∈ text, c ∈ sgs) (hmo : (oa, listOf ovs.toArray ok) ∈ news) (hov : StrsAre ovs (opL.map T)) :
    Claim w 2 143 [.str (T text) t, .ref oa] news (fun v new => ∃ (a : Addr) (vs : List Value) (n : Nat), v = .ref a ∧ new = [(a, listOf vs.toArray n)] ∧ IntsAre vs (iv (cnt text)) ∧ vs.length ≤ 100000) := by
  refine enterC (cv := .ref oa) (binds := [(S "text", .str (T text) t), (S "operators", .ref oa)]) (l := [(S "text", .str (T text) t)]) (fo81 _) (by kernel_rfl) (fun s _ => BindsTo.of_eq (by kernel_rfl)) (by kernel_rfl) (by decide +kernel) ?_ ?_ (by kernel_rfl) (by kernel_rfl) (by kernel_rfl) ?_
  · intro L'
    funext y
    have e1 : (envOfC (fnp 81).name (fnp 81).scope L' 143 (Value.ref 142)).kindOf (S "text") = some .local := by kernel_rfl
    have e2 : (envOfC (fnp 81).name (fnp 81).scope L' 143 (Value.ref 142)).kindOf (S "operators") = some .cell := by kernel_rfl
    unfold bindL
    rw [if_pos e1]
    unfold bindL
    rw [if_neg (by rw [e2]; decide), lk_cons]
    rfl
  · intro L' cells Y
    obtain ⟨o, e1, e2⟩ := CellsAre.one (n := S "operators") (c := L' + 1) Y
    exact ⟨o, e1, e2⟩
  intro A g L hp gn dr tk os co C F N hco hlt hd hu
  refine wpAny_execs_cons ?_
  repeat walk_at "mc"
  refine newLt F N (by simp) fun ra h1 F1 N1 hna => ?_
  repeat walk_at "mc"
  refine For_invV g (by kernel_rfl) (by kernel_rfl) ?_ (by intro _; rfl) PassesOwn.never
  repeat walk_at "mc"
  rename_i h2 F2 N2
  have R : ∀ i, Rns (text.take i) (runsOf (text.take i)) := fun i => rns_all _ fun c hc => hsg c (List.mem_of_mem_take hc)
  have h128 : ∀ c ∈ text, c < 128 := fun c hc => (show ∀ c ∈ sgs, c < 128 by decide) c (hsg c hc)
  have hbase : ∀ p ∈ (L + 1, co) :: news, p.1 ≠ ra := fun p hp => Nat.ne_of_lt (hna p hp)
  refine iterSC C.hh h128 (cJ1 text t ra ((L + 1, co) :: news)) F2 N2 ⟨[], [], 0, rfl, .inl ⟨rfl, rfl⟩, .nil, ⟨by simp, fun p hp => (nomatch hp), hbase, fun p hp q hq => (nomatch hq)⟩, rfl⟩ ?_ ?_
  · rintro I i c tc fl news₁ h tk own hc ⟨rest, ros, k, rfl, hrest, ro, ap, rfl⟩ hI hown hio F3 N3
    have hcn : ∀ p ∈ runsOf (text.take i), ∃ s n, p = ([s], n) := fun p hp => by
      obtain ⟨c, n, e, _⟩ := (R i).ok p hp
      exact ⟨c, n, e⟩
    have hrl : (runsOf (text.take i)).length ≤ 1000 := by
      have := (R i).len
      rw [List.length_take] at this
      omega
    rcases hrest with ⟨rfl, _⟩ | ⟨v, rfl⟩
    · exact cT1 hd hu hlen hc ro hcn hrl ap hown hio hI F3 N3
    · exact cT1 hd hu hlen hc ro hcn hrl ap hown hio hI F3 N3
  rintro fl news₁ h tk ⟨rest, ros, k, rfl, hrest, ro, ap, rfl⟩ F3 N3
  clear F N F1 N1 F2 N2
  rcases hrest with ⟨_, h0⟩ | ⟨v, rfl⟩
  · exact absurd (List.eq_nil_of_length_eq_zero h0) hne
  rw [List.take_length] at ro
  have RT := R text.length
  rw [List.take_length] at RT
  clear R
  dsimp only
  repeat walk_at "mc"
  have hrl : (refs ros).length ≤ 1000 := by
    have := RT.len
    rw [List.length_map, ro.len]; omega
  refine gmApp N3 (l := ra) (vs := refs ros) (n := k) (.head _) ?_
  repeat walk_at "mc"
  rw [show Str.ofString "" = T [] by kernel_rfl]
  refine newLt F3 N3 (by simp) fun na h4 F4 N4 hna4 => ?_
  repeat walk_at "mc"
  refine appN F4 N4 (vs := refs ros) (n := k) (.tail _ (.head _)) (by omega) fun h5 F5 N5 => ?_
  have ap2 := ap.push (o := rObj [] 0 tk (tk + 1) 0) (k := k) (fun p hp => hp) hna4
  have ro2 := ro.snoc na tk (tk + 1) 0 [] 0
  have N6 : News g L h5 (cN ra (ros ++ [(na, rObj [] 0 tk (tk + 1) 0)]) ((L + 1, co) :: news) (k + 1)) := newsSub N5 fun p hp => by
    rcases List.mem_cons.mp hp with rfl | hp
    · rw [show refs (ros ++ [(na, rObj [] 0 tk (tk + 1) 0)]) = refs ros ++ [Value.ref na] by simp]
      exact .head _
    · rcases List.mem_append.mp hp with hp | hp
      · rcases List.mem_append.mp hp with hp | hp
        · exact .tail _ (oth_in (.tail _ (.tail _ (List.mem_append_left _ hp))) (ap.rr p hp))
        · rw [List.mem_singleton.mp hp]
          exact .tail _ (oth_in (.head _) (Nat.ne_of_gt (hna4 (ra, _) (.head _))))
      · exact .tail _ (oth_in (.tail _ (.tail _ (List.mem_append_right _ hp))) (ap.br p hp))
  generalize hros : ros ++ [(na, rObj [] 0 tk (tk + 1) 0)] = ros2 at ap2 ro2 N6
  have hr2 : ros2.length = (runsOf text).length + 1 := by rw [ro2.len]; simp
  clear N4 N5 N3 ro ap
  repeat walk_at "mc"
  refine newLt F5 N6 (by simp) fun ta h7 F7 N7 hta => ?_
  repeat walk_at "mc"
  rename_i h8 F8 N8
  refine For_invV g (by kernel_rfl) (by kernel_rfl) ?_ (by intro _; rfl) PassesOwn.never
  repeat walk_at "mc"
  refine nameBC C F8 (n_range _) PyProof.Rows.boot_range (by decide) ?_ (by kernel_rfl) (by kernel_rfl) (by kernel_rfl)
  repeat walk_at "mc"
  refine nameBC C F8 (n_len _) boot_len (by decide) ?_ (by kernel_rfl) (by kernel_rfl) (by kernel_rfl)
  repeat walk_at "mc"
  have hsz : ((refs ros2).toArray.size : Int) = ((runsOf text).length : Int) + 1 := by
    rw [List.size_toArray, List.length_map, hr2]; rfl
  have hRl := RT.len
  refine call_len_list (s := ⟨_, _, _, _, _⟩) (isL N8 (l := ra) (vs := refs ros2) (n := k + 1) (.tail _ (.head _))) (by rw [hsz]; omega) ?_
  rw [hsz]
  repeat walk_at "mc"
  rw [show ((runsOf text).length : Int) + 1 - 1 = ((runsOf text).length : Nat) by omega]
  refine range1_rows (s := ⟨_, _, _, _, _⟩) F8 N8 fun h9 tk9 t9 u9 v9 hr9 F9 N9 _ => ?_
  have hok : OkT 0 (runsOf text ++ [([], 0)]) := (RT.okt hlen).mono
  have hl81 : (runsOf text ++ [([], 0)]).length = (runsOf text).length + 1 := by simp
  refine iterRC C.hh hr9 (by omega) (cJ2 text t ra ta ((L + 1, co) :: news) (k + 1) (cnt text) (runsOf text).length) F9 N9 ⟨v, [], ros2, runsOf text ++ [([], 0)], [], [], 0, rfl, .inl rfl, ro2, hl81, hok, ap2, fun p hp => Nat.ne_of_lt (hta p hp), .nil, rfl, Nat.zero_le _, rfl⟩ ?_ ?_
  · rintro I i ti fl news₁ h' tk' own hi ⟨v', rest, ros3, rs, tvs, t1, tn, rfl, hrest, ro3, hrs, hok3, ap3, hta3, htv, hout, htl, rfl⟩ hI hown F3 N3
    rcases hrest with rfl | ⟨v1, v2, v3, v4, rfl⟩
    · exact cT2 C hu (by omega) hi (.inl rfl) hov (.head _) hco (.tail _ hmo) ro3 hrs hok3 ap3 hta3 htv hout htl hown hI F3 N3
    · exact cT2 C hu (by omega) hi (.inr ⟨_, _, _, rfl⟩) hov (.head _) hco (.tail _ hmo) ro3 hrs hok3 ap3 hta3 htv hout htl hown hI F3 N3
  rintro fl news₁ h' tk' ⟨v', rest, ros3, rs, tvs, t1, tn, rfl, hrest, ro3, hrs, hok3, ap3, hta3, htv, hout, htl, rfl⟩ F3 N3
  have hlast : cntGo (rs.drop (runsOf text).length) = [] := by
    have hl : (rs.drop (runsOf text).length).length = 1 := by rw [List.length_drop, hrs]; omega
    obtain ⟨x, hx⟩ := List.length_eq_one_iff.mp hl
    rw [hx, cntGo]
    intro c n b m r e
    cases e
  rw [hlast, List.map_nil, List.append_nil] at hout
  subst hout
  dsimp only
  repeat walk_at "mc"
  exact back_ (new := [(ta, listOf tvs.toArray tn)]) F3 (newsSub N3 fun p hp => by
    rcases List.mem_cons.mp hp with rfl | hp
    · exact .head _
    · exact .tail _ (.tail _ (List.mem_append_right _ (.tail _ hp)))) ⟨ta, tvs, tn, rfl, rfl, htv, by omega⟩
end
section -- P2
open PySem PySem.W PyProof.Rows PySem.Builtin.Str PySem.StrLaws
set_option maxRecDepth 100000
set_option linter.unusedVariables false
noncomputable def hexU (d : Nat) : Nat := if d < 10 then 48 + d else 55 + d
noncomputable def hexW (d : Nat) : Nat := if d < 10 then 48 + d else 87 + d
/-- what quote writes of a sign -/
noncomputable def qt (b : Bool) (c : Nat) : List Nat := if b then [61, hexW (c / 16), hexW (c % 16)] else [61, hexU (c / 16), hexU (c % 16)]
/-- an operator as it is written -/
noncomputable def pce (o : List Nat) (b : Bool) : List Nat := o.dropLast ++ qt b (o.getLastD 0)
noncomputable def rdP : Nat → List Nat → Option (List Nat)
  | _, [a, b] => if a ∈ hexL ∧ b ∈ hexL then some [256 + hx a, 256 + hx b] else none
  | f + 1, x :: y :: z :: r => match szD 3 (x :: y :: z :: r) with
    | 0 => none
    | k + 1 => (tok ((x :: y :: z :: r).take (k + 1))).bind fun v => (rdP f ((x :: y :: z :: r).drop (k + 1))).map ((v + 202) :: ·)
  | _, _ => none
theorem tok_hex {c : Nat} {r : List Nat} (hc : c ∈ hexL) : tok (c :: r) = none := by
  cases h : tok (c :: r) with
  | none => rfl
  | some v =>
    exfalso
    obtain ⟨u, hu⟩ := tok_mem (l := c :: r) (by rw [h]; rfl)
    have := List.all_eq_true.mp (show (tokL.all fun p => decide (p.1.headD 0 ∉ hexL)) = true by decide +kernel) _ hu
    simp at this
    exact this hc
theorem sz_hex {c : Nat} {r : List Nat} (hc : c ∈ hexL) : szD 3 (c :: r) = 0 := by
  have h : ∀ k, tok ((c :: r).take (k + 1)) = none := fun k => tok_hex hc
  simp only [szD, h, Option.isSome_none, Bool.false_eq_true, if_false]
theorem sz_le : ∀ (k : Nat) (l : List Nat), szD k l ≤ k
  | 0, _ => Nat.le_refl _
  | k + 1, l => by
    unfold szD
    split
    · exact Nat.le_refl _
    · exact Nat.le_succ_of_le (sz_le k l)
theorem sz_app (l r : List Nat) : ∀ k, k ≤ l.length → szD k (l ++ r) = szD k l
  | 0, _ => rfl
  | k + 1, h => by
    unfold szD
    rw [List.take_append_of_le_length h, sz_app l r k (by omega)]
theorem rdP_ok : ∀ (f : Nat) (l ns : List Nat), rdP f l = some ns → ∀ rest out, Rd 202 rest out → Rd 202 (l ++ rest) (ns ++ out) := by
  intro f
  induction f with
  | zero =>
    intro l ns h rest out hr
    match l, h with
    | [a, b], h =>
      simp only [rdP] at h
      split at h
      · rename_i q
        cases h
        exact .hex (sz_hex q.1) q.1 (.hex (sz_hex q.2) q.2 hr)
      · cases h
  | succ f ih =>
    intro l ns h rest out hr
    match l, h with
    | [a, b], h =>
      simp only [rdP] at h
      split at h
      · rename_i q
        cases h
        exact .hex (sz_hex q.1) q.1 (.hex (sz_hex q.2) q.2 hr)
      · cases h
    | x :: y :: z :: r, h =>
      simp only [rdP] at h
      cases hk : szD 3 (x :: y :: z :: r) with
      | zero => rw [hk] at h; cases h
      | succ k =>
        rw [hk] at h
        simp only at h
        have hk3 : k + 1 ≤ 3 := by rw [← hk]; exact sz_le 3 _
        cases hv : tok ((x :: y :: z :: r).take (k + 1)) with
        | none => rw [hv] at h; cases h
        | some v =>
          rw [hv] at h
          simp only [Option.bind_some] at h
          cases hq : rdP f ((x :: y :: z :: r).drop (k + 1)) with
          | none => rw [hq] at h; cases h
          | some ms =>
            rw [hq] at h
            cases h
            have hlen : k + 1 ≤ (x :: y :: z :: r).length := by simp; omega
            refine .tok (k := k) (v := v) (by simp) ?_ ?_ ?_
            · rw [sz_app _ _ 3 (by simp), hk]
            · rw [List.take_append_of_le_length hlen]; exact hv
            · rw [List.drop_append_of_le_length hlen]
              exact ih _ _ hq rest out hr
noncomputable def unP : List Nat → List Nat → Option (List Nat)
  | part, [s, a, b] => if 209 ≤ s ∧ s < 256 ∧ 256 ≤ a ∧ 256 ≤ b then (opL[s - 209]?).map fun sg => part ++ sg.dropLast ++ [16 * ((a - 254) % 16) + (b - 254) % 16] else none
  | part, s :: n :: m :: d :: r => if 209 ≤ s ∧ s < 256 ∧ n < 256 then (opL[s - 209]?).bind fun sg => unP (part ++ sg) (n :: m :: d :: r) else none
  | _, _ => none
theorem unP_ok : ∀ (ns part u : List Nat), unP part ns = some u → ∀ r o, Un opL [] r o → Un opL part (ns ++ r) (u :: o)
  | [s, a, b], part, u, h, r, o, hr => by
    simp only [unP] at h
    split at h
    · rename_i q
      cases hg : opL[s - 209]? with
      | none => rw [hg] at h; cases h
      | some sg =>
        rw [hg] at h
        cases h
        have := Un.unit (ops := opL) (part := part) (s := s - 209) (by omega) hg q.2.2.1 q.2.2.2 hr
        rw [show s - 209 + 209 = s by omega] at this
        exact this
    · cases h
  | s :: n :: m :: d :: r', part, u, h, r, o, hr => by
    simp only [unP] at h
    split at h
    · rename_i q
      cases hg : opL[s - 209]? with
      | none => rw [hg] at h; cases h
      | some sg =>
        rw [hg] at h
        simp only [Option.bind_some] at h
        have ih := unP_ok (n :: m :: d :: r') (part ++ sg) u h r o hr
        have := Un.more (ops := opL) (part := part) (s := s - 209) (n := n) (by omega) hg q.2.2 ih
        rw [show s - 209 + 209 = s by omega] at this
        exact this
    · cases h
noncomputable def pnum (o : List Nat) (b : Bool) : List Nat := (rdP 6 (pce o b)).getD []
theorem pnum_ok : ∀ o ∈ opL, ∀ b ∈ [true, false], rdP 6 (pce o b) = some (pnum o b) ∧ unP [] (pnum o b) = some o := by decide +kernel
noncomputable def dcP : List Nat → Option (List Nat)
  | [c, a, b] => if c = 61 ∧ a ∈ hexL ∧ b ∈ hexL then some [16 * hv a + hv b] else none
  | c :: a :: b :: d :: r => if c = 61 ∧ a ∈ hexL ∧ b ∈ hexL then none else (dcP (a :: b :: d :: r)).map (c :: ·)
  | _ => none
theorem hit_eq {c a b : Nat} {r : List Nat} (ha : a < 128) (hb : b < 128) : hit (c :: a :: b :: r) = decide (c = 61 ∧ a ∈ hexL ∧ b ∈ hexL) := by
  show (c == 61 && hexc a && hexc b) = _
  rw [hexc_eq a ha, hexc_eq b hb]
  by_cases h1 : c = 61 <;> by_cases h2 : a ∈ hexL <;> by_cases h3 : b ∈ hexL <;> simp [h1, h2, h3]
theorem dcP_ok : ∀ (l u : List Nat), (∀ c ∈ l, c < 128) → dcP l = some u → ∀ rest, decL (l ++ rest) = u ++ (if rest = [] then [10] else decL rest) ∧ subW (l ++ rest) = u ++ subW rest
  | [c, a, b], u, hl, h, rest => by
    simp only [dcP] at h
    split at h
    · rename_i q
      cases h
      refine ⟨?_, ?_⟩
      · show decL (c :: a :: b :: rest) = _
        rw [decL, if_pos q]; rfl
      · show subW (c :: a :: b :: rest) = _
        rw [subW, if_pos (by rw [hit_eq (hl a (by simp)) (hl b (by simp))]; exact decide_eq_true q)]; rfl
    · cases h
  | c :: a :: b :: d :: r, u, hl, h, rest => by
    simp only [dcP] at h
    split at h
    · cases h
    · rename_i q
      cases hq : dcP (a :: b :: d :: r) with
      | none => rw [hq] at h; cases h
      | some v =>
        rw [hq] at h
        cases h
        obtain ⟨i1, i2⟩ := dcP_ok (a :: b :: d :: r) v (fun x hx => hl x (List.mem_cons_of_mem _ hx)) hq rest
        refine ⟨?_, ?_⟩
        · show decL (c :: a :: b :: (d :: r ++ rest)) = _
          rw [decL, if_neg q]
          exact congrArg (c :: ·) i1
        · show subW (c :: a :: b :: (d :: r ++ rest)) = _
          rw [subW, if_neg (by rw [hit_eq (hl a (by simp)) (hl b (by simp))]; simpa using q)]
          exact congrArg (c :: ·) i2
theorem dc_all : ∀ o ∈ opL, ∀ b ∈ [true, false], dcP (pce o b) = some o ∧ (∀ c ∈ pce o b, c < 128 ∧ c ≠ 95 ∧ Unicode.isLineBreak c = false ∧ Unicode.isSpace c = false ∧ c ≠ 13 ∧ c ≠ 10) ∧ (pce o b).length ≤ 5 ∧ 3 ≤ (pce o b).length ∧ (∀ c ∈ o, c ∈ sgs) := by decide +kernel
end
section -- P3
open PySem PySem.W PyProof.Rows PySem.Builtin.Str PySem.StrLaws
set_option maxRecDepth 100000
set_option linter.unusedVariables false
noncomputable abbrev Prs := List (List Nat × Bool)
noncomputable def wrt (ps : Prs) : List Nat := ps.flatMap fun p => pce p.1 p.2
noncomputable def pln (ps : Prs) : List Nat := ps.flatMap fun p => p.1
noncomputable def num (ps : Prs) : List Nat := ps.flatMap fun p => pnum p.1 p.2
noncomputable def Ops (ps : Prs) : Prop := ∀ p ∈ ps, p.1 ∈ opL
theorem bool_mem (b : Bool) : b ∈ [true, false] := by cases b <;> simp
theorem wrt_rd : ∀ (ps : Prs), Ops ps → Rd 202 (wrt ps) (num ps)
  | [], _ => .nil
  | p :: r, h => by
    have ih := wrt_rd r fun q hq => h q (List.mem_cons_of_mem _ hq)
    exact rdP_ok 6 _ _ (pnum_ok p.1 (h p (.head _)) p.2 (bool_mem _)).1 _ _ ih
theorem wrt_un : ∀ (ps : Prs), Ops ps → Un opL [] (num ps ++ [0]) (ps.map (·.1))
  | [], _ => .done
  | p :: r, h => by
    have ih := wrt_un r fun q hq => h q (List.mem_cons_of_mem _ hq)
    have := unP_ok _ [] _ (pnum_ok p.1 (h p (.head _)) p.2 (bool_mem _)).2 _ _ ih
    rw [← List.append_assoc] at this
    exact this
theorem pce_dc {p : List Nat × Bool} (h : p.1 ∈ opL) (rest : List Nat) : decL (pce p.1 p.2 ++ rest) = p.1 ++ (if rest = [] then [10] else decL rest) ∧ subW (pce p.1 p.2 ++ rest) = p.1 ++ subW rest := by
  obtain ⟨h1, h2, _⟩ := dc_all p.1 h p.2 (bool_mem _)
  exact dcP_ok _ _ (fun c hc => (h2 c hc).1) h1 rest
theorem pce_ne {p : List Nat × Bool} (h : p.1 ∈ opL) : pce p.1 p.2 ≠ [] := fun e => by
  have := (dc_all p.1 h p.2 (bool_mem _)).2.2.2.1
  rw [e] at this
  simp at this
theorem wrt_nil {ps : Prs} (h : Ops ps) : wrt ps = [] ↔ ps = [] := by
  cases ps with
  | nil => simp [wrt]
  | cons p r =>
    constructor
    · intro e
      unfold wrt at e
      rw [List.flatMap_cons, List.append_eq_nil_iff] at e
      exact absurd e.1 (pce_ne (h p (.head _)))
    · intro e; cases e
theorem wrt_dec : ∀ (ps : Prs), Ops ps → ps ≠ [] → decL (wrt ps) = pln ps ++ [10]
  | [], _, h => absurd rfl h
  | p :: r, h, _ => by
    have hr : Ops r := fun q hq => h q (List.mem_cons_of_mem _ hq)
    show decL (pce p.1 p.2 ++ wrt r) = p.1 ++ pln r ++ [10]
    rw [(pce_dc (h p (.head _)) _).1]
    cases r with
    | nil => simp [pln, wrt]
    | cons q r' =>
      rw [if_neg (by rw [wrt_nil hr]; simp), wrt_dec (q :: r') hr (by simp), List.append_assoc]
theorem wrt_sub : ∀ (ps : Prs), Ops ps → subW (wrt ps) = pln ps
  | [], _ => rfl
  | p :: r, h => by
    show subW (pce p.1 p.2 ++ wrt r) = p.1 ++ pln r
    rw [(pce_dc (h p (.head _)) _).2, wrt_sub r fun q hq => h q (List.mem_cons_of_mem _ hq)]
/-- the lines with soft breaks -/
noncomputable def jls : Prs → List (List Nat)
  | [] => []
  | [p] => [pce p.1 p.2]
  | p :: q :: r => (pce p.1 p.2 ++ [61]) :: jls (q :: r)
noncomputable def joinNL : List (List Nat) → List Nat
  | [] => []
  | [l] => l
  | l :: l' :: r => l ++ 10 :: joinNL (l' :: r)
theorem jls_dec : ∀ (ps : Prs), Ops ps → ps ≠ [] → (jls ps).flatMap decL = pln ps ++ [10]
  | [], _, h => absurd rfl h
  | [p], h, _ => by
    have := (pce_dc (h p (.head _)) []).1
    simp only [List.append_nil, if_true] at this
    simp [jls, pln, this]
  | p :: q :: r, h, _ => by
    have ih := jls_dec (q :: r) (fun x hx => h x (List.mem_cons_of_mem _ hx)) (by simp)
    have e := (pce_dc (h p (.head _)) [61]).1
    rw [if_neg (by simp), show decL [61] = [] from rfl, List.append_nil] at e
    show decL (pce p.1 p.2 ++ [61]) ++ (jls (q :: r)).flatMap decL = p.1 ++ pln (q :: r) ++ [10]
    rw [e, ih, List.append_assoc]
/-- a sign that stands in a line -/
noncomputable def Vis (c : Nat) : Prop := c < 128 ∧ c ≠ 95 ∧ Unicode.isLineBreak c = false ∧ Unicode.isSpace c = false ∧ c ≠ 13 ∧ c ≠ 10
theorem vis61 : Vis 61 := ⟨by decide, by decide, by decide +kernel, by decide +kernel, by decide, by decide⟩
theorem pce_vis {p : List Nat × Bool} (h : p.1 ∈ opL) : ∀ c ∈ pce p.1 p.2, Vis c := (dc_all p.1 h p.2 (bool_mem _)).2.1
theorem wrt_vis {ps : Prs} (h : Ops ps) : ∀ c ∈ wrt ps, Vis c := fun c hc => by
  obtain ⟨p, hp, hc⟩ := List.mem_flatMap.mp hc
  exact pce_vis (h p hp) c hc
theorem jls_line : ∀ (ps : Prs), Ops ps → ∀ l ∈ jls ps, l ≠ [] ∧ l.length ≤ 6 ∧ ∀ c ∈ l, Vis c
  | [], _, l, hl => nomatch hl
  | [p], h, l, hl => by
    rw [List.mem_singleton.mp hl]
    exact ⟨pce_ne (h p (.head _)), Nat.le_succ_of_le (dc_all p.1 (h p (.head _)) p.2 (bool_mem _)).2.2.1, pce_vis (h p (.head _))⟩
  | p :: q :: r, h, l, hl => by
    rcases List.mem_cons.mp hl with rfl | hl
    · refine ⟨by simp, ?_, fun c hc => ?_⟩
      · have := (dc_all p.1 (h p (.head _)) p.2 (bool_mem _)).2.2.1
        simp; omega
      · rcases List.mem_append.mp hc with hc | hc
        · exact pce_vis (h p (.head _)) c hc
        · rw [List.mem_singleton.mp hc]; exact vis61
    · exact jls_line (q :: r) (fun x hx => h x (List.mem_cons_of_mem _ hx)) l hl
theorem rstrip_vis {l : List Nat} (hne : l ≠ []) (h : ∀ c ∈ l, Vis c) : Txt.rstrip (T l) = T l := by
  obtain ⟨a, z, rfl⟩ : ∃ a z, l = a ++ [z] := by
    rcases List.eq_nil_or_concat l with rfl | ⟨a, z, e⟩
    · exact absurd rfl hne
    · exact ⟨a, z, by rw [e, List.concat_eq_append]⟩
  have hz := (h z (by simp)).2.2.2.1
  unfold Txt.rstrip Txt.stripBy
  rw [if_pos]
  unfold stripSame stripLo stripHi
  simp [T_len, hz]
/-! lines -/
noncomputable def lsF : List Nat → Nat → LsSt → LsSt
  | [], _, st => st
  | c :: r, cur, st => if (decide (st.snd ≤ cur) && Unicode.isLineBreak c) = true then lsF r (cur + 1) (st.fst.push (st.snd, cur, cur + 1), cur + 1) else lsF r (cur + 1) st
theorem ls_fold (X : List Nat) (h13 : 13 ∉ X) : ∀ (m cur : Nat) (st : LsSt), cur + m = X.length → Id.run (forIn (m := Id) (List.range' cur m) st (lsBody (T X))) = lsF (X.drop cur) cur st
  | 0, cur, st, h => by
    rw [List.drop_of_length_le (by omega)]
    rfl
  | m + 1, cur, st, h => by
    have hlt : cur < X.length := by omega
    rw [List.range'_succ, List.forIn_cons, List.drop_eq_getElem_cons hlt]
    have hg : (T X).cps.getD cur 0 = X[cur] := by simp [T, hlt]
    have hnx : lsNext (T X) cur = cur + 1 := by
      unfold lsNext
      rw [hg, if_neg]
      have : X[cur] ≠ 13 := fun e => h13 (e ▸ List.getElem_mem hlt)
      simp [this]
    unfold lsBody lsF
    rw [hg, hnx]
    by_cases hc : (decide (st.snd ≤ cur) && Unicode.isLineBreak X[cur]) = true
    · simp only [hc, if_true]
      exact ls_fold X h13 m (cur + 1) _ (by omega)
    · simp only [hc, if_false, Bool.false_eq_true]
      exact ls_fold X h13 m (cur + 1) _ (by omega)
theorem lsF_seg : ∀ (l r : List Nat) (cur : Nat) (st : LsSt), (∀ c ∈ l, Unicode.isLineBreak c = false) → lsF (l ++ r) cur st = lsF r (cur + l.length) st
  | [], r, cur, st, _ => rfl
  | c :: l, r, cur, st, h => by
    show (if (decide (st.snd ≤ cur) && Unicode.isLineBreak c) = true then lsF (l ++ r) (cur + 1) (st.fst.push (st.snd, cur, cur + 1), cur + 1) else lsF (l ++ r) (cur + 1) st) = _
    rw [if_neg (by rw [h c (.head _)]; simp), lsF_seg l r (cur + 1) st fun x hx => h x (List.mem_cons_of_mem _ hx)]
    rw [show cur + 1 + l.length = cur + (c :: l).length by rw [List.length_cons]; omega]
noncomputable def spans : List (List Nat) → Nat → List (Nat × Nat × Nat)
  | [], _ => []
  | [l], cur => [(cur, cur + l.length, cur + l.length)]
  | l :: l' :: r, cur => (cur, cur + l.length, cur + l.length + 1) :: spans (l' :: r) (cur + l.length + 1)
theorem lsF_join : ∀ (ls : List (List Nat)) (s : Str) (cur : Nat) (arr : Array (Nat × Nat × Nat)), ls ≠ [] → (∀ l ∈ ls, l ≠ [] ∧ ∀ c ∈ l, Unicode.isLineBreak c = false) → s.length = cur + (joinNL ls).length →
    lsEnd s (lsF (joinNL ls) cur (arr, cur)) = arr.toList ++ spans ls cur
  | [], _, _, _, h, _, _ => absurd rfl h
  | [l], s, cur, arr, _, h, hs => by
    have hl := h l (.head _)
    have hs' : s.length = cur + l.length := hs
    have e := lsF_seg l [] cur (arr, cur) hl.2
    rw [List.append_nil] at e
    show lsEnd s (lsF l cur (arr, cur)) = _
    rw [e]
    unfold lsF lsEnd
    have : 0 < l.length := List.length_pos_iff.mpr hl.1
    rw [if_pos (show cur < s.length by omega), hs']
    simp [spans]
  | l :: l' :: r, s, cur, arr, _, h, hs => by
    have hl := h l (.head _)
    show lsEnd s (lsF (l ++ 10 :: joinNL (l' :: r)) cur (arr, cur)) = _
    rw [lsF_seg _ _ _ _ hl.2]
    unfold lsF
    have h10 : Unicode.isLineBreak 10 = true := by decide +kernel
    rw [if_pos (by rw [h10]; simp)]
    have hs2 : s.length = cur + l.length + 1 + (joinNL (l' :: r)).length := by
      rw [hs]
      show cur + (l ++ 10 :: joinNL (l' :: r)).length = _
      simp; omega
    rw [lsF_join (l' :: r) s (cur + l.length + 1) _ (by simp) (fun x hx => h x (List.mem_cons_of_mem _ hx)) hs2]
    simp [spans]
theorem spans_sub : ∀ (ls : List (List Nat)) (pre : List Nat), (spans ls pre.length).map (fun p => strSub (T (pre ++ joinNL ls)) p.1 p.2.1) = ls.map T
  | [], _ => rfl
  | [l], pre => by
    simp [spans, joinNL, strSub, T]
  | l :: l' :: r, pre => by
    have ih := spans_sub (l' :: r) (pre ++ l ++ [10])
    have e1 : (pre ++ l ++ [10]).length = pre.length + l.length + 1 := by simp; omega
    have e2 : pre ++ l ++ [10] ++ joinNL (l' :: r) = pre ++ joinNL (l :: l' :: r) := by simp [joinNL]
    rw [e1, e2] at ih
    show strSub _ pre.length (pre.length + l.length) :: _ = T l :: _
    rw [ih]
    congr 1
    simp [joinNL, strSub, T]
theorem join_no13 : ∀ (ls : List (List Nat)), (∀ l ∈ ls, ∀ c ∈ l, Vis c) → ∀ c ∈ joinNL ls, c < 128 ∧ c ≠ 13
  | [], _, c, hc => nomatch hc
  | [l], h, c, hc => ⟨(h l (.head _) c hc).1, (h l (.head _) c hc).2.2.2.2.1⟩
  | l :: l' :: r, h, c, hc => by
    have hc' : c ∈ l ++ 10 :: joinNL (l' :: r) := hc
    rcases List.mem_append.mp hc' with hc | hc
    · exact ⟨(h l (.head _) c hc).1, (h l (.head _) c hc).2.2.2.2.1⟩
    · rcases List.mem_cons.mp hc with rfl | hc
      · decide
      · exact join_no13 (l' :: r) (fun x hx => h x (List.mem_cons_of_mem _ hx)) c hc
theorem lines_join (ls : List (List Nat)) (hne : ls ≠ []) (h : ∀ l ∈ ls, l ≠ [] ∧ ∀ c ∈ l, Vis c) : Txt.lines (T (joinNL ls)) = ls.map T := by
  have h13 : 13 ∉ joinNL ls := fun hc => (join_no13 ls (fun l hl => (h l hl).2) 13 hc).2 rfl
  have hspan : lineSpans (T (joinNL ls)) = spans ls 0 := by
    rw [ls_eq, T_len, ls_fold _ h13 _ _ _ (by omega), List.drop_zero, lsF_join ls (T (joinNL ls)) 0 #[] hne (fun l hl => ⟨(h l hl).1, fun c hc => ((h l hl).2 c hc).2.2.1⟩) (by rw [T_len]; omega)]
    simp
  have hlines : linesOf (T (joinNL ls)) = ls.map T := by
    unfold linesOf lineCuts
    rw [hspan, List.map_map]
    exact spans_sub ls []
  unfold Txt.lines
  split
  · rename_i q
    rw [← hlines]
    unfold linesOf
    rw [eq_of_beq q]
    show [T (joinNL ls)] = [strSub (T (joinNL ls)) 0 (T (joinNL ls)).length]
    rw [T_len]
    simp [strSub]
  · exact hlines
end
section -- P4
open PySem PySem.W PyProof.Rows PySem.Builtin.Str PySem.StrLaws
set_option maxRecDepth 100000
set_option linter.unusedVariables false
theorem op_ne : ∀ o ∈ opL, o ≠ [] := by decide +kernel
theorem wrt_len : ∀ ps : Prs, Ops ps → (wrt ps).length ≤ 5 * ps.length
  | [], _ => by simp [wrt]
  | p :: r, h => by
    have ih := wrt_len r fun q hq => h q (List.mem_cons_of_mem _ hq)
    have := (dc_all p.1 (h p (.head _)) p.2 (bool_mem _)).2.2.1
    show (pce p.1 p.2 ++ wrt r).length ≤ _
    simp; omega
theorem pln_len : ∀ ps : Prs, Ops ps → (pln ps).length ≤ 3 * ps.length
  | [], _ => by simp [pln]
  | p :: r, h => by
    have ih := pln_len r fun q hq => h q (List.mem_cons_of_mem _ hq)
    have := op_len p.1 (h p (.head _))
    show (p.1 ++ pln r).length ≤ _
    simp; omega
theorem pln_sgs {ps : Prs} (h : Ops ps) : ∀ c ∈ pln ps, c ∈ sgs := fun c hc => by
  obtain ⟨p, hp, hc⟩ := List.mem_flatMap.mp hc
  exact (dc_all p.1 (h p hp) p.2 (bool_mem _)).2.2.2.2 c hc
theorem pln_ne {ps : Prs} (h : Ops ps) (hne : ps ≠ []) : pln ps ≠ [] := by
  cases ps with
  | nil => exact absurd rfl hne
  | cons p r =>
    intro e
    unfold pln at e
    rw [List.flatMap_cons, List.append_eq_nil_iff] at e
    exact op_ne p.1 (h p (.head _)) e.1
theorem jls_ne {ps : Prs} (hne : ps ≠ []) : jls ps ≠ [] := by
  match ps, hne with
  | [], h => exact absurd rfl h
  | [p], _ => simp [jls]
  | p :: q :: r, _ => simp [jls]
theorem jls_len : ∀ ps : Prs, (jls ps).length = ps.length
  | [] => rfl
  | [p] => rfl
  | p :: q :: r => by
    show (jls (q :: r)).length + 1 = _
    rw [jls_len (q :: r)]; rfl
theorem join_len : ∀ ls : List (List Nat), (∀ l ∈ ls, l.length ≤ 6) → (joinNL ls).length ≤ 7 * ls.length
  | [], _ => by simp [joinNL]
  | [l], h => by
    have := h l (.head _)
    show l.length ≤ _
    simp; omega
  | l :: l' :: r, h => by
    have ih := join_len (l' :: r) fun x hx => h x (List.mem_cons_of_mem _ hx)
    have := h l (.head _)
    show (l ++ 10 :: joinNL (l' :: r)).length ≤ _
    simp at ih ⊢; omega
theorem snoc_vis {l : List Nat} (hne : l ≠ []) (h : ∀ c ∈ l, Vis c) : ∃ y z, l = y ++ [z] ∧ z < 128 ∧ z ≠ 13 ∧ z ≠ 10 := by
  rcases List.eq_nil_or_concat l with rfl | ⟨a, z, e⟩
  · exact absurd rfl hne
  · rw [List.concat_eq_append] at e
    have := h z (by rw [e]; simp)
    exact ⟨a, z, e, this.1, this.2.2.2.2.1, this.2.2.2.2.2⟩
theorem snoc_join : ∀ ls : List (List Nat), ls ≠ [] → (∀ l ∈ ls, l ≠ [] ∧ ∀ c ∈ l, Vis c) → ∃ y z, joinNL ls = y ++ [z] ∧ z < 128 ∧ z ≠ 13 ∧ z ≠ 10
  | [], h, _ => absurd rfl h
  | [l], _, h => snoc_vis (h l (.head _)).1 (h l (.head _)).2
  | l :: l' :: r, _, h => by
    obtain ⟨y, z, e, hz⟩ := snoc_join (l' :: r) (by simp) fun x hx => h x (List.mem_cons_of_mem _ hx)
    exact ⟨l ++ 10 :: y, z, by show l ++ 10 :: joinNL (l' :: r) = _; rw [e]; simp, hz⟩
theorem decode_ls {w : World} {news : List (Addr × Obj)} {ls : List (List Nat)} {D : List Nat} (t : Tok) (hne : ls ≠ []) (h : ∀ l ∈ ls, l ≠ [] ∧ ∀ c ∈ l, Vis c) (hlen : (joinNL ls).length ≤ 1000) (hl6 : ∀ l ∈ ls, l.length ≤ 1000) (hDl : D.length < 1000) (hD : ls.flatMap decL = D ++ [10]) :
    Claim w 2 79 [.str (T (joinNL ls)) t] news (fun v new => (∃ t, v = .str (T D) t) ∧ new = []) :=
  decode_ t hlen hDl (lines_join ls hne h) (fun l hl => ⟨(h l hl).1, rstrip_vis (h l hl).1 (h l hl).2, hl6 l hl, fun c hc => ((h l hl).2 c hc).1⟩) (snoc_join ls hne h) hD
section
variable {w : World} {news : List (Addr × Obj)} {ps : Prs}
theorem decode_w (t : Tok) (h : Ops ps) (hne : ps ≠ []) (hl : ps.length ≤ 16) : Claim w 2 79 [.str (T (wrt ps)) t] news (fun v new => (∃ t, v = .str (T (pln ps)) t) ∧ new = []) := by
  have h1 := wrt_len ps h
  have h2 := pln_len ps h
  refine decode_ls (ls := [wrt ps]) t (by simp) (fun l hl => ?_) (by show (wrt ps).length ≤ _; omega) (fun l hl => ?_) (by omega) ?_
  · rw [List.mem_singleton.mp hl]
    exact ⟨fun e => hne ((wrt_nil h).mp e), wrt_vis h⟩
  · rw [List.mem_singleton.mp hl]; omega
  · simp [wrt_dec ps h hne]
theorem decode_j (t : Tok) (h : Ops ps) (hne : ps ≠ []) (hl : ps.length ≤ 16) : Claim w 2 79 [.str (T (joinNL (jls ps))) t] news (fun v new => (∃ t, v = .str (T (pln ps)) t) ∧ new = []) := by
  have h2 := pln_len ps h
  have h3 := join_len (jls ps) fun l hl => (jls_line ps h l hl).2.1
  rw [jls_len] at h3
  exact decode_ls t (jls_ne hne) (fun l hl => ⟨(jls_line ps h l hl).1, (jls_line ps h l hl).2.2⟩) (by omega) (fun l hl => by have := (jls_line ps h l hl).2.1; omega) (by omega) (jls_dec ps h hne)
theorem header_w (t : Tok) (h : Ops ps) (hl : ps.length ≤ 16) : Claim w 4 93 [.str (T (wrt ps)) t] news (fun v new => (∃ t, v = .str (T (pln ps)) t) ∧ new = []) := by
  have h1 := wrt_len ps h
  have := header_ (w := w) (news := news) (x := wrt ps) t (by omega) (fun c hc => (wrt_vis h c hc).1) (fun hc => (wrt_vis h 95 hc).2.1 rfl)
  rw [wrt_sub ps h] at this
  exact this
theorem read_w (t tm : Tok) (h : Ops ps) (hl : ps.length ≤ 16) : Claim w 1 131 [.str (T (wrt ps)) t, .int ((202 : Nat) : Int) tm] news (fun v new => ∃ a vs n, v = .ref a ∧ new = [(a, listOf vs.toArray n)] ∧ IntsAre vs (iv (num ps)) ∧ vs.length ≤ 1003) := by
  have h1 := wrt_len ps h
  exact read_ t tm (by omega) (wrt_rd ps h)
theorem read_p (t tm : Tok) (h : Ops ps) (hl : ps.length ≤ 16) : Claim w 1 131 [.str (T (pln ps)) t, .int ((0 : Nat) : Int) tm] news (fun v new => ∃ a vs n, v = .ref a ∧ new = [(a, listOf vs.toArray n)] ∧ IntsAre vs (iv (cnt (pln ps))) ∧ vs.length ≤ 1003) := by
  have h2 := pln_len ps h
  exact read_ t tm (by omega) (plain_cut _ (pln_sgs h) (by omega))
end
end
section -- F18
open PySem PySem.W PyProof.Rows PySem.Calls PySem.NumText
set_option maxRecDepth 100000
/-- an item of the row's numbers: the operator and the case of its figures -/
noncomputable def fPr (x : Int) : List Nat × Bool := (opL.getD (x % 48).toNat [], decide ((x / 48) % 2 = 1))
theorem fPr_op (x : Int) : (fPr x).1 ∈ opL ∧ opL[(x % 48).toNat]? = some (fPr x).1 := by
  have h48 : opL.length = 48 := by decide +kernel
  have hlt : (x % 48).toNat < opL.length := by omega
  have e : (fPr x).1 = opL[(x % 48).toNat] := by
    show opL.getD (x % 48).toNat [] = _
    rw [List.getD_eq_getElem?_getD, List.getElem?_eq_getElem hlt]; rfl
  rw [e, List.getElem?_eq_getElem hlt]
  exact ⟨List.getElem_mem hlt, rfl⟩
theorem qm_sg0 : ∀ c ∈ sgs, isT (qt false c) (qm.getD c .none) = true := by decide +kernel
theorem qm_sg {c : Nat} (hc : c ∈ sgs) : ∃ t, qm.getD c .none = .str (T (qt false c)) t := by
  have h := qm_sg0 c hc
  revert h
  generalize qm.getD c .none = v
  intro h
  cases v with
  | str a t => exact ⟨t, by rw [show a = T (qt false c) from eq_of_beq h]⟩
  | _ => cases h
theorem qt_up : ∀ c ∈ sgs, Txt.upper (T (qt false c)) = T (qt false c) := by decide +kernel
theorem qt_lo : ∀ c ∈ sgs, Txt.lower (T (qt false c)) = T (qt true c) := by decide +kernel
theorem sgs_lt : ∀ c ∈ sgs, c < 256 := by decide
noncomputable def lwF : List Stmt := match bd 82 with | _ :: _ :: _ :: .For _ _ b _ _ :: _ => b | _ => []
noncomputable abbrev lfr (sa oa ra pa : Addr) (rest : List (Str × Value)) : List (Str × Value) := (S "script", .ref sa) :: (S "operators", .ref oa) :: (S "row", .ref ra) :: (S "pieces", .ref pa) :: rest
noncomputable def lJ (sa oa ra pa : Addr) (ps : Prs) (base : List (Addr × Obj)) (i : Nat) (fl : List (Str × Value)) (news : List (Addr × Obj)) : Prop :=
  ∃ rest rvs rn pvs pn, fl = lfr sa oa ra pa rest ∧ ((rest = [] ∧ i = 0) ∨ ∃ v1 v2 v3, rest = [(S "x", v1), (S "signs", v2), (S "last", v3)]) ∧ StrsAre rvs ((ps.take i).map fun p => T p.1) ∧ StrsAre pvs ((ps.take i).map fun p => T (pce p.1 p.2)) ∧
    news = (ra, listOf rvs.toArray rn) :: (pa, listOf pvs.toArray pn) :: base
set_option maxHeartbeats 4000000 in
theorem lT {w : World} {A : Around} {g : Heap} {L I : Addr} {gn : Array GenState} {dr : Drawn} {os : OsState} {base own : List (Addr × Obj)} {Q : Flow → Shared → Prop} {h : Heap} {tk : Nat} {sa oa ra pa fa cd : Addr} {ps : Prs} {rvs pvs ovs : List Value} {i rn pn ok : Nat} {n : Int} {tn : Tok} {rest : List (Str × Value)}
    (C : At w A L g) (hd : A.depth + 5 < recursionLimit) (hu : A.units + 16 * 5 < cLine) (hrest : rest = [] ∨ ∃ v2 v3, rest = [(S "signs", v2), (S "last", v3)])
    (hps : ps[i]? = some (fPr n)) (hi : i ≤ 1000) (hov : StrsAre ovs (opL.map T)) (hoa : (oa, listOf ovs.toArray ok) ∈ base) (hrp : ra ≠ pa) (hbr : ∀ p ∈ base, p.1 ≠ ra ∧ p.1 ≠ pa)
    (hrv : StrsAre rvs ((ps.take i).map fun p => T p.1)) (hpv : StrsAre pvs ((ps.take i).map fun p => T (pce p.1 p.2)))
    (hI : ∀ p ∈ (ra, listOf rvs.toArray rn) :: (pa, listOf pvs.toArray pn) :: base, p.1 ≠ I) (hown : ∀ p ∈ own, p.1 ≠ ra ∧ p.1 ≠ pa)
    (F : Fr g L h (lk (lfr sa oa ra pa ((S "x", .int n tn) :: rest)))) (N : News g L h (own ++ (ra, listOf rvs.toArray rn) :: (pa, listOf pvs.toArray pn) :: base)) :
    wpAny (Mo w) A (execs lwF (envOf (fnp 82).name (fnp 82).scope L fa (.ref cd))) (Turn gn dr os g L I own (lJ sa oa ra pa ps base (i + 1)) Q) (fun _ _ => False) ⟨h, gn, dr, tk, os⟩ := by
  obtain ⟨hop, hog⟩ := fPr_op n
  obtain ⟨o, ho⟩ : ∃ o, o = (fPr n).1 := ⟨_, rfl⟩
  rw [← ho] at hop hog
  obtain ⟨a, c, rfl⟩ : ∃ a c, o = a ++ [c] := by
    rcases List.eq_nil_or_concat o with rfl | ⟨a, c, e⟩
    · exact absurd rfl (op_ne _ hop)
    · exact ⟨a, c, by rw [e, List.concat_eq_append]⟩
  have hc : c ∈ sgs := (dc_all _ hop true (bool_mem _)).2.2.2.2 c (by simp)
  have hol : a.length + 1 ≤ 3 := by have := op_len _ hop; simpa using this
  have hfd : ((n.fdiv 48).fmod 2 == 1) = (fPr n).2 := by
    rw [Int.fdiv_eq_ediv_of_nonneg _ (by omega), Int.fmod_eq_emod_of_nonneg _ (by omega)]; rfl
  obtain ⟨tq, hq⟩ := qm_sg hc
  have hql : (qt false c).length = 3 := rfl
  obtain ⟨ty, hy⟩ := Mine.StrsAre.get hov (k := (n % 48).toNat) (y := T (a ++ [c])) (by simp [hog])
  have hfm : n.fmod 48 = (((n % 48).toNat : Nat) : Int) := by rw [Int.fmod_eq_emod_of_nonneg _ (by omega)]; omega
  have hoa' : ∀ {l : List (Addr × Obj)}, (∀ p ∈ base, p ∈ l) → (oa, listOf ovs.toArray ok) ∈ l := fun hl => hl _ hoa
  have hpe : pce (a ++ [c]) (fPr n).2 = a ++ qt (fPr n).2 c := by
    unfold pce
    rw [List.dropLast_concat, List.getLastD_concat]
  have htk : ps.take (i + 1) = ps.take i ++ [fPr n] := by rw [List.take_add_one, hps]; rfl
  have fin : ∀ {h' : Heap} {tk' : Nat} {v1 v2 v3 : Value} {t5 : Tok}, Fr g L h' (lk (lfr sa oa ra pa [(S "x", v1), (S "signs", v2), (S "last", v3)])) → News g L h' ((pa, listOf (pvs ++ [Value.str (T (a ++ qt (fPr n).2 c)) t5]).toArray (pn + 1)) :: oth pa ((ra, listOf (rvs ++ [Value.str (T (a ++ [c])) ty]).toArray (rn + 1)) :: oth ra (own ++ (ra, listOf rvs.toArray rn) :: (pa, listOf pvs.toArray pn) :: base))) →
      Turn gn dr os g L I own (lJ sa oa ra pa ps base (i + 1)) Q .next ⟨h', gn, dr, tk', os⟩ := by
    intro h' tk' v1 v2 v3 t5 F' N'
    refine turn_next (news' := (ra, listOf (rvs ++ [Value.str (T (a ++ [c])) ty]).toArray (rn + 1)) :: (pa, listOf (pvs ++ [Value.str (T (a ++ qt (fPr n).2 c)) t5]).toArray (pn + 1)) :: base) F' (newsSub N' fun p hp => ?_) ?_ ⟨_, _, _, _, _, rfl, .inr ⟨_, _, _, rfl⟩, ?_, ?_, rfl⟩
    · rcases List.mem_append.mp hp with hp | hp
      · exact .tail _ (oth_in (.tail _ (oth_in (List.mem_append_left _ hp) (hown p hp).1)) (hown p hp).2)
      · rcases List.mem_cons.mp hp with rfl | hp
        · exact .tail _ (oth_in (.head _) hrp)
        · rcases List.mem_cons.mp hp with rfl | hp
          · exact .head _
          · exact .tail _ (oth_in (.tail _ (oth_in (List.mem_append_right _ (.tail _ (.tail _ hp))) (hbr p hp).1)) (hbr p hp).2)
    · intro p hp
      rcases List.mem_cons.mp hp with rfl | hp
      · exact hI (ra, listOf rvs.toArray rn) (.head _)
      · rcases List.mem_cons.mp hp with rfl | hp
        · exact hI (pa, listOf pvs.toArray pn) (.tail _ (.head _))
        · exact hI p (.tail _ (.tail _ hp))
    · rw [htk, List.map_append, List.map_cons, List.map_nil, ← ho]
      exact Mine.StrsAre.snoc hrv (T (a ++ [c])) ty
    · rw [htk, List.map_append, List.map_cons, List.map_nil, ← ho, hpe]
      exact Mine.StrsAre.snoc hpv (T (a ++ qt (fPr n).2 c)) t5
  have hpin : ∀ {o' : Obj}, (pa, listOf pvs.toArray pn) ∈ (ra, o') :: oth ra (own ++ (ra, listOf rvs.toArray rn) :: (pa, listOf pvs.toArray pn) :: base) := fun {o'} => .tail _ (oth_in (by simp) (Ne.symm hrp))
  have hpl : pvs.length ≤ 1000 := by rw [Mine.StrsAre.len hpv]; simp; omega
  have hrl : rvs.length ≤ 1000 := by rw [Mine.StrsAre.len hrv]; simp; omega
  rcases hrest with rfl | ⟨v2, v3, rfl⟩
  all_goals
    refine wpAny_execs_cons ?_
    repeat walk_at "m"
    refine mod_int' (by decide) ?_
    rw [hfm]
    refine itemL (n := ok) (k := (n % 48).toNat) N (by simp [hoa]) (by omega) hy ?_ (by with_unfolding_all rfl)
    repeat walk_at "m"
    rename_i h1 F1 N1
    refine gmApp N1 (l := ra) (vs := rvs) (n := rn) (by simp) ?_
    repeat walk_at "m"
    refine appN F1 N1 (vs := rvs) (n := rn) (by simp) (by omega) fun h2 F2 N2 => ?_
    repeat walk_at "m"
    refine nameK C (by assumption) (g_quote _) ?_ (by kernel_rfl) (by kernel_rfl) (by kernel_rfl)
    refine callWith_K C.X (kp_quote _) ?_ (by rfl) (by rfl)
    repeat walk_at "m"
    refine neg_int ?_
    repeat walk_at "m"
    refine itemTL (by omega) ?_ (by with_unfolding_all rfl) (by intro _; with_unfolding_all rfl)
    repeat walk_at "m"
    refine ⟨C.X.keeps (Fr.keep (by assumption)), ?_⟩
    refine use0 (quote_ (sgs_lt c hc) _) C (by assumption) (by assumption) (by omega) (by omega) ?_
    rintro _ h' tk' rfl F' N'
    rw [hq]
    repeat walk_at "m"
    refine SC.upper (by rw [qt_up c hc, T_len, hql]; decide) ?_
    rw [qt_up c hc]
    refine neT (qt false c) ?_ rfl
    repeat walk_at "m"
    refine itN (by simp) ?_
    repeat walk_at "m"
    refine floordiv_int (by decide) ?_ (Or.inl (PyProof.noPylong_small (by omega)))
    repeat walk_at "m"
    refine mod_int' (by decide) ?_
    repeat walk_at "m"
    rw [hfd]
    cases hb : (fPr n).2 with
    | true =>
      rw [hb] at fin
      refine itT ?_
      repeat walk_at "m"
      refine SC.lower (by rw [qt_lo c hc, T_len, show (qt true c).length = 3 from rfl]; decide) ?_
      rw [qt_lo c hc]
      repeat walk_at "m"
      refine gmApp (by assumption) (l := pa) (vs := pvs) (n := pn) hpin ?_
      repeat walk_at "m"
      refine neg_int ?_
      repeat walk_at "m"
      refine sliceTL (by assumption) (by assumption) (by simp; omega) (fun h5 t5 k5 F5 N5 => ?_) (by with_unfolding_all rfl) (by intro _; with_unfolding_all rfl)
      rw [List.dropLast_concat]
      repeat walk_at "m"
      refine addT (by rw [show (qt true c).length = 3 from rfl]; omega) fun t6 k6 => ?_
      repeat walk_at "m"
      refine appN F5 N5 (vs := pvs) (n := pn) hpin (by omega) fun h7 F7 N7 => ?_
      repeat walk_at "m"
      exact fin F7 N7
    | false =>
      rw [hb] at fin
      refine itF ?_
      repeat walk_at "m"
      refine gmApp (by assumption) (l := pa) (vs := pvs) (n := pn) hpin ?_
      repeat walk_at "m"
      refine neg_int ?_
      repeat walk_at "m"
      refine sliceTL (by assumption) (by assumption) (by simp; omega) (fun h5 t5 k5 F5 N5 => ?_) (by with_unfolding_all rfl) (by intro _; with_unfolding_all rfl)
      rw [List.dropLast_concat]
      repeat walk_at "m"
      refine addT (by rw [show (qt false c).length = 3 from rfl]; omega) fun t6 k6 => ?_
      repeat walk_at "m"
      refine appN F5 N5 (vs := pvs) (n := pn) hpin (by omega) fun h7 F7 N7 => ?_
      repeat walk_at "m"
      exact fin F7 N7
end
section -- P5
open PySem PySem.W PyProof.Rows PySem.Builtin.Str PySem.StrLaws
set_option maxRecDepth 100000
set_option linter.unusedVariables false
theorem pjoin0 : ∀ l : List (List Nat), Str.join (T []) (l.map T) = T l.flatten
  | [] => rfl
  | [x] => by simp [Str.join]
  | x :: y :: r => by
    have ih := pjoin0 (y :: r)
    show T x ++ T [] ++ Str.join (T []) ((y :: r).map T) = _
    rw [ih, T_app, T_app]
    simp
theorem join_wrt (ps : Prs) : Txt.join (S "") (ps.map fun p => T (pce p.1 p.2)) = T (wrt ps) := by
  show glued (S "") _ = _
  rw [glued_eq_join, show S "" = T [] by kernel_rfl, show (ps.map fun p => T (pce p.1 p.2)) = (ps.map fun p => pce p.1 p.2).map T by rw [List.map_map]; rfl, pjoin0]
  rfl
theorem join_pln (ps : Prs) : Txt.join (S "") (ps.map fun p => T p.1) = T (pln ps) := by
  show glued (S "") _ = _
  rw [glued_eq_join, show S "" = T [] by kernel_rfl, show (ps.map fun p => T p.1) = (ps.map fun p => p.1).map T by rw [List.map_map]; rfl, pjoin0]
  rfl
theorem join_j0 : ∀ ps : Prs, Str.join (T [61, 10]) (ps.map fun p => T (pce p.1 p.2)) = T (joinNL (jls ps))
  | [] => rfl
  | [p] => rfl
  | p :: q :: r => by
    have ih := join_j0 (q :: r)
    show T (pce p.1 p.2) ++ T [61, 10] ++ Str.join (T [61, 10]) ((q :: r).map fun p => T (pce p.1 p.2)) = T (joinNL (jls (p :: q :: r)))
    rw [ih, T_app, T_app]
    have hj : ∃ x y, jls (q :: r) = x :: y := by
      cases r with
      | nil => exact ⟨_, _, rfl⟩
      | cons => exact ⟨_, _, rfl⟩
    obtain ⟨x, y, hj⟩ := hj
    show _ = T (joinNL ((pce p.1 p.2 ++ [61]) :: jls (q :: r)))
    rw [hj]
    show _ = T ((pce p.1 p.2 ++ [61]) ++ 10 :: joinNL (x :: y))
    simp
theorem join_jls (ps : Prs) : Txt.join (T [61, 10]) (ps.map fun p => T (pce p.1 p.2)) = T (joinNL (jls ps)) := by
  show glued (T [61, 10]) _ = _
  rw [glued_eq_join, join_j0]
theorem sum_le {α : Type} (f : α → Nat) (b : Nat) : ∀ l : List α, (∀ x ∈ l, f x ≤ b) → (l.map f).sum ≤ b * l.length
  | [], _ => by simp
  | x :: r, h => by
    have ih := sum_le f b r fun y hy => h y (List.mem_cons_of_mem _ hy)
    have := h x (.head _)
    rw [List.map_cons, List.sum_cons, List.length_cons, Nat.mul_succ]
    omega
theorem w_pce {ps : Prs} (h : Ops ps) (hl : ps.length ≤ 16) : ((ps.map fun p => T (pce p.1 p.2)).map (·.length)).sum + (ps.map fun p => T (pce p.1 p.2)).length ≤ 1048576 := by
  rw [List.map_map, List.length_map]
  have := sum_le ((fun x : Str => x.length) ∘ fun p : List Nat × Bool => T (pce p.1 p.2)) 5 ps fun p hp => by
    show (T (pce p.1 p.2)).length ≤ 5
    rw [T_len]
    exact (dc_all p.1 (h p hp) p.2 (bool_mem _)).2.2.1
  omega
theorem w_pln {ps : Prs} (h : Ops ps) (hl : ps.length ≤ 16) : ((ps.map fun p => T p.1).map (·.length)).sum + (ps.map fun p => T p.1).length ≤ 1048576 := by
  rw [List.map_map, List.length_map]
  have := sum_le ((fun x : Str => x.length) ∘ fun p : List Nat × Bool => T p.1) 3 ps fun p hp => by
    show (T p.1).length ≤ 3
    rw [T_len]
    exact op_len p.1 (h p hp)
  omega
theorem pnum_len : ∀ o ∈ opL, ∀ b ∈ [true, false], (pnum o b).length ≤ 5 := by decide +kernel
theorem num_len : ∀ ps : Prs, Ops ps → (num ps).length ≤ 5 * ps.length
  | [], _ => by simp [num]
  | p :: r, h => by
    have ih := num_len r fun q hq => h q (List.mem_cons_of_mem _ hq)
    have := pnum_len p.1 (h p (.head _)) p.2 (bool_mem _)
    show (pnum p.1 p.2 ++ num r).length ≤ _
    simp; omega
theorem strOk_T : ∀ p ∈ opL, PyData.strOk (T p) = true := by decide +kernel
end
section -- F19
open PySem PySem.W PyProof.Rows PySem.Calls PySem.NumText
set_option maxRecDepth 100000
noncomputable def lwR : List Stmt := match bd 82 with | _ :: _ :: _ :: _ :: r => r | _ => []
set_option maxHeartbeats 8000000 in
theorem law2_ {w : World} {A : Around} {g : Heap} {L : Addr} {gn : Array GenState} {dr : Drawn} {os : OsState} {hp : Heap} {tk : Nat} {sa oa ra pa fa cd : Addr} {rvs pvs ovs : List Value} {rn pn ok : Nat} {ps : Prs} {v1 v2 v3 : Value}
    (C : At w A L g) (hd : A.depth + 5 < recursionLimit) (hu : A.units + 16 * 5 < cLine) (hops : Ops ps) (hne : ps ≠ []) (hl : ps.length ≤ 16) (hov : StrsAre ovs (opL.map T)) (hrv : StrsAre rvs (ps.map fun p => T p.1)) (hpv : StrsAre pvs (ps.map fun p => T (pce p.1 p.2)))
    (F : Fr g L hp (lk (lfr sa oa ra pa [(S "x", v1), (S "signs", v2), (S "last", v3)]))) (N : News g L hp [(ra, listOf rvs.toArray rn), (pa, listOf pvs.toArray pn), (oa, listOf ovs.toArray ok)]) :
    wpAny (Mo w) A (execs lwR (envOf (fnp 82).name (fnp 82).scope L fa (.ref cd))) (fun f s' => f = .ret (.bool true) ∧ ∃ h' tk' m', s' = ⟨h', gn, dr, tk', os⟩ ∧ Fr g L h' m') (fun _ _ => False) ⟨hp, gn, dr, tk, os⟩ := by
  refine wpAny_execs_cons ?_
  repeat walk_at "m"
  refine join_listW (s := ⟨_, _, _, _, _⟩) (isL N (l := pa) (vs := pvs) (n := pn) (by simp)) (by simpa using hpv) (by decide +kernel) (w_pce hops hl) fun t1 k1 => ?_
  rw [show Str.ofString "" = S "" from rfl, join_wrt]
  repeat walk_at "m"
  rename_i h2 F2 N2
  refine join_listW (s := ⟨_, _, _, _, _⟩) (isL N2 (l := ra) (vs := rvs) (n := rn) (by simp)) (by simpa using hrv) (by decide +kernel) (w_pln hops hl) fun t3 k3 => ?_
  rw [join_pln]
  repeat walk_at "m"
  rename_i h4 F4 N4
  clear F N F2 N2
  refine nameK C F4 (g_decode _) ?_ (by kernel_rfl) (by kernel_rfl) (by kernel_rfl)
  refine callWith_K C.X (kp_decode _) ?_ (by rfl) (by rfl)
  repeat walk_at "m"
  refine ⟨C.X.keeps (Fr.keep F4), ?_⟩
  refine use0 (decode_w _ hops hne hl) C F4 N4 (by omega) (by omega) ?_
  rintro _ h5 k5 ⟨t5, rfl⟩ F5 N5
  repeat walk_at "m"
  refine neT (pln ps) ?_ rfl
  repeat walk_at "m"
  refine itN (by simp) ?_
  repeat walk_at "m"
  refine nameK C F5 (g_decode _) ?_ (by kernel_rfl) (by kernel_rfl) (by kernel_rfl)
  refine callWith_K C.X (kp_decode _) ?_ (by rfl) (by rfl)
  repeat walk_at "m"
  rw [show Str.ofString "=\n" = T [61, 10] by kernel_rfl]
  refine join_listW (s := ⟨_, _, _, _, _⟩) (isL N5 (l := pa) (vs := pvs) (n := pn) (by simp)) (by simpa using hpv) (by decide) (w_pce hops hl) fun t6 k6 => ?_
  rw [join_jls]
  repeat walk_at "m"
  refine ⟨C.X.keeps (Fr.keep F5), ?_⟩
  refine use0 (decode_j _ hops hne hl) C F5 N5 (by omega) (by omega) ?_
  rintro _ h7 k7 ⟨t7, rfl⟩ F7 N7
  clear F4 N4 F5 N5
  repeat walk_at "m"
  refine neT (pln ps) ?_ rfl
  repeat walk_at "m"
  refine itN (by simp) ?_
  repeat walk_at "m"
  refine nameK C F7 (g_header_decode _) ?_ (by kernel_rfl) (by kernel_rfl) (by kernel_rfl)
  refine callWith_K C.X (kp_header_decode _) ?_ (by rfl) (by rfl)
  repeat walk_at "m"
  refine ⟨C.X.keeps (Fr.keep F7), ?_⟩
  refine use0 (header_w _ hops hl) C F7 N7 (by omega) (by omega) ?_
  rintro _ h8 k8 ⟨t8, rfl⟩ F8 N8
  clear F7 N7
  repeat walk_at "m"
  refine neT (pln ps) ?_ rfl
  repeat walk_at "m"
  refine itN (by simp) ?_
  repeat walk_at "m"
  refine itF ?_
  repeat walk_at "m"
  refine nameK C F8 (g_law_units _) ?_ (by kernel_rfl) (by kernel_rfl) (by kernel_rfl)
  refine callWith_K C.X (kp_law_units _) ?_ (by rfl) (by rfl)
  repeat walk_at "m"
  refine nameK C F8 (g_law_read _) ?_ (by kernel_rfl) (by kernel_rfl) (by kernel_rfl)
  refine callWith_K C.X (kp_law_read _) ?_ (by rfl) (by rfl)
  repeat walk_at "m"
  refine ⟨C.X.keeps (Fr.keep F8), ?_⟩
  refine use (read_w _ _ hops hl) C F8 N8 (by omega) (by omega) ?_
  rintro _ _ h9 k9 ⟨a9, vs9, n9, rfl, rfl, hi9, hl9⟩ F9 N9
  clear F8 N8
  repeat walk_at "m"
  refine newLt F9 N9 (by simp) fun b9 h10 F10 N10 hb9 => ?_
  clear F9 N9
  repeat walk_at "m"
  refine addL (n := n9) (k := 0) F10 N10 (.tail _ (.head _)) (.head _) (by simp; omega) fun c9 h11 F11 N11 hc9 => ?_
  clear F10 N10
  repeat walk_at "m"
  refine ⟨C.X.keeps (Fr.keep F11), ?_⟩
  have hs9 : IntsAre (vs9 ++ [Value.int 0 k9]) (iv (num ps ++ [0])) := by
    rw [show iv (num ps ++ [0]) = iv (num ps) ++ [0] by simp [iv]]
    exact IntsAre.snoc hi9 0 k9
  have hnl := num_len ps hops
  refine use (units_ (syms := num ps ++ [0]) (ops := opL) (out := ps.map (·.1)) (ovs := ovs) (svs := vs9 ++ [Value.int 0 k9]) (ok := ok) (sk := 0) (by rw [List.length_append, List.length_singleton]; omega) op_len (by simp) (.head _) hov hs9 (wrt_un ps hops)) C F11 N11 (by omega) (by omega) ?_
  rintro _ _ h12 k12 ⟨a12, vs12, n12, rfl, rfl, hi12, _⟩ F12 N12
  have hok : ∀ n ∈ (ps.map (·.1)).map T, PyData.strOk n = true := fun n hn => by
    rw [List.map_map] at hn
    obtain ⟨p, hp, rfl⟩ := List.mem_map.mp hn
    exact strOk_T p.1 (hops p hp)
  have hrv' : StrsAre rvs ((ps.map (·.1)).map T) := by rw [List.map_map]; exact hrv
  have N13 : News g L h12 [(a12, listOf vs12.toArray n12), (ra, listOf rvs.toArray rn), (pa, listOf pvs.toArray pn), (oa, listOf ovs.toArray ok)] := newsSub N12 fun p hp => by
    simp only [List.mem_cons, List.mem_append, List.not_mem_nil, or_false] at hp ⊢
    rcases hp with h | h | h | h <;> simp [h]
  clear F11 N11 N12
  repeat walk_at "m"
  refine ne_strsK (s := ⟨_, _, _, _, _⟩) (isL N13 (vs := vs12) (n := n12) (.head _)) hi12 (isL N13 (vs := rvs) (n := rn) (.tail _ (.head _))) hrv' (by omega) hok hok ?_
  repeat walk_at "m"
  refine itN (by simp) ?_
  repeat walk_at "m"
  refine nameK C F12 (g_law_read _) ?_ (by kernel_rfl) (by kernel_rfl) (by kernel_rfl)
  refine callWith_K C.X (kp_law_read _) ?_ (by rfl) (by rfl)
  repeat walk_at "m"
  refine ⟨C.X.keeps (Fr.keep F12), ?_⟩
  refine use (read_p _ _ hops hl) C F12 N13 (by omega) (by omega) ?_
  rintro _ _ h14 k14 ⟨a14, vs14, n14, rfl, rfl, hi14, hl14⟩ F14 N14
  clear F12 N13
  repeat walk_at "m"
  refine nameK C F14 (g_law_counted _) ?_ (by kernel_rfl) (by kernel_rfl) (by kernel_rfl)
  refine callWith_K C.X (kp_law_counted _) ?_ (by rfl) (by rfl)
  repeat walk_at "m"
  refine ⟨C.X.keeps (Fr.keep F14), ?_⟩
  have hpl := pln_len ps hops
  refine use (counted_ (oa := oa) (ovs := ovs) (ok := ok) _ (pln_ne hops hne) (by omega) (pln_sgs hops) (by simp) hov) C F14 N14 (by omega) (by omega) ?_
  rintro _ _ h15 k15 ⟨a15, vs15, n15, rfl, rfl, hi15, hl15⟩ F15 N15
  refine eq_intsK (s := ⟨_, _, _, _, _⟩) (isL N15 (l := a14) (vs := vs14) (n := n14) (by simp)) hi14 (isL N15 (l := a15) (vs := vs15) (n := n15) (by simp)) hi15 (by omega) ?_
  repeat walk_at "m"
  exact ⟨by rw [decide_eq_true rfl], h15, k15, _, rfl, F15⟩
end
section -- F20
open PySem PySem.W PyProof.Rows PySem.Calls PySem.NumText
set_option maxRecDepth 100000
theorem ints_inv {vs : List Value} {ns : List Int} (h : IntsAre vs ns) : ∀ {i : Nat} {v : Value}, vs[i]? = some v → ∃ n t, ns[i]? = some n ∧ v = .int n t := by
  induction h with
  | nil => intro i v h; simp at h
  | cons a u _ ih =>
    intro i v h
    cases i with
    | zero => simp at h; exact ⟨a, u, rfl, h.symm⟩
    | succ i => exact ih (by simpa using h)
noncomputable def numsL (sns : List Int) : List Int := [46, 57, 28, 8, 38, 47, 20, 16, 16, 45] ++ sns.take 6
noncomputable def psL (sns : List Int) : Prs := (numsL sns).map fPr
set_option maxHeartbeats 8000000 in
theorem law_ {w : World} {A : Around} {g : Heap} {L : Addr} {gn : Array GenState} {dr : Drawn} {os : OsState} {hp : Heap} {tk : Nat} {sa fa cd : Addr} {svs : List Value} {sns : List Int}
    (C : At w A L g) (hd : A.depth + 5 < recursionLimit) (hu : A.units + 16 * 5 < cLine) (hsl : g.IsList sa svs.toArray) (hsi : IntsAre svs sns) (hlen : sns.length ≤ 63) (F : Fr g L hp (lk [(S "script", .ref sa)])) :
    wpAny (Mo w) A (execs (bd 82) (envOf (fnp 82).name (fnp 82).scope L fa (.ref cd))) (fun f s' => f = .ret (.bool true) ∧ ∃ h' tk' m', s' = ⟨h', gn, dr, tk', os⟩ ∧ Fr g L h' m') (fun _ _ => False) ⟨hp, gn, dr, tk, os⟩ := by
  have N : News g L hp [] := fun _ hp => nomatch hp
  refine wpAny_execs_cons ?_
  repeat walk_at "m"
  refine nameK C (by assumption) (g_law_operators _) ?_ (by kernel_rfl) (by kernel_rfl) (by kernel_rfl)
  refine callWith_K0 (C.X.keeps (Fr.keep F)) (kp_law_operators _) ?_
  refine use ops_ C F N (by omega) (by omega) ?_
  rintro _ _ h1 tk1 ⟨oa, ovs, ok, rfl, rfl, hov⟩ F1 N1
  repeat walk_at "m"
  refine newLt (by assumption) (by assumption) (by simp) fun ra h3 F3 N3 hna3 => ?_
  repeat walk_at "m"
  refine newLt (by assumption) (by assumption) (by simp) fun pa h4 F4 N4 hna4 => ?_
  repeat walk_at "m"
  rename_i h5 F5 N5
  have F6 : Fr g L h5 (lk (lfr sa oa ra pa [])) := F5
  have N6 : News g L h5 ((ra, listOf ([] : List Value).toArray 0) :: (pa, listOf ([] : List Value).toArray 0) :: [(oa, listOf ovs.toArray ok)]) := newsSub N5 fun p hp => by
    simp only [List.mem_cons, List.mem_append, List.not_mem_nil, or_false] at hp ⊢
    rcases hp with h | h | h
    · exact .inr (.inl h)
    · exact .inl h
    · exact .inr (.inr h)
  have hoar : oa ≠ ra := Nat.ne_of_lt (hna3 (oa, listOf ovs.toArray ok) (by simp))
  have hoap : oa ≠ pa := Nat.ne_of_lt (hna4 (oa, listOf ovs.toArray ok) (by simp))
  have hrp : ra ≠ pa := Nat.ne_of_lt (hna4 (ra, listOf ([] : List Value).toArray 0) (.head _))
  clear F F1 N1 F3 N3 hna3 F4 N4 hna4 F5 N5 N
  with_reducible refine For_invV g ?a ?b ?_ ?c ?d
  case a => kernel_rfl
  case b => kernel_rfl
  case c => intro _; rfl
  case d => exact PassesOwn.never
  repeat walk_at "m"
  refine newLt F6 N6 (by simp) fun la h7 F7 N7 hna7 => ?_
  repeat walk_at "m"
  have hsl7 : h7.IsList sa svs.toArray := hsl.at fun o e => F7.keep _ _ e
  refine kmk_slice_lit (s := ⟨h7, gn, dr, _, os⟩) (zs := (slicePick svs.toArray none (some 6) none).toList) F7 N7 hsl7 .none (.int 6 _) rfl (fun ma h8 F8 N8 hna8 => ?_) (by with_unfolding_all rfl) (by intro _; with_unfolding_all rfl) (by rw [List.size_toArray, Mine.IntsAre.len hsi, sizeLine_eq]; omega)
  have hsi8 : IntsAre (slicePick svs.toArray none (some 6) none).toList (sns.take 6) := kmk_upto hsi (by decide)
  have hsl8 := Mine.IntsAre.len hsi8
  have ht6 : (sns.take 6).length ≤ 6 := by rw [List.length_take]; omega
  generalize (slicePick svs.toArray none (some 6) none).toList = tvs at hsi8 hsl8 N8
  refine addL (n := 0) (k := 0) F8 N8 (.tail _ (.head _)) (.head _) (by simp; omega) fun na h9 F9 N9 hna9 => ?_
  have hall : ∃ lvs : List Value, IntsAre lvs (numsL sns) ∧ News g L h9 ((na, listOf lvs.toArray 0) :: [(ra, listOf ([] : List Value).toArray 0), (pa, listOf ([] : List Value).toArray 0), (oa, listOf ovs.toArray ok)]) :=
    ⟨_, IntsAre.append (.cons 46 _ (.cons 57 _ (.cons 28 _ (.cons 8 _ (.cons 38 _ (.cons 47 _ (.cons 20 _ (.cons 16 _ (.cons 16 _ (.cons 45 _ .nil)))))))))) hsi8, newsSub N9 fun p hp => by
      rcases List.mem_cons.mp hp with rfl | hp
      · exact .head _
      · exact .tail _ (.tail _ (.tail _ hp))⟩
  have hnr : na ≠ ra ∧ na ≠ pa := ⟨Nat.ne_of_gt (hna9 (ra, listOf ([] : List Value).toArray 0) (by simp)), Nat.ne_of_gt (hna9 (pa, listOf ([] : List Value).toArray 0) (by simp))⟩
  obtain ⟨lvs, hli, N10⟩ := hall
  clear F6 N6 F7 N7 hna7 F8 N8 hna8 N9 hna9 hsl7 hsi8 hsl8
  have hnl : (numsL sns).length ≤ 16 ∧ 10 ≤ (numsL sns).length := by
    unfold numsL
    rw [List.length_append]
    show 10 + _ ≤ 16 ∧ 10 ≤ 10 + _
    omega
  have hlvl : lvs.length = (psL sns).length := by rw [Mine.IntsAre.len hli, psL, List.length_map]
  have hpl : (psL sns).length = (numsL sns).length := List.length_map ..
  have hops : Ops (psL sns) := fun p hp => by
    obtain ⟨x, _, rfl⟩ := List.mem_map.mp hp
    exact (fPr_op x).1
  refine iterL C.hh (isL N10 (.head _)) (N10 _ (.head _)).2.1 (lJ sa oa ra pa (psL sns) [(oa, listOf ovs.toArray ok)]) F9 (newsSub N10 fun p hp => .tail _ hp) ⟨[], [], 0, [], 0, rfl, .inl ⟨rfl, rfl⟩, .nil, .nil, rfl⟩ ?_ ?_
  · rintro I i v fl news₁ h tk' own hv ⟨rest, rvs, rn, pvs, pn, rfl, hrest, hrv, hpv, rfl⟩ hI hown _ F N
    obtain ⟨n, tn, hn, rfl⟩ := ints_inv hli hv
    have hps : (psL sns)[i]? = some (fPr n) := by unfold psL; rw [List.getElem?_map, hn]; rfl
    have hi : i ≤ 1000 := by
      have : i < (psL sns).length := by
        by_cases q : i < (psL sns).length
        · exact q
        · rw [List.getElem?_eq_none (by omega)] at hps; cases hps
      omega
    have hown' : ∀ p ∈ own, p.1 ≠ ra ∧ p.1 ≠ pa := fun p hp => by
      rcases hown p hp with e | e
      · rw [e]
        exact ⟨fun q => hI (ra, listOf rvs.toArray rn) (.head _) q.symm, fun q => hI (pa, listOf pvs.toArray pn) (.tail _ (.head _)) q.symm⟩
      · rw [e]; exact hnr
    have hbr : ∀ p ∈ [(oa, listOf ovs.toArray ok)], p.1 ≠ ra ∧ p.1 ≠ pa := fun p hp => by rw [List.mem_singleton.mp hp]; exact ⟨hoar, hoap⟩
    rcases hrest with ⟨rfl, _⟩ | ⟨v1, v2, v3, rfl⟩
    · exact lT C hd hu (.inl rfl) hps hi hov (.head _) hrp hbr hrv hpv hI hown' F N
    · exact lT C hd hu (.inr ⟨_, _, rfl⟩) hps hi hov (.head _) hrp hbr hrv hpv hI hown' F N
  · rintro fl news₁ h tk' ⟨rest, rvs, rn, pvs, pn, rfl, hrest, hrv, hpv, rfl⟩ F N
    rw [hlvl, List.take_length] at hrv hpv
    rcases hrest with ⟨_, h0⟩ | ⟨v1, v2, v3, rfl⟩
    · exfalso; omega
    exact law2_ C hd hu hops (fun e => by rw [e] at hpl; simp at hpl; omega) (by omega) hov hrv hpv F N
end
section -- F21
open PySem PySem.W PyProof.Rows PySem.Calls PySem.NumText
set_option maxRecDepth 100000
theorem lawD_body : lawD.body = bd 82 := by kernel_rfl
theorem lawD_name : lawD.name = (fnp 82).name := by kernel_rfl
theorem lawD_scope : lawD.scope = (fnp 82).scope := by kernel_rfl
set_option maxHeartbeats 4000000 in
theorem walk0 : WalkO qE lo (XL qE []) (kHook K asK asK_eq).says rwE.row.toRowW lawD [] fun f vs => call f vs := by
  intro w s₀ s₁ mg mb G Y fa o pm cd doc dV kV ho hd hcd hD hmg hg args vals as hpre hlay hrd hwl hlo
  have KX := kIn_of Y
  k_behind G ho hd hcd hD hmg hpre hlay hrd hwl hlo cd
  rename_i T B TE TW b1 b2 M cdn b3 sns hs0 hlay0 hL0 hr0 hl20 as1 as2 sa svs as3 hsl hra hw1 hr1 hsi hr2 hc1 hc2 K0 h1 F N
  have hlen : sns.length ≤ 63 := by omega
  have C : At w (callerA.deeper (envOf lawD.name lawD.scope s₁.heap.objs.size fa (Value.ref cdn))) s₁.heap.objs.size s₁.heap :=
    ⟨⟨callerA, _, _, [], K0, rfl, rfl, rfl⟩, KX, ⟨_, _, _, T⟩, rfl⟩
  have F' : Fr s₁.heap s₁.heap.objs.size h1 (lk [(S "script", Value.ref sa)]) := F
  rw [lawD_body]
  rw [lawD_name, lawD_scope] at C ⊢
  refine wpAny_mono (law_ (w := w) (gn := s₁.gens) (dr := s₁.drawn) (os := s₁.os) (fa := fa) (cd := cdn) C (Nat.le_of_ble_eq_true rfl) (Nat.le_of_ble_eq_true rfl) hsl hsi hlen F') ?_ ?_
  · rintro f s' ⟨rfl, h', tk', m', rfl, F2⟩
    refine ⟨.inl ⟨.bool true, ofPy (.bool true), [], rfl, fun _ => rfl, ?_, ?_, ?_⟩, fun b o e => F2.keep b o e, rfl, hg⟩
    · exact .bool true
    · first | rfl | kernel_rfl
    · exact fun _ => ⟨List.nodup_nil, fun _ h => nomatch h⟩
  · intro _ _ x
    exact x.elim
end
end
end Mine
end
theorem PySem.Challenge.cw_rs0129_01_holds : PySem.Challenge.rw_rs0129_01.Holds :=
  Mine.hd Mine.walk0
