import PyProof.Rows.All
import Wide.All
import OpenK.AllK
import Wide.FinOn
import KE.BitLaws
import Open.Script
import PySem.Challenge.RW_az0025_01
set_option Elab.async false
set_option maxRecDepth 100000
set_option linter.all false
section
open PySem PySem.W
set_option maxRecDepth 100000
set_option linter.unusedVariables false
namespace Mine
/-- the law's text -/
abbrev prog0 : Program := OpenLaw.prog PySem.Challenge.rw_az0025_01
noncomputable def body0 : List Stmt := behindTheImports prog0
noncomputable def st (i : Nat) : Stmt := body0.getD i (.Pass default)
noncomputable def inC (s : Stmt) (j : Nat) : Stmt := match s with
  | .ClassDef _ _ _ b .. => b.getD j (.Pass default)
  | s => s
noncomputable def fA : Stmt → Arguments
  | .FunctionDef _ a .. => a
  | _ => ⟨[], [], none, [], [], none, []⟩
noncomputable def fB : Stmt → List Stmt
  | .FunctionDef _ _ b .. => b
  | _ => []
noncomputable def fS : Stmt → Scope
  | .FunctionDef _ _ _ _ _ _ s .. => s
  | _ => prog0.main.scope
@[reducible] def vs (x : String) (t : Nat) : Value := .str (Str.ofString x) t
@[reducible] def vr (a : Nat) : Value := .ref a
@[reducible] def vi (i : Int) (t : Nat) : Value := .int i t
@[reducible] def de (P : Params) (x : String) (t : Nat) (v : Value) : DictEntry := ⟨PyData.keyHash P (Str.ofString x), .str (Str.ofString x) t, v⟩
@[reducible] def tu (l : List Value) : Obj := ⟨.type "tuple", none, .seq l.toArray 0, #[]⟩
@[reducible] def fo (x : String) (l : List Value) : Obj := ⟨.type x, none, .fields l.toArray, #[]⟩
@[reducible] def di (l : List DictEntry) (n : Nat) : Obj := ⟨.type "dict", none, .dict l.toArray n, #[]⟩

noncomputable def o0 (P : Params) : Obj := (di [(de P "__name__" 1 (vs "builtins" 160)), (de P "__doc__" 2 (Value.builtin "builtins.__doc__:str#opaque")), (de P "__package__" 3 (Value.builtin "builtins.__package__:str#opaque")), (de P "__loader__" 4 (Value.builtin "builtins.__loader__:shared#opaque")), (de P "__spec__" 5 (Value.builtin "builtins.__spec__#opaque")), (de P "__build_class__" 6 (Value.builtin "__build_class__")), (de P "__import__" 7 (Value.builtin "__import__")), (de P "abs" 8 (Value.builtin "abs")), (de P "all" 9 (Value.builtin "all")), (de P "any" 10 (Value.builtin "any")), (de P "ascii" 11 (Value.builtin "ascii")), (de P "bin" 12 (Value.builtin "bin")), (de P "breakpoint" 13 (Value.builtin "breakpoint")), (de P "callable" 14 (Value.builtin "callable")), (de P "chr" 15 (Value.builtin "chr")), (de P "compile" 16 (Value.builtin "compile")), (de P "delattr" 17 (Value.builtin "delattr")), (de P "dir" 18 (Value.builtin "dir")), (de P "divmod" 19 (Value.builtin "divmod")), (de P "eval" 20 (Value.builtin "eval")), (de P "exec" 21 (Value.builtin "exec")), (de P "format" 22 (Value.builtin "format")), (de P "getattr" 23 (Value.builtin "getattr")), (de P "globals" 24 (Value.builtin "globals")), (de P "hasattr" 25 (Value.builtin "hasattr")), (de P "hash" 26 (Value.builtin "hash")), (de P "hex" 27 (Value.builtin "hex")), (de P "id" 28 (Value.builtin "id")), (de P "input" 29 (Value.builtin "input")), (de P "isinstance" 30 (Value.builtin "isinstance")), (de P "issubclass" 31 (Value.builtin "issubclass")), (de P "iter" 32 (Value.builtin "iter")), (de P "aiter" 33 (Value.builtin "aiter")), (de P "len" 34 (Value.builtin "len")), (de P "locals" 35 (Value.builtin "locals")), (de P "max" 36 (Value.builtin "max")), (de P "min" 37 (Value.builtin "min")), (de P "next" 38 (Value.builtin "next")), (de P "anext" 39 (Value.builtin "anext")), (de P "oct" 40 (Value.builtin "oct")), (de P "ord" 41 (Value.builtin "ord")), (de P "pow" 42 (Value.builtin "pow")), (de P "print" 43 (Value.builtin "print")), (de P "repr" 44 (Value.builtin "repr")), (de P "round" 45 (Value.builtin "round")), (de P "setattr" 46 (Value.builtin "setattr")), (de P "sorted" 47 (Value.builtin "sorted")), (de P "sum" 48 (Value.builtin "sum")), (de P "vars" 49 (Value.builtin "vars")), (de P "None" 50 Value.none), (de P "Ellipsis" 51 Value.ellipsis), (de P "NotImplemented" 52 Value.notImplemented), (de P "False" 53 (Value.bool false)), (de P "True" 54 (Value.bool true)), (de P "bool" 55 (Value.type "bool")), (de P "memoryview" 56 (Value.type "memoryview")), (de P "bytearray" 57 (Value.type "bytearray")), (de P "bytes" 58 (Value.type "bytes")), (de P "classmethod" 59 (Value.type "classmethod")), (de P "complex" 60 (Value.type "complex")), (de P "dict" 61 (Value.type "dict")), (de P "enumerate" 62 (Value.type "enumerate")), (de P "filter" 63 (Value.type "filter")), (de P "float" 64 (Value.type "float")), (de P "frozenset" 65 (Value.type "frozenset")), (de P "property" 66 (Value.type "property")), (de P "int" 67 (Value.type "int")), (de P "list" 68 (Value.type "list")), (de P "map" 69 (Value.type "map")), (de P "object" 70 (Value.type "object")), (de P "range" 71 (Value.type "range")), (de P "reversed" 72 (Value.type "reversed")), (de P "set" 73 (Value.type "set")), (de P "slice" 74 (Value.type "slice")), (de P "staticmethod" 75 (Value.type "staticmethod")), (de P "str" 76 (Value.type "str")), (de P "super" 77 (Value.type "super")), (de P "tuple" 78 (Value.type "tuple")), (de P "type" 79 (Value.type "type")), (de P "zip" 80 (Value.type "zip")), (de P "__debug__" 81 (Value.bool true)), (de P "BaseException" 82 (Value.type "BaseException")), (de P "BaseExceptionGroup" 83 (Value.type "BaseExceptionGroup")), (de P "Exception" 84 (Value.type "Exception")), (de P "GeneratorExit" 85 (Value.type "GeneratorExit")), (de P "KeyboardInterrupt" 86 (Value.type "KeyboardInterrupt")), (de P "SystemExit" 87 (Value.type "SystemExit")), (de P "ArithmeticError" 88 (Value.type "ArithmeticError")), (de P "AssertionError" 89 (Value.type "AssertionError")), (de P "AttributeError" 90 (Value.type "AttributeError")), (de P "BufferError" 91 (Value.type "BufferError")), (de P "EOFError" 92 (Value.type "EOFError")), (de P "ImportError" 93 (Value.type "ImportError")), (de P "LookupError" 94 (Value.type "LookupError")), (de P "MemoryError" 95 (Value.type "MemoryError")), (de P "NameError" 96 (Value.type "NameError")), (de P "OSError" 97 (Value.type "OSError")), (de P "ReferenceError" 98 (Value.type "ReferenceError")), (de P "RuntimeError" 99 (Value.type "RuntimeError")), (de P "StopAsyncIteration" 100 (Value.type "StopAsyncIteration")), (de P "StopIteration" 101 (Value.type "StopIteration")), (de P "SyntaxError" 102 (Value.type "SyntaxError")), (de P "SystemError" 103 (Value.type "SystemError")), (de P "TypeError" 104 (Value.type "TypeError")), (de P "ValueError" 105 (Value.type "ValueError")), (de P "Warning" 106 (Value.type "Warning")), (de P "FloatingPointError" 107 (Value.type "FloatingPointError")), (de P "OverflowError" 108 (Value.type "OverflowError")), (de P "ZeroDivisionError" 109 (Value.type "ZeroDivisionError")), (de P "BytesWarning" 110 (Value.type "BytesWarning")), (de P "DeprecationWarning" 111 (Value.type "DeprecationWarning")), (de P "EncodingWarning" 112 (Value.type "EncodingWarning")), (de P "FutureWarning" 113 (Value.type "FutureWarning")), (de P "ImportWarning" 114 (Value.type "ImportWarning")), (de P "PendingDeprecationWarning" 115 (Value.type "PendingDeprecationWarning")), (de P "ResourceWarning" 116 (Value.type "ResourceWarning")), (de P "RuntimeWarning" 117 (Value.type "RuntimeWarning")), (de P "SyntaxWarning" 118 (Value.type "SyntaxWarning")), (de P "UnicodeWarning" 119 (Value.type "UnicodeWarning")), (de P "UserWarning" 120 (Value.type "UserWarning")), (de P "BlockingIOError" 121 (Value.type "BlockingIOError")), (de P "ChildProcessError" 122 (Value.type "ChildProcessError")), (de P "ConnectionError" 123 (Value.type "ConnectionError")), (de P "FileExistsError" 124 (Value.type "FileExistsError")), (de P "FileNotFoundError" 125 (Value.type "FileNotFoundError")), (de P "InterruptedError" 126 (Value.type "InterruptedError")), (de P "IsADirectoryError" 127 (Value.type "IsADirectoryError")), (de P "NotADirectoryError" 128 (Value.type "NotADirectoryError")), (de P "PermissionError" 129 (Value.type "PermissionError")), (de P "ProcessLookupError" 130 (Value.type "ProcessLookupError")), (de P "TimeoutError" 131 (Value.type "TimeoutError")), (de P "IndentationError" 132 (Value.type "IndentationError")), (de P "_IncompleteInputError" 133 (Value.type "_IncompleteInputError")), (de P "IndexError" 134 (Value.type "IndexError")), (de P "KeyError" 135 (Value.type "KeyError")), (de P "ModuleNotFoundError" 136 (Value.type "ModuleNotFoundError")), (de P "NotImplementedError" 137 (Value.type "NotImplementedError")), (de P "PythonFinalizationError" 138 (Value.type "PythonFinalizationError")), (de P "RecursionError" 139 (Value.type "RecursionError")), (de P "UnboundLocalError" 140 (Value.type "UnboundLocalError")), (de P "UnicodeError" 141 (Value.type "UnicodeError")), (de P "BrokenPipeError" 142 (Value.type "BrokenPipeError")), (de P "ConnectionAbortedError" 143 (Value.type "ConnectionAbortedError")), (de P "ConnectionRefusedError" 144 (Value.type "ConnectionRefusedError")), (de P "ConnectionResetError" 145 (Value.type "ConnectionResetError")), (de P "TabError" 146 (Value.type "TabError")), (de P "UnicodeDecodeError" 147 (Value.type "UnicodeDecodeError")), (de P "UnicodeEncodeError" 148 (Value.type "UnicodeEncodeError")), (de P "UnicodeTranslateError" 149 (Value.type "UnicodeTranslateError")), (de P "ExceptionGroup" 150 (Value.type "ExceptionGroup")), (de P "EnvironmentError" 151 (Value.type "OSError")), (de P "IOError" 152 (Value.type "OSError")), (de P "open" 153 (Value.builtin "open")), (de P "quit" 154 (Value.builtin "builtins.quit#opaque")), (de P "exit" 155 (Value.builtin "builtins.exit#opaque")), (de P "copyright" 156 (Value.builtin "builtins.copyright#opaque")), (de P "credits" 157 (Value.builtin "builtins.credits#opaque")), (de P "license" 158 (Value.builtin "builtins.license#opaque")), (de P "help" 159 (Value.builtin "builtins.help#opaque"))] 159)
noncomputable def o1 (P : Params) : Obj := (di [(de P "builtins" 162 (vr 4)), (de P "__main__" 163 (vr 5))] 2)
noncomputable def o2 (P : Params) : Obj := (Obj.mk Value.none none (Data.dict (List.toArray [(de P "type.__subclasses__.Exception.0" 220 (vi 31 0)), (de P "type.__subclasses__.Exception.n" 221 (vi 1 0))]) 2) #[])
noncomputable def o3 (P : Params) : Obj := (di [(de P "__name__" 165 (vs "law_az0025_01" 25884)), (de P "__doc__" 166 Value.none), (de P "__package__" 167 Value.none), (de P "__loader__" 168 (Value.builtin "__main__.__loader__#opaque")), (de P "__spec__" 169 Value.none), (de P "__annotations__" 170 (vr 6)), (de P "__builtins__" 171 (vr 4)), (de P "__file__" 173 (vs "/claim/cut.py" 172)), (de P "__cached__" 174 Value.none), (de P "_wall" 193 (vr 21)), (de P "INET_PTON" 197 (vi 1 196)), (de P "ZEROFILL" 199 (vi 2 198)), (de P "NOHOST" 201 (vi 4 200)), (de P "INET_ATON" 203 (vi 8 202)), (de P "AddrFormatError" 223 (vr 31)), (de P "bytes_to_bits" 236 (vr 41)), (de P "BYTES_TO_BITS" 20215 (vr 43)), (de P "int_to_words" 20229 (vr 2114)), (de P "int_to_words_strategy" 20230 (vr 1335)), (de P "int_to_bits" 20245 (vr 2122)), (de P "int_to_bits_strategy" 20246 (vr 1343)), (de P "AF_INET" 20250 (vi 2 20249)), (de P "AF_INET6" 20252 (vi 10 20251)), (de P "inet_ntoa" 20259 (vr 1350)), (de P "_compact_ipv6_tokens" 20276 (vr 1357)), (de P "inet_ntop" 20282 (vr 1362)), (de P "_inet_pton_af_inet" 20288 (vr 1367)), (de P "inet_pton" 20294 (vr 1372)), (de P "_aton_number" 20305 (vr 1379)), (de P "inet_aton" 20316 (vr 1386)), (de P "width_ipv4" 20320 (vi 32 20319)), (de P "word_size_ipv4" 20322 (vi 8 20321)), (de P "family_name_ipv4" 20324 (vs "IPv4" 20323)), (de P "version_ipv4" 20326 (vi 4 20325)), (de P "max_int_ipv4" 20331 (vi 4294967295 20330)), (de P "num_words_ipv4" 20333 (vi 4 20332)), (de P "prefix_to_netmask_ipv4" 20638 (vr 1426)), (de P "netmask_to_prefix_ipv4" 20943 (vr 1471)), (de P "hostmask_to_prefix_ipv4" 21215 (vr 1516)), (de P "str_to_int" 21222 (vr 2090)), (de P "str_to_int_ipv4" 21223 (vr 1527)), (de P "int_to_str" 21231 (vr 2096)), (de P "int_to_str_ipv4" 21232 (vr 1535)), (de P "int_to_packed" 21239 (vr 2101)), (de P "int_to_packed_ipv4" 21240 (vr 1542)), (de P "int_to_words_ipv4" 21248 (vr 1549)), (de P "int_to_bits_ipv4" 21257 (vr 1557)), (de P "expand_partial_address" 21263 (vr 1562)), (de P "expand_partial_address_ipv4" 21264 (vr 1562)), (de P "Ipv4Names" 21366 (vr 1638)), (de P "ipv4_ipv4" 21382 (vr 1644)), (de P "width_ipv6" 21386 (vi 128 21385)), (de P "word_size_ipv6" 21388 (vi 16 21387)), (de P "word_sep" 21390 (vs ":" 21389)), (de P "family_name_ipv6" 21392 (vs "IPv6" 21391)), (de P "version_ipv6" 21394 (vi 6 21393)), (de P "max_int_ipv6" 21399 (vi 340282366920938463463374607431768211455 21398)), (de P "num_words_ipv6" 21401 (vi 8 21400)), (de P "prefix_to_netmask_ipv6" 22570 (vr 1781)), (de P "netmask_to_prefix_ipv6" 23739 (vr 1922)), (de P "hostmask_to_prefix_ipv6" 24779 (vr 2063)), (de P "ipv6_compact" 24802 (vr 2078)), (de P "str_to_int_ipv6" 24813 (vr 2090)), (de P "int_to_str_ipv6" 24820 (vr 2096)), (de P "int_to_packed_ipv6" 24827 (vr 2101)), (de P "packed_to_int" 24833 (vr 2106)), (de P "int_to_words_ipv6" 24843 (vr 2114)), (de P "int_to_bits_ipv6" 24852 (vr 2122)), (de P "Ipv6Names" 24946 (vr 2191)), (de P "ipv6_ipv6" 24962 (vr 2197)), (de P "BaseIP" 25104 (vr 2317)), (de P "IPAddress" 25381 (vr 2565)), (de P "IPListMixin" 25438 (vr 2613)), (de P "parse_ip_network" 25457 (vr 2624)), (de P "IPNetwork" 25748 (vr 2868)), (de P "IPRange" 25841 (vr 2946)), (de P "cidr_exclude" 25852 (vr 2955)), (de P "cidr_partition" 25869 (vr 2962)), (de P "iter_iprange" 25883 (vr 2970)), (de P "_law_blocks" 25896 (vr 2977)), (de P "_law_told" 25902 (vr 2982)), (de P "law" 25937 (vr 2989))] 82)
noncomputable def o4 (P : Params) : Obj := (Obj.mk (Value.type "module") (some 0) Data.plain #[])
noncomputable def o5 (P : Params) : Obj := (Obj.mk (Value.type "module") (some 3) Data.plain #[])
noncomputable def o6 (P : Params) : Obj := (di [] 0)
noncomputable def o7 (P : Params) : Obj := (tu [])
noncomputable def o8 (P : Params) : Obj := (Obj.mk Value.none none (Data.fields (List.toArray [])) #[])
noncomputable def o9 (P : Params) : Obj := (fo "code" [(vs "<module>" 176), (vs "<module>" 177), (vs "/claim/cut.py" 178), (vi 1 0), (vi 0 0), (vi 0 0), (vi 0 0), (vi 0 0), (vr 7), (Value.bool false), (vi 175 0), (vr 8), Value.none, Value.none, Value.none, Value.none, (vi 179 0), (vi 1 0), (vs "/claim/cut.py" 180)])
noncomputable def o10 (P : Params) : Obj := (Obj.mk (Value.type "frame") none Data.plain (List.toArray [(some (vr 9)), (some (vr 3)), (some (vr 3)), none, (some (vs "__main__" 164)), none, (some (vr 0))]))
noncomputable def o11 (P : Params) : Obj := (tu [])
noncomputable def o12 (P : Params) : Obj := (Obj.mk Value.none none (Data.fields (List.toArray [(vi 1 0), (vi 0 0), (vr 20), (vi 9 0), (vi 0 0), (vr 27), (vi 12 0), (vi 0 0), (vr 40), (vi 23 0), (vi 0 0), (vr 1334), (vi 35 0), (vi 0 0), (vr 1342), (vi 54 0), (vi 0 0), (vr 1349), (vi 60 0), (vi 0 0), (vr 1356), (vi 91 0), (vi 0 0), (vr 1361), (vi 111 0), (vi 0 0), (vr 1366), (vi 133 0), (vi 0 0), (vr 1371), (vi 200 0), (vi 0 0), (vr 1378), (vi 211 0), (vi 0 0), (vr 1385), (vi 242 0), (vi 0 0), (vr 1526), (vi 260 0), (vi 0 0), (vr 1534), (vi 266 0), (vi 0 0), (vr 1541), (vi 269 0), (vi 0 0), (vr 1548), (vi 274 0), (vi 0 0), (vr 1556), (vi 279 0), (vi 0 0), (vr 1561), (vi 301 0), (vi 0 0), (vr 1568), (vi 347 0), (vi 0 0), (vr 2074), (vi 350 0), (vi 0 0), (vr 2089), (vi 357 0), (vi 0 0), (vr 2095), (vi 373 0), (vi 0 0), (vr 2100), (vi 377 0), (vi 0 0), (vr 2105), (vi 387 0), (vi 0 0), (vr 2113), (vi 394 0), (vi 0 0), (vr 2121), (vi 399 0), (vi 0 0), (vr 2128), (vi 432 0), (vi 0 0), (vr 2204), (vi 504 0), (vi 0 0), (vr 2328), (vi 691 0), (vi 0 0), (vr 2573), (vi 724 0), (vi 0 0), (vr 2623), (vi 764 0), (vi 0 0), (vr 2631), (vi 962 0), (vi 0 0), (vr 2876), (vi 1009 0), (vi 0 0), (vr 2954), (vi 1012 0), (vi 0 0), (vr 2961), (vi 1042 0), (vi 0 0), (vr 2969), (vi 1066 0), (vi 0 0), (vr 2976), (vi 1075 0), (vi 0 0), (vr 2981), (vi 1077 0), (vi 0 0), (vr 2988)])) #[])
noncomputable def o13 (P : Params) : Obj := (fo "code" [(vs "<module>" 182), (vs "<module>" 183), (vs "/claim/cut.py" 184), (vi 1 0), (vi 0 0), (vi 0 0), (vi 0 0), (vi 0 0), (vr 11), (Value.bool false), (vi 181 0), (vr 12), Value.none, Value.none, Value.none, Value.none, (vi 185 0), (vi 1 0), (vs "/claim/cut.py" 186)])
noncomputable def o14 (P : Params) : Obj := (Obj.mk (Value.type "frame") none Data.plain (List.toArray [(some (vr 13)), (some (vr 3)), (some (vr 3)), none, (some (vs "__main__" 164)), none, (some (vr 0))]))
noncomputable def o15 (P : Params) : Obj := (tu [])
noncomputable def o16 (P : Params) : Obj := (Obj.mk Value.none none (Data.fields (List.toArray [])) #[])
noncomputable def o17 (P : Params) : Obj := (tu [(vs "k" 190)])
noncomputable def o18 (P : Params) : Obj := (tu [])
noncomputable def o19 (P : Params) : Obj := (Obj.mk Value.none none (Data.func (FuncData.mk (Str.ofString "_wall") (Str.ofString "_wall") (fA (st 0)) (FuncBody.stmts (fB (st 0))) (fS (st 0)) 0 [] Value.none Value.none Value.none Value.none none Value.none Value.none 0)) #[])
noncomputable def o20 (P : Params) : Obj := (fo "code" [(vs "_wall" 187), (vs "_wall" 188), (vs "/claim/cut.py" 189), (vi 1 0), (vi 1 0), (vi 0 0), (vi 0 0), (vi 3 0), (vr 15), (Value.bool true), (vi 181 0), (vr 16), Value.none, (vr 17), (vr 18), (vr 19), (vi 191 0), (vi 1 0), (vs "/claim/cut.py" 192)])
noncomputable def o21 (P : Params) : Obj := (Obj.mk (Value.type "function") none (Data.func (FuncData.mk (Str.ofString "_wall") (Str.ofString "_wall") (fA (st 0)) (FuncBody.stmts (fB (st 0))) (fS (st 0)) 3 [] Value.none Value.none Value.none (vs "__main__" 164) none (vr 20) Value.none 0)) #[])
noncomputable def o22 (P : Params) : Obj := (tu [(Value.type "Exception")])
noncomputable def o23 (P : Params) : Obj := (fo "builtin_function_or_method" [(Value.builtin "type.__prepare__"), (Value.type "type")])
noncomputable def o24 (P : Params) : Obj := (di [(de P "__module__" 211 (vs "netaddr.core" 194)), (de P "__qualname__" 213 (vs "AddrFormatError" 212)), (de P "__firstlineno__" 215 (vi 9 214)), (de P "__static_attributes__" 216 (vr 29))] 4)
noncomputable def o25 (P : Params) : Obj := (tu [])
noncomputable def o26 (P : Params) : Obj := (Obj.mk Value.none none (Data.fields (List.toArray [])) #[])
noncomputable def o27 (P : Params) : Obj := (fo "code" [(vs "AddrFormatError" 206), (vs "AddrFormatError" 207), (vs "/claim/cut.py" 208), (vi 9 0), (vi 0 0), (vi 0 0), (vi 0 0), (vi 0 0), (vr 25), (Value.bool false), (vi 181 0), (vr 26), Value.none, Value.none, Value.none, Value.none, (vi 209 0), (vi 9 0), (vs "/claim/cut.py" 210)])
noncomputable def o28 (P : Params) : Obj := (Obj.mk (Value.type "frame") none Data.plain (List.toArray [(some (vr 27)), (some (vr 3)), (some (vr 24)), none, (some (vs "netaddr.core" 194)), none, (some (vr 0))]))
noncomputable def o29 (P : Params) : Obj := (tu [])
noncomputable def o30 (P : Params) : Obj := (di [(de P "__module__" 211 (vs "netaddr.core" 194)), (de P "__firstlineno__" 215 (vi 9 214)), (de P "__static_attributes__" 216 (vr 29)), (de P "__weakref__" 218 (vr 32)), (de P "__doc__" 219 Value.none)] 3)
noncomputable def o31 (P : Params) : Obj := (Obj.mk (Value.type "type") none (Data.cls (ClassData.mk (Str.ofString "AddrFormatError") [(Value.type "Exception")] [(vr 31), (Value.type "Exception"), (Value.type "BaseException"), (Value.type "object")] 30 (Str.ofString "AddrFormatError") true [] [] false none false)) (List.toArray [(some (vr 22)), none, (some (vs "AddrFormatError" 204)), (some (vs "AddrFormatError" 212)), (some (Value.builtin "Exception.__new__")), (some (Value.bool true))]))
noncomputable def o32 (P : Params) : Obj := (fo "getset_descriptor" [(vs "__weakref__" 217), (vr 31), (Value.builtin "ExceptionGroup.__weakref__"), Value.none])
noncomputable def o33 (P : Params) : Obj := (fo "super" [(vr 31), (vr 31), (vr 31)])
noncomputable def o34 (P : Params) : Obj := (fo "builtin_function_or_method" [(Value.builtin "object.__init_subclass__"), (vr 31)])
noncomputable def o35 (P : Params) : Obj := (tu [])
noncomputable def o36 (P : Params) : Obj := (Obj.mk Value.none none (Data.fields (List.toArray [])) #[])
noncomputable def o37 (P : Params) : Obj := (tu [(vs "lookup" 229), (vs "bits_per_byte" 230), (vs "num" 231), (vs "bits" 232), (vs "i" 233)])
noncomputable def o38 (P : Params) : Obj := (tu [])
noncomputable def o39 (P : Params) : Obj := (Obj.mk Value.none none (Data.func (FuncData.mk (Str.ofString "bytes_to_bits") (Str.ofString "bytes_to_bits") (fA (st 8)) (FuncBody.stmts (fB (st 8))) (fS (st 8)) 0 [] Value.none Value.none Value.none Value.none none Value.none Value.none 0)) #[])
noncomputable def o40 (P : Params) : Obj := (fo "code" [(vs "bytes_to_bits" 226), (vs "bytes_to_bits" 227), (vs "/claim/cut.py" 228), (vi 12 0), (vi 0 0), (vi 0 0), (vi 0 0), (vi 3 0), (vr 35), (Value.bool true), (vi 181 0), (vr 36), Value.none, (vr 37), (vr 38), (vr 39), (vi 234 0), (vi 12 0), (vs "/claim/cut.py" 235)])
noncomputable def o41 (P : Params) : Obj := (Obj.mk (Value.type "function") none (Data.func (FuncData.mk (Str.ofString "bytes_to_bits") (Str.ofString "bytes_to_bits") (fA (st 8)) (FuncBody.stmts (fB (st 8))) (fS (st 8)) 3 [] Value.none Value.none Value.none (vs "netaddr.strategy" 224) none (vr 40) Value.none 0)) #[])
noncomputable def o1329 (P : Params) : Obj := (tu [])
noncomputable def o1330 (P : Params) : Obj := (Obj.mk Value.none none (Data.fields (List.toArray [])) #[])
noncomputable def o1331 (P : Params) : Obj := (tu [(vs "int_val" 20219), (vs "word_size" 20220), (vs "num_words" 20221), (vs "max_int" 20222), (vs "max_word" 20223), (vs "words" 20224), (vs "_" 20225), (vs "word" 20226)])
noncomputable def o1332 (P : Params) : Obj := (tu [])
noncomputable def o1333 (P : Params) : Obj := (Obj.mk Value.none none (Data.func (FuncData.mk (Str.ofString "int_to_words") (Str.ofString "int_to_words") (fA (st 10)) (FuncBody.stmts (fB (st 10))) (fS (st 10)) 0 [] Value.none Value.none Value.none Value.none none Value.none Value.none 0)) #[])
noncomputable def o1334 (P : Params) : Obj := (fo "code" [(vs "int_to_words" 20216), (vs "int_to_words" 20217), (vs "/claim/cut.py" 20218), (vi 23 0), (vi 3 0), (vi 0 0), (vi 0 0), (vi 3 0), (vr 1329), (Value.bool true), (vi 181 0), (vr 1330), Value.none, (vr 1331), (vr 1332), (vr 1333), (vi 20227 0), (vi 23 0), (vs "/claim/cut.py" 20228)])
noncomputable def o1335 (P : Params) : Obj := (Obj.mk (Value.type "function") none (Data.func (FuncData.mk (Str.ofString "int_to_words") (Str.ofString "int_to_words") (fA (st 10)) (FuncBody.stmts (fB (st 10))) (fS (st 10)) 3 [] Value.none Value.none Value.none (vs "netaddr.strategy" 224) none (vr 1334) Value.none 0)) #[])
noncomputable def o1336 (P : Params) : Obj := (tu [(vs "" 20231)])
noncomputable def o1337 (P : Params) : Obj := (tu [])
noncomputable def o1338 (P : Params) : Obj := (Obj.mk Value.none none (Data.fields (List.toArray [])) #[])
noncomputable def o1339 (P : Params) : Obj := (tu [(vs "int_val" 20235), (vs "word_size" 20236), (vs "num_words" 20237), (vs "word_sep" 20238), (vs "bit_words" 20239), (vs "word" 20240), (vs "bits" 20241), (vs "bit_str" 20242)])
noncomputable def o1340 (P : Params) : Obj := (tu [])
noncomputable def o1341 (P : Params) : Obj := (Obj.mk Value.none none (Data.func (FuncData.mk (Str.ofString "int_to_bits") (Str.ofString "int_to_bits") (fA (st 12)) (FuncBody.stmts (fB (st 12))) (fS (st 12)) 0 [] Value.none Value.none Value.none Value.none none Value.none Value.none 0)) #[])
noncomputable def o1342 (P : Params) : Obj := (fo "code" [(vs "int_to_bits" 20232), (vs "int_to_bits" 20233), (vs "/claim/cut.py" 20234), (vi 35 0), (vi 4 0), (vi 0 0), (vi 0 0), (vi 3 0), (vr 1337), (Value.bool true), (vi 181 0), (vr 1338), Value.none, (vr 1339), (vr 1340), (vr 1341), (vi 20243 0), (vi 35 0), (vs "/claim/cut.py" 20244)])
noncomputable def o1343 (P : Params) : Obj := (Obj.mk (Value.type "function") none (Data.func (FuncData.mk (Str.ofString "int_to_bits") (Str.ofString "int_to_bits") (fA (st 12)) (FuncBody.stmts (fB (st 12))) (fS (st 12)) 3 [] (vr 1336) Value.none Value.none (vs "netaddr.strategy" 224) none (vr 1342) Value.none 0)) #[])
noncomputable def o1344 (P : Params) : Obj := (tu [])
noncomputable def o1345 (P : Params) : Obj := (Obj.mk Value.none none (Data.fields (List.toArray [])) #[])
noncomputable def o1346 (P : Params) : Obj := (tu [(vs "packed_ip" 20256)])
noncomputable def o1347 (P : Params) : Obj := (tu [])
noncomputable def o1348 (P : Params) : Obj := (Obj.mk Value.none none (Data.func (FuncData.mk (Str.ofString "inet_ntoa") (Str.ofString "inet_ntoa") (fA (st 17)) (FuncBody.stmts (fB (st 17))) (fS (st 17)) 0 [] Value.none Value.none Value.none Value.none none Value.none Value.none 0)) #[])
noncomputable def o1349 (P : Params) : Obj := (fo "code" [(vs "inet_ntoa" 20253), (vs "inet_ntoa" 20254), (vs "/claim/cut.py" 20255), (vi 54 0), (vi 1 0), (vi 0 0), (vi 0 0), (vi 3 0), (vr 1344), (Value.bool true), (vi 181 0), (vr 1345), Value.none, (vr 1346), (vr 1347), (vr 1348), (vi 20257 0), (vi 54 0), (vs "/claim/cut.py" 20258)])
noncomputable def o1350 (P : Params) : Obj := (Obj.mk (Value.type "function") none (Data.func (FuncData.mk (Str.ofString "inet_ntoa") (Str.ofString "inet_ntoa") (fA (st 17)) (FuncBody.stmts (fB (st 17))) (fS (st 17)) 3 [] Value.none Value.none Value.none (vs "netaddr.fbsocket" 20247) none (vr 1349) Value.none 0)) #[])
noncomputable def o1351 (P : Params) : Obj := (tu [])
noncomputable def o1352 (P : Params) : Obj := (Obj.mk Value.none none (Data.fields (List.toArray [])) #[])
noncomputable def o1353 (P : Params) : Obj := (tu [(vs "tokens" 20263), (vs "new_tokens" 20264), (vs "positions" 20265), (vs "start_index" 20266), (vs "num_tokens" 20267), (vs "idx" 20268), (vs "token" 20269), (vs "best_position" 20270), (vs "position" 20271), (vs "length" 20272), (vs "start_idx" 20273)])
noncomputable def o1354 (P : Params) : Obj := (tu [])
noncomputable def o1355 (P : Params) : Obj := (Obj.mk Value.none none (Data.func (FuncData.mk (Str.ofString "_compact_ipv6_tokens") (Str.ofString "_compact_ipv6_tokens") (fA (st 18)) (FuncBody.stmts (fB (st 18))) (fS (st 18)) 0 [] Value.none Value.none Value.none Value.none none Value.none Value.none 0)) #[])
noncomputable def o1356 (P : Params) : Obj := (fo "code" [(vs "_compact_ipv6_tokens" 20260), (vs "_compact_ipv6_tokens" 20261), (vs "/claim/cut.py" 20262), (vi 60 0), (vi 1 0), (vi 0 0), (vi 0 0), (vi 3 0), (vr 1351), (Value.bool true), (vi 181 0), (vr 1352), Value.none, (vr 1353), (vr 1354), (vr 1355), (vi 20274 0), (vi 60 0), (vs "/claim/cut.py" 20275)])
noncomputable def o1357 (P : Params) : Obj := (Obj.mk (Value.type "function") none (Data.func (FuncData.mk (Str.ofString "_compact_ipv6_tokens") (Str.ofString "_compact_ipv6_tokens") (fA (st 18)) (FuncBody.stmts (fB (st 18))) (fS (st 18)) 3 [] Value.none Value.none Value.none (vs "netaddr.fbsocket" 20247) none (vr 1356) Value.none 0)) #[])
noncomputable def o1358 (P : Params) : Obj := (tu [])
noncomputable def o1359 (P : Params) : Obj := (Obj.mk Value.none none (Data.fields (List.toArray [])) #[])
noncomputable def o1360 (P : Params) : Obj := (Obj.mk Value.none none (Data.func (FuncData.mk (Str.ofString "inet_ntop") (Str.ofString "inet_ntop") (fA (st 19)) (FuncBody.stmts (fB (st 19))) (fS (st 19)) 0 [] Value.none Value.none Value.none Value.none none Value.none Value.none 0)) #[])
noncomputable def o1361 (P : Params) : Obj := (fo "code" [(vs "inet_ntop" 20277), (vs "inet_ntop" 20278), (vs "/claim/cut.py" 20279), (vi 91 0), (vi 2 0), (vi 0 0), (vi 0 0), (vi 3 0), (vr 1358), (Value.bool true), (vi 181 0), (vr 1359), Value.none, Value.none, Value.none, (vr 1360), (vi 20280 0), (vi 91 0), (vs "/claim/cut.py" 20281)])
noncomputable def o1362 (P : Params) : Obj := (Obj.mk (Value.type "function") none (Data.func (FuncData.mk (Str.ofString "inet_ntop") (Str.ofString "inet_ntop") (fA (st 19)) (FuncBody.stmts (fB (st 19))) (fS (st 19)) 3 [] Value.none Value.none Value.none (vs "netaddr.fbsocket" 20247) none (vr 1361) Value.none 0)) #[])
noncomputable def o1363 (P : Params) : Obj := (tu [])
noncomputable def o1364 (P : Params) : Obj := (Obj.mk Value.none none (Data.fields (List.toArray [])) #[])
noncomputable def o1365 (P : Params) : Obj := (Obj.mk Value.none none (Data.func (FuncData.mk (Str.ofString "_inet_pton_af_inet") (Str.ofString "_inet_pton_af_inet") (fA (st 20)) (FuncBody.stmts (fB (st 20))) (fS (st 20)) 0 [] Value.none Value.none Value.none Value.none none Value.none Value.none 0)) #[])
noncomputable def o1366 (P : Params) : Obj := (fo "code" [(vs "_inet_pton_af_inet" 20283), (vs "_inet_pton_af_inet" 20284), (vs "/claim/cut.py" 20285), (vi 111 0), (vi 1 0), (vi 0 0), (vi 0 0), (vi 3 0), (vr 1363), (Value.bool true), (vi 181 0), (vr 1364), Value.none, Value.none, Value.none, (vr 1365), (vi 20286 0), (vi 111 0), (vs "/claim/cut.py" 20287)])
noncomputable def o1367 (P : Params) : Obj := (Obj.mk (Value.type "function") none (Data.func (FuncData.mk (Str.ofString "_inet_pton_af_inet") (Str.ofString "_inet_pton_af_inet") (fA (st 20)) (FuncBody.stmts (fB (st 20))) (fS (st 20)) 3 [] Value.none Value.none Value.none (vs "netaddr.fbsocket" 20247) none (vr 1366) Value.none 0)) #[])
noncomputable def o1368 (P : Params) : Obj := (tu [])
noncomputable def o1369 (P : Params) : Obj := (Obj.mk Value.none none (Data.fields (List.toArray [])) #[])
noncomputable def o1370 (P : Params) : Obj := (Obj.mk Value.none none (Data.func (FuncData.mk (Str.ofString "inet_pton") (Str.ofString "inet_pton") (fA (st 21)) (FuncBody.stmts (fB (st 21))) (fS (st 21)) 0 [] Value.none Value.none Value.none Value.none none Value.none Value.none 0)) #[])
noncomputable def o1371 (P : Params) : Obj := (fo "code" [(vs "inet_pton" 20289), (vs "inet_pton" 20290), (vs "/claim/cut.py" 20291), (vi 133 0), (vi 2 0), (vi 0 0), (vi 0 0), (vi 3 0), (vr 1368), (Value.bool true), (vi 181 0), (vr 1369), Value.none, Value.none, Value.none, (vr 1370), (vi 20292 0), (vi 133 0), (vs "/claim/cut.py" 20293)])
noncomputable def o1372 (P : Params) : Obj := (Obj.mk (Value.type "function") none (Data.func (FuncData.mk (Str.ofString "inet_pton") (Str.ofString "inet_pton") (fA (st 21)) (FuncBody.stmts (fB (st 21))) (fS (st 21)) 3 [] Value.none Value.none Value.none (vs "netaddr.fbsocket" 20247) none (vr 1371) Value.none 0)) #[])
noncomputable def o1373 (P : Params) : Obj := (tu [])
noncomputable def o1374 (P : Params) : Obj := (Obj.mk Value.none none (Data.fields (List.toArray [])) #[])
noncomputable def o1375 (P : Params) : Obj := (tu [(vs "text" 20298), (vs "base" 20299), (vs "digits" 20300), (vs "i" 20301), (vs "value" 20302)])
noncomputable def o1376 (P : Params) : Obj := (tu [])
noncomputable def o1377 (P : Params) : Obj := (Obj.mk Value.none none (Data.func (FuncData.mk (Str.ofString "_aton_number") (Str.ofString "_aton_number") (fA (st 22)) (FuncBody.stmts (fB (st 22))) (fS (st 22)) 0 [] Value.none Value.none Value.none Value.none none Value.none Value.none 0)) #[])
noncomputable def o1378 (P : Params) : Obj := (fo "code" [(vs "_aton_number" 20295), (vs "_aton_number" 20296), (vs "/claim/cut.py" 20297), (vi 200 0), (vi 1 0), (vi 0 0), (vi 0 0), (vi 3 0), (vr 1373), (Value.bool true), (vi 181 0), (vr 1374), Value.none, (vr 1375), (vr 1376), (vr 1377), (vi 20303 0), (vi 200 0), (vs "/claim/cut.py" 20304)])
noncomputable def o1379 (P : Params) : Obj := (Obj.mk (Value.type "function") none (Data.func (FuncData.mk (Str.ofString "_aton_number") (Str.ofString "_aton_number") (fA (st 22)) (FuncBody.stmts (fB (st 22))) (fS (st 22)) 3 [] Value.none Value.none Value.none (vs "netaddr.fbsocket" 20247) none (vr 1378) Value.none 0)) #[])
noncomputable def o1380 (P : Params) : Obj := (tu [])
noncomputable def o1381 (P : Params) : Obj := (Obj.mk Value.none none (Data.fields (List.toArray [])) #[])
noncomputable def o1382 (P : Params) : Obj := (tu [(vs "ip_string" 20309), (vs "invalid_addr" 20310), (vs "octets" 20311), (vs "rest" 20312), (vs "value" 20313)])
noncomputable def o1383 (P : Params) : Obj := (tu [])
noncomputable def o1384 (P : Params) : Obj := (Obj.mk Value.none none (Data.func (FuncData.mk (Str.ofString "inet_aton") (Str.ofString "inet_aton") (fA (st 23)) (FuncBody.stmts (fB (st 23))) (fS (st 23)) 0 [] Value.none Value.none Value.none Value.none none Value.none Value.none 0)) #[])
noncomputable def o1385 (P : Params) : Obj := (fo "code" [(vs "inet_aton" 20306), (vs "inet_aton" 20307), (vs "/claim/cut.py" 20308), (vi 211 0), (vi 1 0), (vi 0 0), (vi 0 0), (vi 3 0), (vr 1380), (Value.bool true), (vi 181 0), (vr 1381), Value.none, (vr 1382), (vr 1383), (vr 1384), (vi 20314 0), (vi 211 0), (vs "/claim/cut.py" 20315)])
noncomputable def o1386 (P : Params) : Obj := (Obj.mk (Value.type "function") none (Data.func (FuncData.mk (Str.ofString "inet_aton") (Str.ofString "inet_aton") (fA (st 23)) (FuncBody.stmts (fB (st 23))) (fS (st 23)) 3 [] Value.none Value.none Value.none (vs "netaddr.fbsocket" 20247) none (vr 1385) Value.none 0)) #[])
noncomputable def o1387 (P : Params) : Obj := (fo "range" [(vi 0 20334), (vi 33 20336), (vi 1 20337)])
noncomputable def o1388 (P : Params) : Obj := (fo "range_iterator" [(vi 33 0), (vi 0 0), (vi 1 0)])
noncomputable def o1389 (P : Params) : Obj := (Obj.mk (Value.type "list") none (Data.seq (List.toArray [(vr 1391), (vr 1392), (vr 1393), (vr 1394), (vr 1395), (vr 1396), (vr 1397), (vr 1398), (vr 1399), (vr 1400), (vr 1401), (vr 1402), (vr 1403), (vr 1404), (vr 1405), (vr 1406), (vr 1407), (vr 1408), (vr 1409), (vr 1410), (vr 1411), (vr 1412), (vr 1413), (vr 1414), (vr 1415), (vr 1416), (vr 1417), (vr 1418), (vr 1419), (vr 1420), (vr 1421), (vr 1422), (vr 1423)]) 33) #[])
noncomputable def o1390 (P : Params) : Obj := (di [] 2)
noncomputable def o1391 (P : Params) : Obj := (tu [(vi 0 20338), (vi 0 20345)])
noncomputable def o1392 (P : Params) : Obj := (tu [(vi 1 20346), (vi 2147483648 20353)])
noncomputable def o1393 (P : Params) : Obj := (tu [(vi 2 20354), (vi 3221225472 20361)])
noncomputable def o1394 (P : Params) : Obj := (tu [(vi 3 20362), (vi 3758096384 20369)])
noncomputable def o1395 (P : Params) : Obj := (tu [(vi 4 20370), (vi 4026531840 20377)])
noncomputable def o1396 (P : Params) : Obj := (tu [(vi 5 20378), (vi 4160749568 20385)])
noncomputable def o1397 (P : Params) : Obj := (tu [(vi 6 20386), (vi 4227858432 20393)])
noncomputable def o1398 (P : Params) : Obj := (tu [(vi 7 20394), (vi 4261412864 20401)])
noncomputable def o1399 (P : Params) : Obj := (tu [(vi 8 20402), (vi 4278190080 20409)])
noncomputable def o1400 (P : Params) : Obj := (tu [(vi 9 20410), (vi 4286578688 20417)])
noncomputable def o1401 (P : Params) : Obj := (tu [(vi 10 20418), (vi 4290772992 20425)])
noncomputable def o1402 (P : Params) : Obj := (tu [(vi 11 20426), (vi 4292870144 20433)])
noncomputable def o1403 (P : Params) : Obj := (tu [(vi 12 20434), (vi 4293918720 20441)])
noncomputable def o1404 (P : Params) : Obj := (tu [(vi 13 20442), (vi 4294443008 20449)])
noncomputable def o1405 (P : Params) : Obj := (tu [(vi 14 20450), (vi 4294705152 20457)])
noncomputable def o1406 (P : Params) : Obj := (tu [(vi 15 20458), (vi 4294836224 20465)])
noncomputable def o1407 (P : Params) : Obj := (tu [(vi 16 20466), (vi 4294901760 20473)])
noncomputable def o1408 (P : Params) : Obj := (tu [(vi 17 20474), (vi 4294934528 20481)])
noncomputable def o1409 (P : Params) : Obj := (tu [(vi 18 20482), (vi 4294950912 20489)])
noncomputable def o1410 (P : Params) : Obj := (tu [(vi 19 20490), (vi 4294959104 20497)])
noncomputable def o1411 (P : Params) : Obj := (tu [(vi 20 20498), (vi 4294963200 20505)])
noncomputable def o1412 (P : Params) : Obj := (tu [(vi 21 20506), (vi 4294965248 20513)])
noncomputable def o1413 (P : Params) : Obj := (tu [(vi 22 20514), (vi 4294966272 20521)])
noncomputable def o1414 (P : Params) : Obj := (tu [(vi 23 20522), (vi 4294966784 20529)])
noncomputable def o1415 (P : Params) : Obj := (tu [(vi 24 20530), (vi 4294967040 20537)])
noncomputable def o1416 (P : Params) : Obj := (tu [(vi 25 20538), (vi 4294967168 20545)])
noncomputable def o1417 (P : Params) : Obj := (tu [(vi 26 20546), (vi 4294967232 20553)])
noncomputable def o1418 (P : Params) : Obj := (tu [(vi 27 20554), (vi 4294967264 20561)])
noncomputable def o1419 (P : Params) : Obj := (tu [(vi 28 20562), (vi 4294967280 20569)])
noncomputable def o1420 (P : Params) : Obj := (tu [(vi 29 20570), (vi 4294967288 20577)])
noncomputable def o1421 (P : Params) : Obj := (tu [(vi 30 20578), (vi 4294967292 20585)])
noncomputable def o1422 (P : Params) : Obj := (tu [(vi 31 20586), (vi 4294967294 20593)])
noncomputable def o1423 (P : Params) : Obj := (tu [(vi 32 20594), (vi 4294967295 20601)])
noncomputable def o1424 (P : Params) : Obj := (tu [])
noncomputable def o1425 (P : Params) : Obj := (fo "StopIteration" [(vr 1424), Value.none, Value.none, Value.none, (Value.bool false), Value.none])
noncomputable def o1426 (P : Params) : Obj := (di [(DictEntry.mk 0 (vi 0 20338) (vi 0 20345)), (DictEntry.mk 1 (vi 1 20346) (vi 2147483648 20353)), (DictEntry.mk 2 (vi 2 20354) (vi 3221225472 20361)), (DictEntry.mk 3 (vi 3 20362) (vi 3758096384 20369)), (DictEntry.mk 4 (vi 4 20370) (vi 4026531840 20377)), (DictEntry.mk 5 (vi 5 20378) (vi 4160749568 20385)), (DictEntry.mk 6 (vi 6 20386) (vi 4227858432 20393)), (DictEntry.mk 7 (vi 7 20394) (vi 4261412864 20401)), (DictEntry.mk 8 (vi 8 20402) (vi 4278190080 20409)), (DictEntry.mk 9 (vi 9 20410) (vi 4286578688 20417)), (DictEntry.mk 10 (vi 10 20418) (vi 4290772992 20425)), (DictEntry.mk 11 (vi 11 20426) (vi 4292870144 20433)), (DictEntry.mk 12 (vi 12 20434) (vi 4293918720 20441)), (DictEntry.mk 13 (vi 13 20442) (vi 4294443008 20449)), (DictEntry.mk 14 (vi 14 20450) (vi 4294705152 20457)), (DictEntry.mk 15 (vi 15 20458) (vi 4294836224 20465)), (DictEntry.mk 16 (vi 16 20466) (vi 4294901760 20473)), (DictEntry.mk 17 (vi 17 20474) (vi 4294934528 20481)), (DictEntry.mk 18 (vi 18 20482) (vi 4294950912 20489)), (DictEntry.mk 19 (vi 19 20490) (vi 4294959104 20497)), (DictEntry.mk 20 (vi 20 20498) (vi 4294963200 20505)), (DictEntry.mk 21 (vi 21 20506) (vi 4294965248 20513)), (DictEntry.mk 22 (vi 22 20514) (vi 4294966272 20521)), (DictEntry.mk 23 (vi 23 20522) (vi 4294966784 20529)), (DictEntry.mk 24 (vi 24 20530) (vi 4294967040 20537)), (DictEntry.mk 25 (vi 25 20538) (vi 4294967168 20545)), (DictEntry.mk 26 (vi 26 20546) (vi 4294967232 20553)), (DictEntry.mk 27 (vi 27 20554) (vi 4294967264 20561)), (DictEntry.mk 28 (vi 28 20562) (vi 4294967280 20569)), (DictEntry.mk 29 (vi 29 20570) (vi 4294967288 20577)), (DictEntry.mk 30 (vi 30 20578) (vi 4294967292 20585)), (DictEntry.mk 31 (vi 31 20586) (vi 4294967294 20593)), (DictEntry.mk 32 (vi 32 20594) (vi 4294967295 20601))] 33)
noncomputable def o1427 (P : Params) : Obj := (tu [(vs "'list' object has no attribute 'keys'" 20603)])
noncomputable def o1428 (P : Params) : Obj := (fo "AttributeError" [(vr 1427), Value.none, Value.none, Value.none, (Value.bool false), Value.none, (vs "keys" 20604), (vr 1389)])
noncomputable def o1429 (P : Params) : Obj := (fo "list_iterator" [Value.none, (vi 33 0)])
noncomputable def o1430 (P : Params) : Obj := (tu [])
noncomputable def o1431 (P : Params) : Obj := (fo "StopIteration" [(vr 1430), Value.none, Value.none, Value.none, (Value.bool false), Value.none])
noncomputable def o1432 (P : Params) : Obj := (fo "range" [(vi 0 20639), (vi 33 20641), (vi 1 20642)])
noncomputable def o1433 (P : Params) : Obj := (fo "range_iterator" [(vi 33 0), (vi 0 0), (vi 1 0)])
noncomputable def o1434 (P : Params) : Obj := (Obj.mk (Value.type "list") none (Data.seq (List.toArray [(vr 1436), (vr 1437), (vr 1438), (vr 1439), (vr 1440), (vr 1441), (vr 1442), (vr 1443), (vr 1444), (vr 1445), (vr 1446), (vr 1447), (vr 1448), (vr 1449), (vr 1450), (vr 1451), (vr 1452), (vr 1453), (vr 1454), (vr 1455), (vr 1456), (vr 1457), (vr 1458), (vr 1459), (vr 1460), (vr 1461), (vr 1462), (vr 1463), (vr 1464), (vr 1465), (vr 1466), (vr 1467), (vr 1468)]) 33) #[])
noncomputable def o1435 (P : Params) : Obj := (di [] 2)
noncomputable def o1436 (P : Params) : Obj := (tu [(vi 0 20650), (vi 0 20643)])
noncomputable def o1437 (P : Params) : Obj := (tu [(vi 2147483648 20658), (vi 1 20651)])
noncomputable def o1438 (P : Params) : Obj := (tu [(vi 3221225472 20666), (vi 2 20659)])
noncomputable def o1439 (P : Params) : Obj := (tu [(vi 3758096384 20674), (vi 3 20667)])
noncomputable def o1440 (P : Params) : Obj := (tu [(vi 4026531840 20682), (vi 4 20675)])
noncomputable def o1441 (P : Params) : Obj := (tu [(vi 4160749568 20690), (vi 5 20683)])
noncomputable def o1442 (P : Params) : Obj := (tu [(vi 4227858432 20698), (vi 6 20691)])
noncomputable def o1443 (P : Params) : Obj := (tu [(vi 4261412864 20706), (vi 7 20699)])
noncomputable def o1444 (P : Params) : Obj := (tu [(vi 4278190080 20714), (vi 8 20707)])
noncomputable def o1445 (P : Params) : Obj := (tu [(vi 4286578688 20722), (vi 9 20715)])
noncomputable def o1446 (P : Params) : Obj := (tu [(vi 4290772992 20730), (vi 10 20723)])
noncomputable def o1447 (P : Params) : Obj := (tu [(vi 4292870144 20738), (vi 11 20731)])
noncomputable def o1448 (P : Params) : Obj := (tu [(vi 4293918720 20746), (vi 12 20739)])
noncomputable def o1449 (P : Params) : Obj := (tu [(vi 4294443008 20754), (vi 13 20747)])
noncomputable def o1450 (P : Params) : Obj := (tu [(vi 4294705152 20762), (vi 14 20755)])
noncomputable def o1451 (P : Params) : Obj := (tu [(vi 4294836224 20770), (vi 15 20763)])
noncomputable def o1452 (P : Params) : Obj := (tu [(vi 4294901760 20778), (vi 16 20771)])
noncomputable def o1453 (P : Params) : Obj := (tu [(vi 4294934528 20786), (vi 17 20779)])
noncomputable def o1454 (P : Params) : Obj := (tu [(vi 4294950912 20794), (vi 18 20787)])
noncomputable def o1455 (P : Params) : Obj := (tu [(vi 4294959104 20802), (vi 19 20795)])
noncomputable def o1456 (P : Params) : Obj := (tu [(vi 4294963200 20810), (vi 20 20803)])
noncomputable def o1457 (P : Params) : Obj := (tu [(vi 4294965248 20818), (vi 21 20811)])
noncomputable def o1458 (P : Params) : Obj := (tu [(vi 4294966272 20826), (vi 22 20819)])
noncomputable def o1459 (P : Params) : Obj := (tu [(vi 4294966784 20834), (vi 23 20827)])
noncomputable def o1460 (P : Params) : Obj := (tu [(vi 4294967040 20842), (vi 24 20835)])
noncomputable def o1461 (P : Params) : Obj := (tu [(vi 4294967168 20850), (vi 25 20843)])
noncomputable def o1462 (P : Params) : Obj := (tu [(vi 4294967232 20858), (vi 26 20851)])
noncomputable def o1463 (P : Params) : Obj := (tu [(vi 4294967264 20866), (vi 27 20859)])
noncomputable def o1464 (P : Params) : Obj := (tu [(vi 4294967280 20874), (vi 28 20867)])
noncomputable def o1465 (P : Params) : Obj := (tu [(vi 4294967288 20882), (vi 29 20875)])
noncomputable def o1466 (P : Params) : Obj := (tu [(vi 4294967292 20890), (vi 30 20883)])
noncomputable def o1467 (P : Params) : Obj := (tu [(vi 4294967294 20898), (vi 31 20891)])
noncomputable def o1468 (P : Params) : Obj := (tu [(vi 4294967295 20906), (vi 32 20899)])
noncomputable def o1469 (P : Params) : Obj := (tu [])
noncomputable def o1470 (P : Params) : Obj := (fo "StopIteration" [(vr 1469), Value.none, Value.none, Value.none, (Value.bool false), Value.none])
noncomputable def o1471 (P : Params) : Obj := (di [(DictEntry.mk 0 (vi 0 20650) (vi 0 20643)), (DictEntry.mk 2147483648 (vi 2147483648 20658) (vi 1 20651)), (DictEntry.mk 3221225472 (vi 3221225472 20666) (vi 2 20659)), (DictEntry.mk 3758096384 (vi 3758096384 20674) (vi 3 20667)), (DictEntry.mk 4026531840 (vi 4026531840 20682) (vi 4 20675)), (DictEntry.mk 4160749568 (vi 4160749568 20690) (vi 5 20683)), (DictEntry.mk 4227858432 (vi 4227858432 20698) (vi 6 20691)), (DictEntry.mk 4261412864 (vi 4261412864 20706) (vi 7 20699)), (DictEntry.mk 4278190080 (vi 4278190080 20714) (vi 8 20707)), (DictEntry.mk 4286578688 (vi 4286578688 20722) (vi 9 20715)), (DictEntry.mk 4290772992 (vi 4290772992 20730) (vi 10 20723)), (DictEntry.mk 4292870144 (vi 4292870144 20738) (vi 11 20731)), (DictEntry.mk 4293918720 (vi 4293918720 20746) (vi 12 20739)), (DictEntry.mk 4294443008 (vi 4294443008 20754) (vi 13 20747)), (DictEntry.mk 4294705152 (vi 4294705152 20762) (vi 14 20755)), (DictEntry.mk 4294836224 (vi 4294836224 20770) (vi 15 20763)), (DictEntry.mk 4294901760 (vi 4294901760 20778) (vi 16 20771)), (DictEntry.mk 4294934528 (vi 4294934528 20786) (vi 17 20779)), (DictEntry.mk 4294950912 (vi 4294950912 20794) (vi 18 20787)), (DictEntry.mk 4294959104 (vi 4294959104 20802) (vi 19 20795)), (DictEntry.mk 4294963200 (vi 4294963200 20810) (vi 20 20803)), (DictEntry.mk 4294965248 (vi 4294965248 20818) (vi 21 20811)), (DictEntry.mk 4294966272 (vi 4294966272 20826) (vi 22 20819)), (DictEntry.mk 4294966784 (vi 4294966784 20834) (vi 23 20827)), (DictEntry.mk 4294967040 (vi 4294967040 20842) (vi 24 20835)), (DictEntry.mk 4294967168 (vi 4294967168 20850) (vi 25 20843)), (DictEntry.mk 4294967232 (vi 4294967232 20858) (vi 26 20851)), (DictEntry.mk 4294967264 (vi 4294967264 20866) (vi 27 20859)), (DictEntry.mk 4294967280 (vi 4294967280 20874) (vi 28 20867)), (DictEntry.mk 4294967288 (vi 4294967288 20882) (vi 29 20875)), (DictEntry.mk 4294967292 (vi 4294967292 20890) (vi 30 20883)), (DictEntry.mk 4294967294 (vi 4294967294 20898) (vi 31 20891)), (DictEntry.mk 4294967295 (vi 4294967295 20906) (vi 32 20899))] 33)
noncomputable def o1472 (P : Params) : Obj := (tu [(vs "'list' object has no attribute 'keys'" 20908)])
noncomputable def o1473 (P : Params) : Obj := (fo "AttributeError" [(vr 1472), Value.none, Value.none, Value.none, (Value.bool false), Value.none, (vs "keys" 20909), (vr 1434)])
noncomputable def o1474 (P : Params) : Obj := (fo "list_iterator" [Value.none, (vi 33 0)])
noncomputable def o1475 (P : Params) : Obj := (tu [])
noncomputable def o1476 (P : Params) : Obj := (fo "StopIteration" [(vr 1475), Value.none, Value.none, Value.none, (Value.bool false), Value.none])
noncomputable def o1477 (P : Params) : Obj := (fo "range" [(vi 0 20944), (vi 33 20946), (vi 1 20947)])
noncomputable def o1478 (P : Params) : Obj := (fo "range_iterator" [(vi 33 0), (vi 0 0), (vi 1 0)])
noncomputable def o1479 (P : Params) : Obj := (Obj.mk (Value.type "list") none (Data.seq (List.toArray [(vr 1481), (vr 1482), (vr 1483), (vr 1484), (vr 1485), (vr 1486), (vr 1487), (vr 1488), (vr 1489), (vr 1490), (vr 1491), (vr 1492), (vr 1493), (vr 1494), (vr 1495), (vr 1496), (vr 1497), (vr 1498), (vr 1499), (vr 1500), (vr 1501), (vr 1502), (vr 1503), (vr 1504), (vr 1505), (vr 1506), (vr 1507), (vr 1508), (vr 1509), (vr 1510), (vr 1511), (vr 1512), (vr 1513)]) 33) #[])
noncomputable def o1480 (P : Params) : Obj := (di [] 2)
noncomputable def o1481 (P : Params) : Obj := (tu [(vi 4294967295 20954), (vi 0 20948)])
noncomputable def o1482 (P : Params) : Obj := (tu [(vi 2147483647 20961), (vi 1 20955)])
noncomputable def o1483 (P : Params) : Obj := (tu [(vi 1073741823 20968), (vi 2 20962)])
noncomputable def o1484 (P : Params) : Obj := (tu [(vi 536870911 20975), (vi 3 20969)])
noncomputable def o1485 (P : Params) : Obj := (tu [(vi 268435455 20982), (vi 4 20976)])
noncomputable def o1486 (P : Params) : Obj := (tu [(vi 134217727 20989), (vi 5 20983)])
noncomputable def o1487 (P : Params) : Obj := (tu [(vi 67108863 20996), (vi 6 20990)])
noncomputable def o1488 (P : Params) : Obj := (tu [(vi 33554431 21003), (vi 7 20997)])
noncomputable def o1489 (P : Params) : Obj := (tu [(vi 16777215 21010), (vi 8 21004)])
noncomputable def o1490 (P : Params) : Obj := (tu [(vi 8388607 21017), (vi 9 21011)])
noncomputable def o1491 (P : Params) : Obj := (tu [(vi 4194303 21024), (vi 10 21018)])
noncomputable def o1492 (P : Params) : Obj := (tu [(vi 2097151 21031), (vi 11 21025)])
noncomputable def o1493 (P : Params) : Obj := (tu [(vi 1048575 21038), (vi 12 21032)])
noncomputable def o1494 (P : Params) : Obj := (tu [(vi 524287 21045), (vi 13 21039)])
noncomputable def o1495 (P : Params) : Obj := (tu [(vi 262143 21052), (vi 14 21046)])
noncomputable def o1496 (P : Params) : Obj := (tu [(vi 131071 21059), (vi 15 21053)])
noncomputable def o1497 (P : Params) : Obj := (tu [(vi 65535 21066), (vi 16 21060)])
noncomputable def o1498 (P : Params) : Obj := (tu [(vi 32767 21073), (vi 17 21067)])
noncomputable def o1499 (P : Params) : Obj := (tu [(vi 16383 21080), (vi 18 21074)])
noncomputable def o1500 (P : Params) : Obj := (tu [(vi 8191 21087), (vi 19 21081)])
noncomputable def o1501 (P : Params) : Obj := (tu [(vi 4095 21094), (vi 20 21088)])
noncomputable def o1502 (P : Params) : Obj := (tu [(vi 2047 21101), (vi 21 21095)])
noncomputable def o1503 (P : Params) : Obj := (tu [(vi 1023 21108), (vi 22 21102)])
noncomputable def o1504 (P : Params) : Obj := (tu [(vi 511 21115), (vi 23 21109)])
noncomputable def o1505 (P : Params) : Obj := (tu [(vi 255 21122), (vi 24 21116)])
noncomputable def o1506 (P : Params) : Obj := (tu [(vi 127 21129), (vi 25 21123)])
noncomputable def o1507 (P : Params) : Obj := (tu [(vi 63 21136), (vi 26 21130)])
noncomputable def o1508 (P : Params) : Obj := (tu [(vi 31 21143), (vi 27 21137)])
noncomputable def o1509 (P : Params) : Obj := (tu [(vi 15 21150), (vi 28 21144)])
noncomputable def o1510 (P : Params) : Obj := (tu [(vi 7 21157), (vi 29 21151)])
noncomputable def o1511 (P : Params) : Obj := (tu [(vi 3 21164), (vi 30 21158)])
noncomputable def o1512 (P : Params) : Obj := (tu [(vi 1 21171), (vi 31 21165)])
noncomputable def o1513 (P : Params) : Obj := (tu [(vi 0 21178), (vi 32 21172)])
noncomputable def o1514 (P : Params) : Obj := (tu [])
noncomputable def o1515 (P : Params) : Obj := (fo "StopIteration" [(vr 1514), Value.none, Value.none, Value.none, (Value.bool false), Value.none])
noncomputable def o1516 (P : Params) : Obj := (di [(DictEntry.mk 4294967295 (vi 4294967295 20954) (vi 0 20948)), (DictEntry.mk 2147483647 (vi 2147483647 20961) (vi 1 20955)), (DictEntry.mk 1073741823 (vi 1073741823 20968) (vi 2 20962)), (DictEntry.mk 536870911 (vi 536870911 20975) (vi 3 20969)), (DictEntry.mk 268435455 (vi 268435455 20982) (vi 4 20976)), (DictEntry.mk 134217727 (vi 134217727 20989) (vi 5 20983)), (DictEntry.mk 67108863 (vi 67108863 20996) (vi 6 20990)), (DictEntry.mk 33554431 (vi 33554431 21003) (vi 7 20997)), (DictEntry.mk 16777215 (vi 16777215 21010) (vi 8 21004)), (DictEntry.mk 8388607 (vi 8388607 21017) (vi 9 21011)), (DictEntry.mk 4194303 (vi 4194303 21024) (vi 10 21018)), (DictEntry.mk 2097151 (vi 2097151 21031) (vi 11 21025)), (DictEntry.mk 1048575 (vi 1048575 21038) (vi 12 21032)), (DictEntry.mk 524287 (vi 524287 21045) (vi 13 21039)), (DictEntry.mk 262143 (vi 262143 21052) (vi 14 21046)), (DictEntry.mk 131071 (vi 131071 21059) (vi 15 21053)), (DictEntry.mk 65535 (vi 65535 21066) (vi 16 21060)), (DictEntry.mk 32767 (vi 32767 21073) (vi 17 21067)), (DictEntry.mk 16383 (vi 16383 21080) (vi 18 21074)), (DictEntry.mk 8191 (vi 8191 21087) (vi 19 21081)), (DictEntry.mk 4095 (vi 4095 21094) (vi 20 21088)), (DictEntry.mk 2047 (vi 2047 21101) (vi 21 21095)), (DictEntry.mk 1023 (vi 1023 21108) (vi 22 21102)), (DictEntry.mk 511 (vi 511 21115) (vi 23 21109)), (DictEntry.mk 255 (vi 255 21122) (vi 24 21116)), (DictEntry.mk 127 (vi 127 21129) (vi 25 21123)), (DictEntry.mk 63 (vi 63 21136) (vi 26 21130)), (DictEntry.mk 31 (vi 31 21143) (vi 27 21137)), (DictEntry.mk 15 (vi 15 21150) (vi 28 21144)), (DictEntry.mk 7 (vi 7 21157) (vi 29 21151)), (DictEntry.mk 3 (vi 3 21164) (vi 30 21158)), (DictEntry.mk 1 (vi 1 21171) (vi 31 21165)), (DictEntry.mk 0 (vi 0 21178) (vi 32 21172))] 33)
noncomputable def o1517 (P : Params) : Obj := (tu [(vs "'list' object has no attribute 'keys'" 21180)])
noncomputable def o1518 (P : Params) : Obj := (fo "AttributeError" [(vr 1517), Value.none, Value.none, Value.none, (Value.bool false), Value.none, (vs "keys" 21181), (vr 1479)])
noncomputable def o1519 (P : Params) : Obj := (fo "list_iterator" [Value.none, (vi 33 0)])
noncomputable def o1520 (P : Params) : Obj := (tu [])
noncomputable def o1521 (P : Params) : Obj := (fo "StopIteration" [(vr 1520), Value.none, Value.none, Value.none, (Value.bool false), Value.none])
noncomputable def o1522 (P : Params) : Obj := (tu [(vi 0 21216)])
noncomputable def o1523 (P : Params) : Obj := (tu [])
noncomputable def o1524 (P : Params) : Obj := (Obj.mk Value.none none (Data.fields (List.toArray [])) #[])
noncomputable def o1525 (P : Params) : Obj := (Obj.mk Value.none none (Data.func (FuncData.mk (Str.ofString "str_to_int") (Str.ofString "str_to_int") (fA (st 34)) (FuncBody.stmts (fB (st 34))) (fS (st 34)) 0 [] Value.none Value.none Value.none Value.none none Value.none Value.none 0)) #[])
noncomputable def o1526 (P : Params) : Obj := (fo "code" [(vs "str_to_int" 21217), (vs "str_to_int" 21218), (vs "/claim/cut.py" 21219), (vi 242 0), (vi 2 0), (vi 0 0), (vi 0 0), (vi 3 0), (vr 1523), (Value.bool true), (vi 181 0), (vr 1524), Value.none, Value.none, Value.none, (vr 1525), (vi 21220 0), (vi 242 0), (vs "/claim/cut.py" 21221)])
noncomputable def o1527 (P : Params) : Obj := (Obj.mk (Value.type "function") none (Data.func (FuncData.mk (Str.ofString "str_to_int") (Str.ofString "str_to_int") (fA (st 34)) (FuncBody.stmts (fB (st 34))) (fS (st 34)) 3 [] (vr 1522) Value.none Value.none (vs "netaddr.strategy.ipv4" 20317) none (vr 1526) Value.none 0)) #[])
noncomputable def o1528 (P : Params) : Obj := (tu [Value.none])
noncomputable def o1529 (P : Params) : Obj := (tu [])
noncomputable def o1530 (P : Params) : Obj := (Obj.mk Value.none none (Data.fields (List.toArray [])) #[])
noncomputable def o1531 (P : Params) : Obj := (tu [(vs "int_val" 21227), (vs "dialect" 21228)])
noncomputable def o1532 (P : Params) : Obj := (tu [])
noncomputable def o1533 (P : Params) : Obj := (Obj.mk Value.none none (Data.func (FuncData.mk (Str.ofString "int_to_str") (Str.ofString "int_to_str") (fA (st 36)) (FuncBody.stmts (fB (st 36))) (fS (st 36)) 0 [] Value.none Value.none Value.none Value.none none Value.none Value.none 0)) #[])
noncomputable def o1534 (P : Params) : Obj := (fo "code" [(vs "int_to_str" 21224), (vs "int_to_str" 21225), (vs "/claim/cut.py" 21226), (vi 260 0), (vi 2 0), (vi 0 0), (vi 0 0), (vi 3 0), (vr 1529), (Value.bool true), (vi 181 0), (vr 1530), Value.none, (vr 1531), (vr 1532), (vr 1533), (vi 21229 0), (vi 260 0), (vs "/claim/cut.py" 21230)])
noncomputable def o1535 (P : Params) : Obj := (Obj.mk (Value.type "function") none (Data.func (FuncData.mk (Str.ofString "int_to_str") (Str.ofString "int_to_str") (fA (st 36)) (FuncBody.stmts (fB (st 36))) (fS (st 36)) 3 [] (vr 1528) Value.none Value.none (vs "netaddr.strategy.ipv4" 20317) none (vr 1534) Value.none 0)) #[])
noncomputable def o1536 (P : Params) : Obj := (tu [])
noncomputable def o1537 (P : Params) : Obj := (Obj.mk Value.none none (Data.fields (List.toArray [])) #[])
noncomputable def o1538 (P : Params) : Obj := (tu [(vs "int_val" 21236)])
noncomputable def o1539 (P : Params) : Obj := (tu [])
noncomputable def o1540 (P : Params) : Obj := (Obj.mk Value.none none (Data.func (FuncData.mk (Str.ofString "int_to_packed") (Str.ofString "int_to_packed") (fA (st 38)) (FuncBody.stmts (fB (st 38))) (fS (st 38)) 0 [] Value.none Value.none Value.none Value.none none Value.none Value.none 0)) #[])
noncomputable def o1541 (P : Params) : Obj := (fo "code" [(vs "int_to_packed" 21233), (vs "int_to_packed" 21234), (vs "/claim/cut.py" 21235), (vi 266 0), (vi 1 0), (vi 0 0), (vi 0 0), (vi 3 0), (vr 1536), (Value.bool true), (vi 181 0), (vr 1537), Value.none, (vr 1538), (vr 1539), (vr 1540), (vi 21237 0), (vi 266 0), (vs "/claim/cut.py" 21238)])
noncomputable def o1542 (P : Params) : Obj := (Obj.mk (Value.type "function") none (Data.func (FuncData.mk (Str.ofString "int_to_packed") (Str.ofString "int_to_packed") (fA (st 38)) (FuncBody.stmts (fB (st 38))) (fS (st 38)) 3 [] Value.none Value.none Value.none (vs "netaddr.strategy.ipv4" 20317) none (vr 1541) Value.none 0)) #[])
noncomputable def o1543 (P : Params) : Obj := (tu [])
noncomputable def o1544 (P : Params) : Obj := (Obj.mk Value.none none (Data.fields (List.toArray [])) #[])
noncomputable def o1545 (P : Params) : Obj := (tu [(vs "int_val" 21244)])
noncomputable def o1546 (P : Params) : Obj := (tu [])
noncomputable def o1547 (P : Params) : Obj := (Obj.mk Value.none none (Data.func (FuncData.mk (Str.ofString "int_to_words") (Str.ofString "int_to_words") (fA (st 40)) (FuncBody.stmts (fB (st 40))) (fS (st 40)) 0 [] Value.none Value.none Value.none Value.none none Value.none Value.none 0)) #[])
noncomputable def o1548 (P : Params) : Obj := (fo "code" [(vs "int_to_words" 21241), (vs "int_to_words" 21242), (vs "/claim/cut.py" 21243), (vi 269 0), (vi 1 0), (vi 0 0), (vi 0 0), (vi 3 0), (vr 1543), (Value.bool true), (vi 181 0), (vr 1544), Value.none, (vr 1545), (vr 1546), (vr 1547), (vi 21245 0), (vi 269 0), (vs "/claim/cut.py" 21246)])
noncomputable def o1549 (P : Params) : Obj := (Obj.mk (Value.type "function") none (Data.func (FuncData.mk (Str.ofString "int_to_words") (Str.ofString "int_to_words") (fA (st 40)) (FuncBody.stmts (fB (st 40))) (fS (st 40)) 3 [] Value.none Value.none Value.none (vs "netaddr.strategy.ipv4" 20317) none (vr 1548) Value.none 0)) #[])
noncomputable def o1550 (P : Params) : Obj := (tu [Value.none])
noncomputable def o1551 (P : Params) : Obj := (tu [])
noncomputable def o1552 (P : Params) : Obj := (Obj.mk Value.none none (Data.fields (List.toArray [])) #[])
noncomputable def o1553 (P : Params) : Obj := (tu [(vs "int_val" 21252), (vs "word_sep" 21253)])
noncomputable def o1554 (P : Params) : Obj := (tu [])
noncomputable def o1555 (P : Params) : Obj := (Obj.mk Value.none none (Data.func (FuncData.mk (Str.ofString "int_to_bits") (Str.ofString "int_to_bits") (fA (st 42)) (FuncBody.stmts (fB (st 42))) (fS (st 42)) 0 [] Value.none Value.none Value.none Value.none none Value.none Value.none 0)) #[])
noncomputable def o1556 (P : Params) : Obj := (fo "code" [(vs "int_to_bits" 21249), (vs "int_to_bits" 21250), (vs "/claim/cut.py" 21251), (vi 274 0), (vi 2 0), (vi 0 0), (vi 0 0), (vi 3 0), (vr 1551), (Value.bool true), (vi 181 0), (vr 1552), Value.none, (vr 1553), (vr 1554), (vr 1555), (vi 21254 0), (vi 274 0), (vs "/claim/cut.py" 21255)])
noncomputable def o1557 (P : Params) : Obj := (Obj.mk (Value.type "function") none (Data.func (FuncData.mk (Str.ofString "int_to_bits") (Str.ofString "int_to_bits") (fA (st 42)) (FuncBody.stmts (fB (st 42))) (fS (st 42)) 3 [] (vr 1550) Value.none Value.none (vs "netaddr.strategy.ipv4" 20317) none (vr 1556) Value.none 0)) #[])
noncomputable def o1558 (P : Params) : Obj := (tu [])
noncomputable def o1559 (P : Params) : Obj := (Obj.mk Value.none none (Data.fields (List.toArray [])) #[])
noncomputable def o1560 (P : Params) : Obj := (Obj.mk Value.none none (Data.func (FuncData.mk (Str.ofString "expand_partial_address") (Str.ofString "expand_partial_address") (fA (st 44)) (FuncBody.stmts (fB (st 44))) (fS (st 44)) 0 [] Value.none Value.none Value.none Value.none none Value.none Value.none 0)) #[])
noncomputable def o1561 (P : Params) : Obj := (fo "code" [(vs "expand_partial_address" 21258), (vs "expand_partial_address" 21259), (vs "/claim/cut.py" 21260), (vi 279 0), (vi 1 0), (vi 0 0), (vi 0 0), (vi 3 0), (vr 1558), (Value.bool true), (vi 181 0), (vr 1559), Value.none, Value.none, Value.none, (vr 1560), (vi 21261 0), (vi 279 0), (vs "/claim/cut.py" 21262)])
noncomputable def o1562 (P : Params) : Obj := (Obj.mk (Value.type "function") none (Data.func (FuncData.mk (Str.ofString "expand_partial_address") (Str.ofString "expand_partial_address") (fA (st 44)) (FuncBody.stmts (fB (st 44))) (fS (st 44)) 3 [] Value.none Value.none Value.none (vs "netaddr.strategy.ipv4" 20317) none (vr 1561) Value.none 0)) #[])
noncomputable def o1563 (P : Params) : Obj := (tu [(Value.type "object")])
noncomputable def o1564 (P : Params) : Obj := (fo "builtin_function_or_method" [(Value.builtin "type.__prepare__"), (Value.type "type")])
noncomputable def o1565 (P : Params) : Obj := (di [(de P "__module__" 21272 (vs "netaddr.strategy.ipv4" 20317)), (de P "__qualname__" 21274 (vs "Ipv4Names" 21273)), (de P "__firstlineno__" 21276 (vi 301 21275)), (de P "__init__" 21283 (vr 1576)), (de P "str_to_int" 21293 (vr 1584)), (de P "int_to_str" 21302 (vr 1592)), (de P "int_to_arpa" 21310 (vr 1599)), (de P "int_to_packed" 21318 (vr 1606)), (de P "int_to_words" 21326 (vr 1613)), (de P "int_to_bits" 21335 (vr 1621)), (de P "int_to_bin" 21343 (vr 1628)), (de P "expand_partial_address" 21351 (vr 1635)), (de P "__static_attributes__" 21359 (vr 1636))] 13)
noncomputable def o1566 (P : Params) : Obj := (tu [])
noncomputable def o1567 (P : Params) : Obj := (Obj.mk Value.none none (Data.fields (List.toArray [(vi 303 0), (vi 4 0), (vr 1575), (vi 312 0), (vi 4 0), (vr 1583), (vi 315 0), (vi 4 0), (vr 1591), (vi 318 0), (vi 4 0), (vr 1598), (vi 321 0), (vi 4 0), (vr 1605), (vi 324 0), (vi 4 0), (vr 1612), (vi 327 0), (vi 4 0), (vr 1620), (vi 330 0), (vi 4 0), (vr 1627), (vi 333 0), (vi 4 0), (vr 1634)])) #[])
noncomputable def o1568 (P : Params) : Obj := (fo "code" [(vs "Ipv4Names" 21267), (vs "Ipv4Names" 21268), (vs "/claim/cut.py" 21269), (vi 301 0), (vi 0 0), (vi 0 0), (vi 0 0), (vi 0 0), (vr 1566), (Value.bool false), (vi 181 0), (vr 1567), Value.none, Value.none, Value.none, Value.none, (vi 21270 0), (vi 301 0), (vs "/claim/cut.py" 21271)])
noncomputable def o1569 (P : Params) : Obj := (Obj.mk (Value.type "frame") none Data.plain (List.toArray [(some (vr 1568)), (some (vr 3)), (some (vr 1565)), none, (some (vs "netaddr.strategy.ipv4" 20317)), none, (some (vr 0))]))
noncomputable def o1570 (P : Params) : Obj := (tu [])
noncomputable def o1571 (P : Params) : Obj := (Obj.mk Value.none none (Data.fields (List.toArray [])) #[])
noncomputable def o1572 (P : Params) : Obj := (tu [(vs "self" 21280)])
noncomputable def o1573 (P : Params) : Obj := (tu [])
noncomputable def o1574 (P : Params) : Obj := (Obj.mk Value.none none (Data.func (FuncData.mk (Str.ofString "__init__") (Str.ofString "Ipv4Names.__init__") (fA (inC (st 46) 0)) (FuncBody.stmts (fB (inC (st 46) 0))) (fS (inC (st 46) 0)) 0 [] Value.none Value.none Value.none Value.none none Value.none Value.none 0)) #[])
noncomputable def o1575 (P : Params) : Obj := (fo "code" [(vs "__init__" 21277), (vs "Ipv4Names.__init__" 21278), (vs "/claim/cut.py" 21279), (vi 303 0), (vi 1 0), (vi 0 0), (vi 0 0), (vi 3 0), (vr 1570), (Value.bool true), (vi 181 0), (vr 1571), Value.none, (vr 1572), (vr 1573), (vr 1574), (vi 21281 0), (vi 303 0), (vs "/claim/cut.py" 21282)])
noncomputable def o1576 (P : Params) : Obj := (Obj.mk (Value.type "function") none (Data.func (FuncData.mk (Str.ofString "__init__") (Str.ofString "Ipv4Names.__init__") (fA (inC (st 46) 0)) (FuncBody.stmts (fB (inC (st 46) 0))) (fS (inC (st 46) 0)) 3 [] Value.none Value.none Value.none (vs "netaddr.strategy.ipv4" 20317) none (vr 1575) Value.none 0)) #[])
noncomputable def o1577 (P : Params) : Obj := (tu [(vi 0 21284)])
noncomputable def o1578 (P : Params) : Obj := (tu [])
noncomputable def o1579 (P : Params) : Obj := (Obj.mk Value.none none (Data.fields (List.toArray [])) #[])
noncomputable def o1580 (P : Params) : Obj := (tu [(vs "self" 21288), (vs "addr" 21289), (vs "flags" 21290)])
noncomputable def o1581 (P : Params) : Obj := (tu [])
noncomputable def o1582 (P : Params) : Obj := (Obj.mk Value.none none (Data.func (FuncData.mk (Str.ofString "str_to_int") (Str.ofString "Ipv4Names.str_to_int") (fA (inC (st 46) 1)) (FuncBody.stmts (fB (inC (st 46) 1))) (fS (inC (st 46) 1)) 0 [] Value.none Value.none Value.none Value.none none Value.none Value.none 0)) #[])
noncomputable def o1583 (P : Params) : Obj := (fo "code" [(vs "str_to_int" 21285), (vs "Ipv4Names.str_to_int" 21286), (vs "/claim/cut.py" 21287), (vi 312 0), (vi 3 0), (vi 0 0), (vi 0 0), (vi 3 0), (vr 1578), (Value.bool true), (vi 181 0), (vr 1579), Value.none, (vr 1580), (vr 1581), (vr 1582), (vi 21291 0), (vi 312 0), (vs "/claim/cut.py" 21292)])
noncomputable def o1584 (P : Params) : Obj := (Obj.mk (Value.type "function") none (Data.func (FuncData.mk (Str.ofString "str_to_int") (Str.ofString "Ipv4Names.str_to_int") (fA (inC (st 46) 1)) (FuncBody.stmts (fB (inC (st 46) 1))) (fS (inC (st 46) 1)) 3 [] (vr 1577) Value.none Value.none (vs "netaddr.strategy.ipv4" 20317) none (vr 1583) Value.none 0)) #[])
noncomputable def o1585 (P : Params) : Obj := (tu [Value.none])
noncomputable def o1586 (P : Params) : Obj := (tu [])
noncomputable def o1587 (P : Params) : Obj := (Obj.mk Value.none none (Data.fields (List.toArray [])) #[])
noncomputable def o1588 (P : Params) : Obj := (tu [(vs "self" 21297), (vs "int_val" 21298), (vs "dialect" 21299)])
noncomputable def o1589 (P : Params) : Obj := (tu [])
noncomputable def o1590 (P : Params) : Obj := (Obj.mk Value.none none (Data.func (FuncData.mk (Str.ofString "int_to_str") (Str.ofString "Ipv4Names.int_to_str") (fA (inC (st 46) 2)) (FuncBody.stmts (fB (inC (st 46) 2))) (fS (inC (st 46) 2)) 0 [] Value.none Value.none Value.none Value.none none Value.none Value.none 0)) #[])
noncomputable def o1591 (P : Params) : Obj := (fo "code" [(vs "int_to_str" 21294), (vs "Ipv4Names.int_to_str" 21295), (vs "/claim/cut.py" 21296), (vi 315 0), (vi 3 0), (vi 0 0), (vi 0 0), (vi 3 0), (vr 1586), (Value.bool true), (vi 181 0), (vr 1587), Value.none, (vr 1588), (vr 1589), (vr 1590), (vi 21300 0), (vi 315 0), (vs "/claim/cut.py" 21301)])
noncomputable def o1592 (P : Params) : Obj := (Obj.mk (Value.type "function") none (Data.func (FuncData.mk (Str.ofString "int_to_str") (Str.ofString "Ipv4Names.int_to_str") (fA (inC (st 46) 2)) (FuncBody.stmts (fB (inC (st 46) 2))) (fS (inC (st 46) 2)) 3 [] (vr 1585) Value.none Value.none (vs "netaddr.strategy.ipv4" 20317) none (vr 1591) Value.none 0)) #[])
noncomputable def o1593 (P : Params) : Obj := (tu [])
noncomputable def o1594 (P : Params) : Obj := (Obj.mk Value.none none (Data.fields (List.toArray [])) #[])
noncomputable def o1595 (P : Params) : Obj := (tu [(vs "self" 21306), (vs "int_val" 21307)])
noncomputable def o1596 (P : Params) : Obj := (tu [])
noncomputable def o1597 (P : Params) : Obj := (Obj.mk Value.none none (Data.func (FuncData.mk (Str.ofString "int_to_arpa") (Str.ofString "Ipv4Names.int_to_arpa") (fA (inC (st 46) 3)) (FuncBody.stmts (fB (inC (st 46) 3))) (fS (inC (st 71) 7)) 0 [] Value.none Value.none Value.none Value.none none Value.none Value.none 0)) #[])
noncomputable def o1598 (P : Params) : Obj := (fo "code" [(vs "int_to_arpa" 21303), (vs "Ipv4Names.int_to_arpa" 21304), (vs "/claim/cut.py" 21305), (vi 318 0), (vi 2 0), (vi 0 0), (vi 0 0), (vi 3 0), (vr 1593), (Value.bool true), (vi 181 0), (vr 1594), Value.none, (vr 1595), (vr 1596), (vr 1597), (vi 21308 0), (vi 318 0), (vs "/claim/cut.py" 21309)])
noncomputable def o1599 (P : Params) : Obj := (Obj.mk (Value.type "function") none (Data.func (FuncData.mk (Str.ofString "int_to_arpa") (Str.ofString "Ipv4Names.int_to_arpa") (fA (inC (st 46) 3)) (FuncBody.stmts (fB (inC (st 46) 3))) (fS (inC (st 71) 7)) 3 [] Value.none Value.none Value.none (vs "netaddr.strategy.ipv4" 20317) none (vr 1598) Value.none 0)) #[])
noncomputable def o1600 (P : Params) : Obj := (tu [])
noncomputable def o1601 (P : Params) : Obj := (Obj.mk Value.none none (Data.fields (List.toArray [])) #[])
noncomputable def o1602 (P : Params) : Obj := (tu [(vs "self" 21314), (vs "int_val" 21315)])
noncomputable def o1603 (P : Params) : Obj := (tu [])
noncomputable def o1604 (P : Params) : Obj := (Obj.mk Value.none none (Data.func (FuncData.mk (Str.ofString "int_to_packed") (Str.ofString "Ipv4Names.int_to_packed") (fA (inC (st 46) 4)) (FuncBody.stmts (fB (inC (st 46) 4))) (fS (inC (st 46) 4)) 0 [] Value.none Value.none Value.none Value.none none Value.none Value.none 0)) #[])
noncomputable def o1605 (P : Params) : Obj := (fo "code" [(vs "int_to_packed" 21311), (vs "Ipv4Names.int_to_packed" 21312), (vs "/claim/cut.py" 21313), (vi 321 0), (vi 2 0), (vi 0 0), (vi 0 0), (vi 3 0), (vr 1600), (Value.bool true), (vi 181 0), (vr 1601), Value.none, (vr 1602), (vr 1603), (vr 1604), (vi 21316 0), (vi 321 0), (vs "/claim/cut.py" 21317)])
noncomputable def o1606 (P : Params) : Obj := (Obj.mk (Value.type "function") none (Data.func (FuncData.mk (Str.ofString "int_to_packed") (Str.ofString "Ipv4Names.int_to_packed") (fA (inC (st 46) 4)) (FuncBody.stmts (fB (inC (st 46) 4))) (fS (inC (st 46) 4)) 3 [] Value.none Value.none Value.none (vs "netaddr.strategy.ipv4" 20317) none (vr 1605) Value.none 0)) #[])
noncomputable def o1607 (P : Params) : Obj := (tu [])
noncomputable def o1608 (P : Params) : Obj := (Obj.mk Value.none none (Data.fields (List.toArray [])) #[])
noncomputable def o1609 (P : Params) : Obj := (tu [(vs "self" 21322), (vs "int_val" 21323)])
noncomputable def o1610 (P : Params) : Obj := (tu [])
noncomputable def o1611 (P : Params) : Obj := (Obj.mk Value.none none (Data.func (FuncData.mk (Str.ofString "int_to_words") (Str.ofString "Ipv4Names.int_to_words") (fA (inC (st 46) 5)) (FuncBody.stmts (fB (inC (st 46) 5))) (fS (inC (st 46) 5)) 0 [] Value.none Value.none Value.none Value.none none Value.none Value.none 0)) #[])
noncomputable def o1612 (P : Params) : Obj := (fo "code" [(vs "int_to_words" 21319), (vs "Ipv4Names.int_to_words" 21320), (vs "/claim/cut.py" 21321), (vi 324 0), (vi 2 0), (vi 0 0), (vi 0 0), (vi 3 0), (vr 1607), (Value.bool true), (vi 181 0), (vr 1608), Value.none, (vr 1609), (vr 1610), (vr 1611), (vi 21324 0), (vi 324 0), (vs "/claim/cut.py" 21325)])
noncomputable def o1613 (P : Params) : Obj := (Obj.mk (Value.type "function") none (Data.func (FuncData.mk (Str.ofString "int_to_words") (Str.ofString "Ipv4Names.int_to_words") (fA (inC (st 46) 5)) (FuncBody.stmts (fB (inC (st 46) 5))) (fS (inC (st 46) 5)) 3 [] Value.none Value.none Value.none (vs "netaddr.strategy.ipv4" 20317) none (vr 1612) Value.none 0)) #[])
noncomputable def o1614 (P : Params) : Obj := (tu [Value.none])
noncomputable def o1615 (P : Params) : Obj := (tu [])
noncomputable def o1616 (P : Params) : Obj := (Obj.mk Value.none none (Data.fields (List.toArray [])) #[])
noncomputable def o1617 (P : Params) : Obj := (tu [(vs "self" 21330), (vs "int_val" 21331), (vs "word_sep" 21332)])
noncomputable def o1618 (P : Params) : Obj := (tu [])
noncomputable def o1619 (P : Params) : Obj := (Obj.mk Value.none none (Data.func (FuncData.mk (Str.ofString "int_to_bits") (Str.ofString "Ipv4Names.int_to_bits") (fA (inC (st 46) 6)) (FuncBody.stmts (fB (inC (st 46) 6))) (fS (inC (st 46) 6)) 0 [] Value.none Value.none Value.none Value.none none Value.none Value.none 0)) #[])
noncomputable def o1620 (P : Params) : Obj := (fo "code" [(vs "int_to_bits" 21327), (vs "Ipv4Names.int_to_bits" 21328), (vs "/claim/cut.py" 21329), (vi 327 0), (vi 3 0), (vi 0 0), (vi 0 0), (vi 3 0), (vr 1615), (Value.bool true), (vi 181 0), (vr 1616), Value.none, (vr 1617), (vr 1618), (vr 1619), (vi 21333 0), (vi 327 0), (vs "/claim/cut.py" 21334)])
noncomputable def o1621 (P : Params) : Obj := (Obj.mk (Value.type "function") none (Data.func (FuncData.mk (Str.ofString "int_to_bits") (Str.ofString "Ipv4Names.int_to_bits") (fA (inC (st 46) 6)) (FuncBody.stmts (fB (inC (st 46) 6))) (fS (inC (st 46) 6)) 3 [] (vr 1614) Value.none Value.none (vs "netaddr.strategy.ipv4" 20317) none (vr 1620) Value.none 0)) #[])
noncomputable def o1622 (P : Params) : Obj := (tu [])
noncomputable def o1623 (P : Params) : Obj := (Obj.mk Value.none none (Data.fields (List.toArray [])) #[])
noncomputable def o1624 (P : Params) : Obj := (tu [(vs "self" 21339), (vs "int_val" 21340)])
noncomputable def o1625 (P : Params) : Obj := (tu [])
noncomputable def o1626 (P : Params) : Obj := (Obj.mk Value.none none (Data.func (FuncData.mk (Str.ofString "int_to_bin") (Str.ofString "Ipv4Names.int_to_bin") (fA (inC (st 46) 7)) (FuncBody.stmts (fB (inC (st 46) 7))) (fS (inC (st 71) 7)) 0 [] Value.none Value.none Value.none Value.none none Value.none Value.none 0)) #[])
noncomputable def o1627 (P : Params) : Obj := (fo "code" [(vs "int_to_bin" 21336), (vs "Ipv4Names.int_to_bin" 21337), (vs "/claim/cut.py" 21338), (vi 330 0), (vi 2 0), (vi 0 0), (vi 0 0), (vi 3 0), (vr 1622), (Value.bool true), (vi 181 0), (vr 1623), Value.none, (vr 1624), (vr 1625), (vr 1626), (vi 21341 0), (vi 330 0), (vs "/claim/cut.py" 21342)])
noncomputable def o1628 (P : Params) : Obj := (Obj.mk (Value.type "function") none (Data.func (FuncData.mk (Str.ofString "int_to_bin") (Str.ofString "Ipv4Names.int_to_bin") (fA (inC (st 46) 7)) (FuncBody.stmts (fB (inC (st 46) 7))) (fS (inC (st 71) 7)) 3 [] Value.none Value.none Value.none (vs "netaddr.strategy.ipv4" 20317) none (vr 1627) Value.none 0)) #[])
noncomputable def o1629 (P : Params) : Obj := (tu [])
noncomputable def o1630 (P : Params) : Obj := (Obj.mk Value.none none (Data.fields (List.toArray [])) #[])
noncomputable def o1631 (P : Params) : Obj := (tu [(vs "self" 21347), (vs "addr" 21348)])
noncomputable def o1632 (P : Params) : Obj := (tu [])
noncomputable def o1633 (P : Params) : Obj := (Obj.mk Value.none none (Data.func (FuncData.mk (Str.ofString "expand_partial_address") (Str.ofString "Ipv4Names.expand_partial_address") (fA (inC (st 46) 8)) (FuncBody.stmts (fB (inC (st 46) 8))) (fS (inC (st 46) 8)) 0 [] Value.none Value.none Value.none Value.none none Value.none Value.none 0)) #[])
noncomputable def o1634 (P : Params) : Obj := (fo "code" [(vs "expand_partial_address" 21344), (vs "Ipv4Names.expand_partial_address" 21345), (vs "/claim/cut.py" 21346), (vi 333 0), (vi 2 0), (vi 0 0), (vi 0 0), (vi 3 0), (vr 1629), (Value.bool true), (vi 181 0), (vr 1630), Value.none, (vr 1631), (vr 1632), (vr 1633), (vi 21349 0), (vi 333 0), (vs "/claim/cut.py" 21350)])
noncomputable def o1635 (P : Params) : Obj := (Obj.mk (Value.type "function") none (Data.func (FuncData.mk (Str.ofString "expand_partial_address") (Str.ofString "Ipv4Names.expand_partial_address") (fA (inC (st 46) 8)) (FuncBody.stmts (fB (inC (st 46) 8))) (fS (inC (st 46) 8)) 3 [] Value.none Value.none Value.none (vs "netaddr.strategy.ipv4" 20317) none (vr 1634) Value.none 0)) #[])
noncomputable def o1636 (P : Params) : Obj := (tu [(vs "family_name" 21352), (vs "hostmask_to_prefix" 21353), (vs "max_int" 21354), (vs "netmask_to_prefix" 21355), (vs "prefix_to_netmask" 21356), (vs "version" 21357), (vs "width" 21358)])
noncomputable def o1637 (P : Params) : Obj := (di [(de P "__module__" 21272 (vs "netaddr.strategy.ipv4" 20317)), (de P "__firstlineno__" 21276 (vi 301 21275)), (de P "__init__" 21283 (vr 1576)), (de P "str_to_int" 21293 (vr 1584)), (de P "int_to_str" 21302 (vr 1592)), (de P "int_to_arpa" 21310 (vr 1599)), (de P "int_to_packed" 21318 (vr 1606)), (de P "int_to_words" 21326 (vr 1613)), (de P "int_to_bits" 21335 (vr 1621)), (de P "int_to_bin" 21343 (vr 1628)), (de P "expand_partial_address" 21351 (vr 1635)), (de P "__static_attributes__" 21359 (vr 1636)), (de P "__dict__" 21361 (vr 1639)), (de P "__weakref__" 21363 (vr 1640)), (de P "__doc__" 21364 Value.none)] 4)
noncomputable def o1638 (P : Params) : Obj := (Obj.mk (Value.type "type") none (Data.cls (ClassData.mk (Str.ofString "Ipv4Names") [(Value.type "object")] [(vr 1638), (Value.type "object")] 1637 (Str.ofString "Ipv4Names") true [] [] false none false)) (List.toArray [(some (vr 1563)), none, (some (vs "Ipv4Names" 21265)), (some (vs "Ipv4Names" 21273)), (some (Value.builtin "object.__new__")), (some (Value.bool true))]))
noncomputable def o1639 (P : Params) : Obj := (fo "getset_descriptor" [(vs "__dict__" 21360), (vr 1638), (Value.builtin "function.__dict__"), (Value.builtin "function.__dict__#set")])
noncomputable def o1640 (P : Params) : Obj := (fo "getset_descriptor" [(vs "__weakref__" 21362), (vr 1638), (Value.builtin "ExceptionGroup.__weakref__"), Value.none])
noncomputable def o1641 (P : Params) : Obj := (fo "super" [(vr 1638), (vr 1638), (vr 1638)])
noncomputable def o1642 (P : Params) : Obj := (fo "builtin_function_or_method" [(Value.builtin "object.__init_subclass__"), (vr 1638)])
noncomputable def o1643 (P : Params) : Obj := (di [(de P "width" 21369 (vi 32 20319)), (de P "family_name" 21371 (vs "IPv4" 20323)), (de P "version" 21373 (vi 4 20325)), (de P "max_int" 21375 (vi 4294967295 20330)), (de P "prefix_to_netmask" 21377 (vr 1426)), (de P "netmask_to_prefix" 21379 (vr 1471)), (de P "hostmask_to_prefix" 21381 (vr 1516))] 7)
noncomputable def o1644 (P : Params) : Obj := (Obj.mk (vr 1638) (some 1643) Data.plain #[])
noncomputable def o1645 (P : Params) : Obj := (Obj.mk (Value.type "frame") none (Data.dict (List.toArray [(de P "self" 21367 (vr 1644))]) 1) #[])
noncomputable def o1646 (P : Params) : Obj := (fo "range" [(vi 0 21402), (vi 129 21404), (vi 1 21405)])
noncomputable def o1647 (P : Params) : Obj := (fo "range_iterator" [(vi 129 0), (vi 0 0), (vi 1 0)])
noncomputable def o1648 (P : Params) : Obj := (Obj.mk (Value.type "list") none (Data.seq (List.toArray [(vr 1650), (vr 1651), (vr 1652), (vr 1653), (vr 1654), (vr 1655), (vr 1656), (vr 1657), (vr 1658), (vr 1659), (vr 1660), (vr 1661), (vr 1662), (vr 1663), (vr 1664), (vr 1665), (vr 1666), (vr 1667), (vr 1668), (vr 1669), (vr 1670), (vr 1671), (vr 1672), (vr 1673), (vr 1674), (vr 1675), (vr 1676), (vr 1677), (vr 1678), (vr 1679), (vr 1680), (vr 1681), (vr 1682), (vr 1683), (vr 1684), (vr 1685), (vr 1686), (vr 1687), (vr 1688), (vr 1689), (vr 1690), (vr 1691), (vr 1692), (vr 1693), (vr 1694), (vr 1695), (vr 1696), (vr 1697), (vr 1698), (vr 1699), (vr 1700), (vr 1701), (vr 1702), (vr 1703), (vr 1704), (vr 1705), (vr 1706), (vr 1707), (vr 1708), (vr 1709), (vr 1710), (vr 1711), (vr 1712), (vr 1713), (vr 1714), (vr 1715), (vr 1716), (vr 1717), (vr 1718), (vr 1719), (vr 1720), (vr 1721), (vr 1722), (vr 1723), (vr 1724), (vr 1725), (vr 1726), (vr 1727), (vr 1728), (vr 1729), (vr 1730), (vr 1731), (vr 1732), (vr 1733), (vr 1734), (vr 1735), (vr 1736), (vr 1737), (vr 1738), (vr 1739), (vr 1740), (vr 1741), (vr 1742), (vr 1743), (vr 1744), (vr 1745), (vr 1746), (vr 1747), (vr 1748), (vr 1749), (vr 1750), (vr 1751), (vr 1752), (vr 1753), (vr 1754), (vr 1755), (vr 1756), (vr 1757), (vr 1758), (vr 1759), (vr 1760), (vr 1761), (vr 1762), (vr 1763), (vr 1764), (vr 1765), (vr 1766), (vr 1767), (vr 1768), (vr 1769), (vr 1770), (vr 1771), (vr 1772), (vr 1773), (vr 1774), (vr 1775), (vr 1776), (vr 1777), (vr 1778)]) 129) #[])
noncomputable def o1649 (P : Params) : Obj := (di [] 2)
noncomputable def o1650 (P : Params) : Obj := (tu [(vi 0 21406), (vi 0 21413)])
noncomputable def o1651 (P : Params) : Obj := (tu [(vi 1 21414), (vi 170141183460469231731687303715884105728 21421)])
noncomputable def o1652 (P : Params) : Obj := (tu [(vi 2 21422), (vi 255211775190703847597530955573826158592 21429)])
noncomputable def o1653 (P : Params) : Obj := (tu [(vi 3 21430), (vi 297747071055821155530452781502797185024 21437)])
noncomputable def o1654 (P : Params) : Obj := (tu [(vi 4 21438), (vi 319014718988379809496913694467282698240 21445)])
noncomputable def o1655 (P : Params) : Obj := (tu [(vi 5 21446), (vi 329648542954659136480144150949525454848 21453)])
noncomputable def o1656 (P : Params) : Obj := (tu [(vi 6 21454), (vi 334965454937798799971759379190646833152 21461)])
noncomputable def o1657 (P : Params) : Obj := (tu [(vi 7 21462), (vi 337623910929368631717566993311207522304 21469)])
noncomputable def o1658 (P : Params) : Obj := (tu [(vi 8 21470), (vi 338953138925153547590470800371487866880 21477)])
noncomputable def o1659 (P : Params) : Obj := (tu [(vi 9 21478), (vi 339617752923046005526922703901628039168 21485)])
noncomputable def o1660 (P : Params) : Obj := (tu [(vi 10 21486), (vi 339950059921992234495148655666698125312 21493)])
noncomputable def o1661 (P : Params) : Obj := (tu [(vi 11 21494), (vi 340116213421465348979261631549233168384 21501)])
noncomputable def o1662 (P : Params) : Obj := (tu [(vi 12 21502), (vi 340199290171201906221318119490500689920 21509)])
noncomputable def o1663 (P : Params) : Obj := (tu [(vi 13 21510), (vi 340240828546070184842346363461134450688 21517)])
noncomputable def o1664 (P : Params) : Obj := (tu [(vi 14 21518), (vi 340261597733504324152860485446451331072 21525)])
noncomputable def o1665 (P : Params) : Obj := (tu [(vi 15 21526), (vi 340271982327221393808117546439109771264 21533)])
noncomputable def o1666 (P : Params) : Obj := (tu [(vi 16 21534), (vi 340277174624079928635746076935438991360 21541)])
noncomputable def o1667 (P : Params) : Obj := (tu [(vi 17 21542), (vi 340279770772509196049560342183603601408 21549)])
noncomputable def o1668 (P : Params) : Obj := (tu [(vi 18 21550), (vi 340281068846723829756467474807685906432 21557)])
noncomputable def o1669 (P : Params) : Obj := (tu [(vi 19 21558), (vi 340281717883831146609921041119727058944 21565)])
noncomputable def o1670 (P : Params) : Obj := (tu [(vi 20 21566), (vi 340282042402384805036647824275747635200 21573)])
noncomputable def o1671 (P : Params) : Obj := (tu [(vi 21 21574), (vi 340282204661661634250011215853757923328 21581)])
noncomputable def o1672 (P : Params) : Obj := (tu [(vi 22 21582), (vi 340282285791300048856692911642763067392 21589)])
noncomputable def o1673 (P : Params) : Obj := (tu [(vi 23 21590), (vi 340282326356119256160033759537265639424 21597)])
noncomputable def o1674 (P : Params) : Obj := (tu [(vi 24 21598), (vi 340282346638528859811704183484516925440 21605)])
noncomputable def o1675 (P : Params) : Obj := (tu [(vi 25 21606), (vi 340282356779733661637539395458142568448 21613)])
noncomputable def o1676 (P : Params) : Obj := (tu [(vi 26 21614), (vi 340282361850336062550457001444955389952 21621)])
noncomputable def o1677 (P : Params) : Obj := (tu [(vi 27 21622), (vi 340282364385637263006915804438361800704 21629)])
noncomputable def o1678 (P : Params) : Obj := (tu [(vi 28 21630), (vi 340282365653287863235145205935065006080 21637)])
noncomputable def o1679 (P : Params) : Obj := (tu [(vi 29 21638), (vi 340282366287113163349259906683416608768 21645)])
noncomputable def o1680 (P : Params) : Obj := (tu [(vi 30 21646), (vi 340282366604025813406317257057592410112 21653)])
noncomputable def o1681 (P : Params) : Obj := (tu [(vi 31 21654), (vi 340282366762482138434845932244680310784 21661)])
noncomputable def o1682 (P : Params) : Obj := (tu [(vi 32 21662), (vi 340282366841710300949110269838224261120 21669)])
noncomputable def o1683 (P : Params) : Obj := (tu [(vi 33 21670), (vi 340282366881324382206242438634996236288 21677)])
noncomputable def o1684 (P : Params) : Obj := (tu [(vi 34 21678), (vi 340282366901131422834808523033382223872 21685)])
noncomputable def o1685 (P : Params) : Obj := (tu [(vi 35 21686), (vi 340282366911034943149091565232575217664 21693)])
noncomputable def o1686 (P : Params) : Obj := (tu [(vi 36 21694), (vi 340282366915986703306233086332171714560 21701)])
noncomputable def o1687 (P : Params) : Obj := (tu [(vi 37 21702), (vi 340282366918462583384803846881969963008 21709)])
noncomputable def o1688 (P : Params) : Obj := (tu [(vi 38 21710), (vi 340282366919700523424089227156869087232 21717)])
noncomputable def o1689 (P : Params) : Obj := (tu [(vi 39 21718), (vi 340282366920319493443731917294318649344 21725)])
noncomputable def o1690 (P : Params) : Obj := (tu [(vi 40 21726), (vi 340282366920628978453553262363043430400 21733)])
noncomputable def o1691 (P : Params) : Obj := (tu [(vi 41 21734), (vi 340282366920783720958463934897405820928 21741)])
noncomputable def o1692 (P : Params) : Obj := (tu [(vi 42 21742), (vi 340282366920861092210919271164587016192 21749)])
noncomputable def o1693 (P : Params) : Obj := (tu [(vi 43 21750), (vi 340282366920899777837146939298177613824 21757)])
noncomputable def o1694 (P : Params) : Obj := (tu [(vi 44 21758), (vi 340282366920919120650260773364972912640 21765)])
noncomputable def o1695 (P : Params) : Obj := (tu [(vi 45 21766), (vi 340282366920928792056817690398370562048 21773)])
noncomputable def o1696 (P : Params) : Obj := (tu [(vi 46 21774), (vi 340282366920933627760096148915069386752 21781)])
noncomputable def o1697 (P : Params) : Obj := (tu [(vi 47 21782), (vi 340282366920936045611735378173418799104 21789)])
noncomputable def o1698 (P : Params) : Obj := (tu [(vi 48 21790), (vi 340282366920937254537554992802593505280 21797)])
noncomputable def o1699 (P : Params) : Obj := (tu [(vi 49 21798), (vi 340282366920937859000464800117180858368 21805)])
noncomputable def o1700 (P : Params) : Obj := (tu [(vi 50 21806), (vi 340282366920938161231919703774474534912 21813)])
noncomputable def o1701 (P : Params) : Obj := (tu [(vi 51 21814), (vi 340282366920938312347647155603121373184 21821)])
noncomputable def o1702 (P : Params) : Obj := (tu [(vi 52 21822), (vi 340282366920938387905510881517444792320 21829)])
noncomputable def o1703 (P : Params) : Obj := (tu [(vi 53 21830), (vi 340282366920938425684442744474606501888 21837)])
noncomputable def o1704 (P : Params) : Obj := (tu [(vi 54 21838), (vi 340282366920938444573908675953187356672 21845)])
noncomputable def o1705 (P : Params) : Obj := (tu [(vi 55 21846), (vi 340282366920938454018641641692477784064 21853)])
noncomputable def o1706 (P : Params) : Obj := (tu [(vi 56 21854), (vi 340282366920938458741008124562122997760 21861)])
noncomputable def o1707 (P : Params) : Obj := (tu [(vi 57 21862), (vi 340282366920938461102191365996945604608 21869)])
noncomputable def o1708 (P : Params) : Obj := (tu [(vi 58 21870), (vi 340282366920938462282782986714356908032 21877)])
noncomputable def o1709 (P : Params) : Obj := (tu [(vi 59 21878), (vi 340282366920938462873078797073062559744 21885)])
noncomputable def o1710 (P : Params) : Obj := (tu [(vi 60 21886), (vi 340282366920938463168226702252415385600 21893)])
noncomputable def o1711 (P : Params) : Obj := (tu [(vi 61 21894), (vi 340282366920938463315800654842091798528 21901)])
noncomputable def o1712 (P : Params) : Obj := (tu [(vi 62 21902), (vi 340282366920938463389587631136930004992 21909)])
noncomputable def o1713 (P : Params) : Obj := (tu [(vi 63 21910), (vi 340282366920938463426481119284349108224 21917)])
noncomputable def o1714 (P : Params) : Obj := (tu [(vi 64 21918), (vi 340282366920938463444927863358058659840 21925)])
noncomputable def o1715 (P : Params) : Obj := (tu [(vi 65 21926), (vi 340282366920938463454151235394913435648 21933)])
noncomputable def o1716 (P : Params) : Obj := (tu [(vi 66 21934), (vi 340282366920938463458762921413340823552 21941)])
noncomputable def o1717 (P : Params) : Obj := (tu [(vi 67 21942), (vi 340282366920938463461068764422554517504 21949)])
noncomputable def o1718 (P : Params) : Obj := (tu [(vi 68 21950), (vi 340282366920938463462221685927161364480 21957)])
noncomputable def o1719 (P : Params) : Obj := (tu [(vi 69 21958), (vi 340282366920938463462798146679464787968 21965)])
noncomputable def o1720 (P : Params) : Obj := (tu [(vi 70 21966), (vi 340282366920938463463086377055616499712 21973)])
noncomputable def o1721 (P : Params) : Obj := (tu [(vi 71 21974), (vi 340282366920938463463230492243692355584 21981)])
noncomputable def o1722 (P : Params) : Obj := (tu [(vi 72 21982), (vi 340282366920938463463302549837730283520 21989)])
noncomputable def o1723 (P : Params) : Obj := (tu [(vi 73 21990), (vi 340282366920938463463338578634749247488 21997)])
noncomputable def o1724 (P : Params) : Obj := (tu [(vi 74 21998), (vi 340282366920938463463356593033258729472 22005)])
noncomputable def o1725 (P : Params) : Obj := (tu [(vi 75 22006), (vi 340282366920938463463365600232513470464 22013)])
noncomputable def o1726 (P : Params) : Obj := (tu [(vi 76 22014), (vi 340282366920938463463370103832140840960 22021)])
noncomputable def o1727 (P : Params) : Obj := (tu [(vi 77 22022), (vi 340282366920938463463372355631954526208 22029)])
noncomputable def o1728 (P : Params) : Obj := (tu [(vi 78 22030), (vi 340282366920938463463373481531861368832 22037)])
noncomputable def o1729 (P : Params) : Obj := (tu [(vi 79 22038), (vi 340282366920938463463374044481814790144 22045)])
noncomputable def o1730 (P : Params) : Obj := (tu [(vi 80 22046), (vi 340282366920938463463374325956791500800 22053)])
noncomputable def o1731 (P : Params) : Obj := (tu [(vi 81 22054), (vi 340282366920938463463374466694279856128 22061)])
noncomputable def o1732 (P : Params) : Obj := (tu [(vi 82 22062), (vi 340282366920938463463374537063024033792 22069)])
noncomputable def o1733 (P : Params) : Obj := (tu [(vi 83 22070), (vi 340282366920938463463374572247396122624 22077)])
noncomputable def o1734 (P : Params) : Obj := (tu [(vi 84 22078), (vi 340282366920938463463374589839582167040 22085)])
noncomputable def o1735 (P : Params) : Obj := (tu [(vi 85 22086), (vi 340282366920938463463374598635675189248 22093)])
noncomputable def o1736 (P : Params) : Obj := (tu [(vi 86 22094), (vi 340282366920938463463374603033721700352 22101)])
noncomputable def o1737 (P : Params) : Obj := (tu [(vi 87 22102), (vi 340282366920938463463374605232744955904 22109)])
noncomputable def o1738 (P : Params) : Obj := (tu [(vi 88 22110), (vi 340282366920938463463374606332256583680 22117)])
noncomputable def o1739 (P : Params) : Obj := (tu [(vi 89 22118), (vi 340282366920938463463374606882012397568 22125)])
noncomputable def o1740 (P : Params) : Obj := (tu [(vi 90 22126), (vi 340282366920938463463374607156890304512 22133)])
noncomputable def o1741 (P : Params) : Obj := (tu [(vi 91 22134), (vi 340282366920938463463374607294329257984 22141)])
noncomputable def o1742 (P : Params) : Obj := (tu [(vi 92 22142), (vi 340282366920938463463374607363048734720 22149)])
noncomputable def o1743 (P : Params) : Obj := (tu [(vi 93 22150), (vi 340282366920938463463374607397408473088 22157)])
noncomputable def o1744 (P : Params) : Obj := (tu [(vi 94 22158), (vi 340282366920938463463374607414588342272 22165)])
noncomputable def o1745 (P : Params) : Obj := (tu [(vi 95 22166), (vi 340282366920938463463374607423178276864 22173)])
noncomputable def o1746 (P : Params) : Obj := (tu [(vi 96 22174), (vi 340282366920938463463374607427473244160 22181)])
noncomputable def o1747 (P : Params) : Obj := (tu [(vi 97 22182), (vi 340282366920938463463374607429620727808 22189)])
noncomputable def o1748 (P : Params) : Obj := (tu [(vi 98 22190), (vi 340282366920938463463374607430694469632 22197)])
noncomputable def o1749 (P : Params) : Obj := (tu [(vi 99 22198), (vi 340282366920938463463374607431231340544 22205)])
noncomputable def o1750 (P : Params) : Obj := (tu [(vi 100 22206), (vi 340282366920938463463374607431499776000 22213)])
noncomputable def o1751 (P : Params) : Obj := (tu [(vi 101 22214), (vi 340282366920938463463374607431633993728 22221)])
noncomputable def o1752 (P : Params) : Obj := (tu [(vi 102 22222), (vi 340282366920938463463374607431701102592 22229)])
noncomputable def o1753 (P : Params) : Obj := (tu [(vi 103 22230), (vi 340282366920938463463374607431734657024 22237)])
noncomputable def o1754 (P : Params) : Obj := (tu [(vi 104 22238), (vi 340282366920938463463374607431751434240 22245)])
noncomputable def o1755 (P : Params) : Obj := (tu [(vi 105 22246), (vi 340282366920938463463374607431759822848 22253)])
noncomputable def o1756 (P : Params) : Obj := (tu [(vi 106 22254), (vi 340282366920938463463374607431764017152 22261)])
noncomputable def o1757 (P : Params) : Obj := (tu [(vi 107 22262), (vi 340282366920938463463374607431766114304 22269)])
noncomputable def o1758 (P : Params) : Obj := (tu [(vi 108 22270), (vi 340282366920938463463374607431767162880 22277)])
noncomputable def o1759 (P : Params) : Obj := (tu [(vi 109 22278), (vi 340282366920938463463374607431767687168 22285)])
noncomputable def o1760 (P : Params) : Obj := (tu [(vi 110 22286), (vi 340282366920938463463374607431767949312 22293)])
noncomputable def o1761 (P : Params) : Obj := (tu [(vi 111 22294), (vi 340282366920938463463374607431768080384 22301)])
noncomputable def o1762 (P : Params) : Obj := (tu [(vi 112 22302), (vi 340282366920938463463374607431768145920 22309)])
noncomputable def o1763 (P : Params) : Obj := (tu [(vi 113 22310), (vi 340282366920938463463374607431768178688 22317)])
noncomputable def o1764 (P : Params) : Obj := (tu [(vi 114 22318), (vi 340282366920938463463374607431768195072 22325)])
noncomputable def o1765 (P : Params) : Obj := (tu [(vi 115 22326), (vi 340282366920938463463374607431768203264 22333)])
noncomputable def o1766 (P : Params) : Obj := (tu [(vi 116 22334), (vi 340282366920938463463374607431768207360 22341)])
noncomputable def o1767 (P : Params) : Obj := (tu [(vi 117 22342), (vi 340282366920938463463374607431768209408 22349)])
noncomputable def o1768 (P : Params) : Obj := (tu [(vi 118 22350), (vi 340282366920938463463374607431768210432 22357)])
noncomputable def o1769 (P : Params) : Obj := (tu [(vi 119 22358), (vi 340282366920938463463374607431768210944 22365)])
noncomputable def o1770 (P : Params) : Obj := (tu [(vi 120 22366), (vi 340282366920938463463374607431768211200 22373)])
noncomputable def o1771 (P : Params) : Obj := (tu [(vi 121 22374), (vi 340282366920938463463374607431768211328 22381)])
noncomputable def o1772 (P : Params) : Obj := (tu [(vi 122 22382), (vi 340282366920938463463374607431768211392 22389)])
noncomputable def o1773 (P : Params) : Obj := (tu [(vi 123 22390), (vi 340282366920938463463374607431768211424 22397)])
noncomputable def o1774 (P : Params) : Obj := (tu [(vi 124 22398), (vi 340282366920938463463374607431768211440 22405)])
noncomputable def o1775 (P : Params) : Obj := (tu [(vi 125 22406), (vi 340282366920938463463374607431768211448 22413)])
noncomputable def o1776 (P : Params) : Obj := (tu [(vi 126 22414), (vi 340282366920938463463374607431768211452 22421)])
noncomputable def o1777 (P : Params) : Obj := (tu [(vi 127 22422), (vi 340282366920938463463374607431768211454 22429)])
noncomputable def o1778 (P : Params) : Obj := (tu [(vi 128 22430), (vi 340282366920938463463374607431768211455 22437)])
noncomputable def o1779 (P : Params) : Obj := (tu [])
noncomputable def o1780 (P : Params) : Obj := (fo "StopIteration" [(vr 1779), Value.none, Value.none, Value.none, (Value.bool false), Value.none])
noncomputable def o1781 (P : Params) : Obj := (di [(DictEntry.mk 0 (vi 0 21406) (vi 0 21413)), (DictEntry.mk 1 (vi 1 21414) (vi 170141183460469231731687303715884105728 21421)), (DictEntry.mk 2 (vi 2 21422) (vi 255211775190703847597530955573826158592 21429)), (DictEntry.mk 3 (vi 3 21430) (vi 297747071055821155530452781502797185024 21437)), (DictEntry.mk 4 (vi 4 21438) (vi 319014718988379809496913694467282698240 21445)), (DictEntry.mk 5 (vi 5 21446) (vi 329648542954659136480144150949525454848 21453)), (DictEntry.mk 6 (vi 6 21454) (vi 334965454937798799971759379190646833152 21461)), (DictEntry.mk 7 (vi 7 21462) (vi 337623910929368631717566993311207522304 21469)), (DictEntry.mk 8 (vi 8 21470) (vi 338953138925153547590470800371487866880 21477)), (DictEntry.mk 9 (vi 9 21478) (vi 339617752923046005526922703901628039168 21485)), (DictEntry.mk 10 (vi 10 21486) (vi 339950059921992234495148655666698125312 21493)), (DictEntry.mk 11 (vi 11 21494) (vi 340116213421465348979261631549233168384 21501)), (DictEntry.mk 12 (vi 12 21502) (vi 340199290171201906221318119490500689920 21509)), (DictEntry.mk 13 (vi 13 21510) (vi 340240828546070184842346363461134450688 21517)), (DictEntry.mk 14 (vi 14 21518) (vi 340261597733504324152860485446451331072 21525)), (DictEntry.mk 15 (vi 15 21526) (vi 340271982327221393808117546439109771264 21533)), (DictEntry.mk 16 (vi 16 21534) (vi 340277174624079928635746076935438991360 21541)), (DictEntry.mk 17 (vi 17 21542) (vi 340279770772509196049560342183603601408 21549)), (DictEntry.mk 18 (vi 18 21550) (vi 340281068846723829756467474807685906432 21557)), (DictEntry.mk 19 (vi 19 21558) (vi 340281717883831146609921041119727058944 21565)), (DictEntry.mk 20 (vi 20 21566) (vi 340282042402384805036647824275747635200 21573)), (DictEntry.mk 21 (vi 21 21574) (vi 340282204661661634250011215853757923328 21581)), (DictEntry.mk 22 (vi 22 21582) (vi 340282285791300048856692911642763067392 21589)), (DictEntry.mk 23 (vi 23 21590) (vi 340282326356119256160033759537265639424 21597)), (DictEntry.mk 24 (vi 24 21598) (vi 340282346638528859811704183484516925440 21605)), (DictEntry.mk 25 (vi 25 21606) (vi 340282356779733661637539395458142568448 21613)), (DictEntry.mk 26 (vi 26 21614) (vi 340282361850336062550457001444955389952 21621)), (DictEntry.mk 27 (vi 27 21622) (vi 340282364385637263006915804438361800704 21629)), (DictEntry.mk 28 (vi 28 21630) (vi 340282365653287863235145205935065006080 21637)), (DictEntry.mk 29 (vi 29 21638) (vi 340282366287113163349259906683416608768 21645)), (DictEntry.mk 30 (vi 30 21646) (vi 340282366604025813406317257057592410112 21653)), (DictEntry.mk 31 (vi 31 21654) (vi 340282366762482138434845932244680310784 21661)), (DictEntry.mk 32 (vi 32 21662) (vi 340282366841710300949110269838224261120 21669)), (DictEntry.mk 33 (vi 33 21670) (vi 340282366881324382206242438634996236288 21677)), (DictEntry.mk 34 (vi 34 21678) (vi 340282366901131422834808523033382223872 21685)), (DictEntry.mk 35 (vi 35 21686) (vi 340282366911034943149091565232575217664 21693)), (DictEntry.mk 36 (vi 36 21694) (vi 340282366915986703306233086332171714560 21701)), (DictEntry.mk 37 (vi 37 21702) (vi 340282366918462583384803846881969963008 21709)), (DictEntry.mk 38 (vi 38 21710) (vi 340282366919700523424089227156869087232 21717)), (DictEntry.mk 39 (vi 39 21718) (vi 340282366920319493443731917294318649344 21725)), (DictEntry.mk 40 (vi 40 21726) (vi 340282366920628978453553262363043430400 21733)), (DictEntry.mk 41 (vi 41 21734) (vi 340282366920783720958463934897405820928 21741)), (DictEntry.mk 42 (vi 42 21742) (vi 340282366920861092210919271164587016192 21749)), (DictEntry.mk 43 (vi 43 21750) (vi 340282366920899777837146939298177613824 21757)), (DictEntry.mk 44 (vi 44 21758) (vi 340282366920919120650260773364972912640 21765)), (DictEntry.mk 45 (vi 45 21766) (vi 340282366920928792056817690398370562048 21773)), (DictEntry.mk 46 (vi 46 21774) (vi 340282366920933627760096148915069386752 21781)), (DictEntry.mk 47 (vi 47 21782) (vi 340282366920936045611735378173418799104 21789)), (DictEntry.mk 48 (vi 48 21790) (vi 340282366920937254537554992802593505280 21797)), (DictEntry.mk 49 (vi 49 21798) (vi 340282366920937859000464800117180858368 21805)), (DictEntry.mk 50 (vi 50 21806) (vi 340282366920938161231919703774474534912 21813)), (DictEntry.mk 51 (vi 51 21814) (vi 340282366920938312347647155603121373184 21821)), (DictEntry.mk 52 (vi 52 21822) (vi 340282366920938387905510881517444792320 21829)), (DictEntry.mk 53 (vi 53 21830) (vi 340282366920938425684442744474606501888 21837)), (DictEntry.mk 54 (vi 54 21838) (vi 340282366920938444573908675953187356672 21845)), (DictEntry.mk 55 (vi 55 21846) (vi 340282366920938454018641641692477784064 21853)), (DictEntry.mk 56 (vi 56 21854) (vi 340282366920938458741008124562122997760 21861)), (DictEntry.mk 57 (vi 57 21862) (vi 340282366920938461102191365996945604608 21869)), (DictEntry.mk 58 (vi 58 21870) (vi 340282366920938462282782986714356908032 21877)), (DictEntry.mk 59 (vi 59 21878) (vi 340282366920938462873078797073062559744 21885)), (DictEntry.mk 60 (vi 60 21886) (vi 340282366920938463168226702252415385600 21893)), (DictEntry.mk 61 (vi 61 21894) (vi 340282366920938463315800654842091798528 21901)), (DictEntry.mk 62 (vi 62 21902) (vi 340282366920938463389587631136930004992 21909)), (DictEntry.mk 63 (vi 63 21910) (vi 340282366920938463426481119284349108224 21917)), (DictEntry.mk 64 (vi 64 21918) (vi 340282366920938463444927863358058659840 21925)), (DictEntry.mk 65 (vi 65 21926) (vi 340282366920938463454151235394913435648 21933)), (DictEntry.mk 66 (vi 66 21934) (vi 340282366920938463458762921413340823552 21941)), (DictEntry.mk 67 (vi 67 21942) (vi 340282366920938463461068764422554517504 21949)), (DictEntry.mk 68 (vi 68 21950) (vi 340282366920938463462221685927161364480 21957)), (DictEntry.mk 69 (vi 69 21958) (vi 340282366920938463462798146679464787968 21965)), (DictEntry.mk 70 (vi 70 21966) (vi 340282366920938463463086377055616499712 21973)), (DictEntry.mk 71 (vi 71 21974) (vi 340282366920938463463230492243692355584 21981)), (DictEntry.mk 72 (vi 72 21982) (vi 340282366920938463463302549837730283520 21989)), (DictEntry.mk 73 (vi 73 21990) (vi 340282366920938463463338578634749247488 21997)), (DictEntry.mk 74 (vi 74 21998) (vi 340282366920938463463356593033258729472 22005)), (DictEntry.mk 75 (vi 75 22006) (vi 340282366920938463463365600232513470464 22013)), (DictEntry.mk 76 (vi 76 22014) (vi 340282366920938463463370103832140840960 22021)), (DictEntry.mk 77 (vi 77 22022) (vi 340282366920938463463372355631954526208 22029)), (DictEntry.mk 78 (vi 78 22030) (vi 340282366920938463463373481531861368832 22037)), (DictEntry.mk 79 (vi 79 22038) (vi 340282366920938463463374044481814790144 22045)), (DictEntry.mk 80 (vi 80 22046) (vi 340282366920938463463374325956791500800 22053)), (DictEntry.mk 81 (vi 81 22054) (vi 340282366920938463463374466694279856128 22061)), (DictEntry.mk 82 (vi 82 22062) (vi 340282366920938463463374537063024033792 22069)), (DictEntry.mk 83 (vi 83 22070) (vi 340282366920938463463374572247396122624 22077)), (DictEntry.mk 84 (vi 84 22078) (vi 340282366920938463463374589839582167040 22085)), (DictEntry.mk 85 (vi 85 22086) (vi 340282366920938463463374598635675189248 22093)), (DictEntry.mk 86 (vi 86 22094) (vi 340282366920938463463374603033721700352 22101)), (DictEntry.mk 87 (vi 87 22102) (vi 340282366920938463463374605232744955904 22109)), (DictEntry.mk 88 (vi 88 22110) (vi 340282366920938463463374606332256583680 22117)), (DictEntry.mk 89 (vi 89 22118) (vi 340282366920938463463374606882012397568 22125)), (DictEntry.mk 90 (vi 90 22126) (vi 340282366920938463463374607156890304512 22133)), (DictEntry.mk 91 (vi 91 22134) (vi 340282366920938463463374607294329257984 22141)), (DictEntry.mk 92 (vi 92 22142) (vi 340282366920938463463374607363048734720 22149)), (DictEntry.mk 93 (vi 93 22150) (vi 340282366920938463463374607397408473088 22157)), (DictEntry.mk 94 (vi 94 22158) (vi 340282366920938463463374607414588342272 22165)), (DictEntry.mk 95 (vi 95 22166) (vi 340282366920938463463374607423178276864 22173)), (DictEntry.mk 96 (vi 96 22174) (vi 340282366920938463463374607427473244160 22181)), (DictEntry.mk 97 (vi 97 22182) (vi 340282366920938463463374607429620727808 22189)), (DictEntry.mk 98 (vi 98 22190) (vi 340282366920938463463374607430694469632 22197)), (DictEntry.mk 99 (vi 99 22198) (vi 340282366920938463463374607431231340544 22205)), (DictEntry.mk 100 (vi 100 22206) (vi 340282366920938463463374607431499776000 22213)), (DictEntry.mk 101 (vi 101 22214) (vi 340282366920938463463374607431633993728 22221)), (DictEntry.mk 102 (vi 102 22222) (vi 340282366920938463463374607431701102592 22229)), (DictEntry.mk 103 (vi 103 22230) (vi 340282366920938463463374607431734657024 22237)), (DictEntry.mk 104 (vi 104 22238) (vi 340282366920938463463374607431751434240 22245)), (DictEntry.mk 105 (vi 105 22246) (vi 340282366920938463463374607431759822848 22253)), (DictEntry.mk 106 (vi 106 22254) (vi 340282366920938463463374607431764017152 22261)), (DictEntry.mk 107 (vi 107 22262) (vi 340282366920938463463374607431766114304 22269)), (DictEntry.mk 108 (vi 108 22270) (vi 340282366920938463463374607431767162880 22277)), (DictEntry.mk 109 (vi 109 22278) (vi 340282366920938463463374607431767687168 22285)), (DictEntry.mk 110 (vi 110 22286) (vi 340282366920938463463374607431767949312 22293)), (DictEntry.mk 111 (vi 111 22294) (vi 340282366920938463463374607431768080384 22301)), (DictEntry.mk 112 (vi 112 22302) (vi 340282366920938463463374607431768145920 22309)), (DictEntry.mk 113 (vi 113 22310) (vi 340282366920938463463374607431768178688 22317)), (DictEntry.mk 114 (vi 114 22318) (vi 340282366920938463463374607431768195072 22325)), (DictEntry.mk 115 (vi 115 22326) (vi 340282366920938463463374607431768203264 22333)), (DictEntry.mk 116 (vi 116 22334) (vi 340282366920938463463374607431768207360 22341)), (DictEntry.mk 117 (vi 117 22342) (vi 340282366920938463463374607431768209408 22349)), (DictEntry.mk 118 (vi 118 22350) (vi 340282366920938463463374607431768210432 22357)), (DictEntry.mk 119 (vi 119 22358) (vi 340282366920938463463374607431768210944 22365)), (DictEntry.mk 120 (vi 120 22366) (vi 340282366920938463463374607431768211200 22373)), (DictEntry.mk 121 (vi 121 22374) (vi 340282366920938463463374607431768211328 22381)), (DictEntry.mk 122 (vi 122 22382) (vi 340282366920938463463374607431768211392 22389)), (DictEntry.mk 123 (vi 123 22390) (vi 340282366920938463463374607431768211424 22397)), (DictEntry.mk 124 (vi 124 22398) (vi 340282366920938463463374607431768211440 22405)), (DictEntry.mk 125 (vi 125 22406) (vi 340282366920938463463374607431768211448 22413)), (DictEntry.mk 126 (vi 126 22414) (vi 340282366920938463463374607431768211452 22421)), (DictEntry.mk 127 (vi 127 22422) (vi 340282366920938463463374607431768211454 22429)), (DictEntry.mk 128 (vi 128 22430) (vi 340282366920938463463374607431768211455 22437))] 129)
noncomputable def o1782 (P : Params) : Obj := (tu [(vs "'list' object has no attribute 'keys'" 22439)])
noncomputable def o1783 (P : Params) : Obj := (fo "AttributeError" [(vr 1782), Value.none, Value.none, Value.none, (Value.bool false), Value.none, (vs "keys" 22440), (vr 1648)])
noncomputable def o1784 (P : Params) : Obj := (fo "list_iterator" [Value.none, (vi 129 0)])
noncomputable def o1785 (P : Params) : Obj := (tu [])
noncomputable def o1786 (P : Params) : Obj := (fo "StopIteration" [(vr 1785), Value.none, Value.none, Value.none, (Value.bool false), Value.none])
noncomputable def o1787 (P : Params) : Obj := (fo "range" [(vi 0 22571), (vi 129 22573), (vi 1 22574)])
noncomputable def o1788 (P : Params) : Obj := (fo "range_iterator" [(vi 129 0), (vi 0 0), (vi 1 0)])
noncomputable def o1789 (P : Params) : Obj := (Obj.mk (Value.type "list") none (Data.seq (List.toArray [(vr 1791), (vr 1792), (vr 1793), (vr 1794), (vr 1795), (vr 1796), (vr 1797), (vr 1798), (vr 1799), (vr 1800), (vr 1801), (vr 1802), (vr 1803), (vr 1804), (vr 1805), (vr 1806), (vr 1807), (vr 1808), (vr 1809), (vr 1810), (vr 1811), (vr 1812), (vr 1813), (vr 1814), (vr 1815), (vr 1816), (vr 1817), (vr 1818), (vr 1819), (vr 1820), (vr 1821), (vr 1822), (vr 1823), (vr 1824), (vr 1825), (vr 1826), (vr 1827), (vr 1828), (vr 1829), (vr 1830), (vr 1831), (vr 1832), (vr 1833), (vr 1834), (vr 1835), (vr 1836), (vr 1837), (vr 1838), (vr 1839), (vr 1840), (vr 1841), (vr 1842), (vr 1843), (vr 1844), (vr 1845), (vr 1846), (vr 1847), (vr 1848), (vr 1849), (vr 1850), (vr 1851), (vr 1852), (vr 1853), (vr 1854), (vr 1855), (vr 1856), (vr 1857), (vr 1858), (vr 1859), (vr 1860), (vr 1861), (vr 1862), (vr 1863), (vr 1864), (vr 1865), (vr 1866), (vr 1867), (vr 1868), (vr 1869), (vr 1870), (vr 1871), (vr 1872), (vr 1873), (vr 1874), (vr 1875), (vr 1876), (vr 1877), (vr 1878), (vr 1879), (vr 1880), (vr 1881), (vr 1882), (vr 1883), (vr 1884), (vr 1885), (vr 1886), (vr 1887), (vr 1888), (vr 1889), (vr 1890), (vr 1891), (vr 1892), (vr 1893), (vr 1894), (vr 1895), (vr 1896), (vr 1897), (vr 1898), (vr 1899), (vr 1900), (vr 1901), (vr 1902), (vr 1903), (vr 1904), (vr 1905), (vr 1906), (vr 1907), (vr 1908), (vr 1909), (vr 1910), (vr 1911), (vr 1912), (vr 1913), (vr 1914), (vr 1915), (vr 1916), (vr 1917), (vr 1918), (vr 1919)]) 129) #[])
noncomputable def o1790 (P : Params) : Obj := (di [] 2)
noncomputable def o1791 (P : Params) : Obj := (tu [(vi 0 22582), (vi 0 22575)])
noncomputable def o1792 (P : Params) : Obj := (tu [(vi 170141183460469231731687303715884105728 22590), (vi 1 22583)])
noncomputable def o1793 (P : Params) : Obj := (tu [(vi 255211775190703847597530955573826158592 22598), (vi 2 22591)])
noncomputable def o1794 (P : Params) : Obj := (tu [(vi 297747071055821155530452781502797185024 22606), (vi 3 22599)])
noncomputable def o1795 (P : Params) : Obj := (tu [(vi 319014718988379809496913694467282698240 22614), (vi 4 22607)])
noncomputable def o1796 (P : Params) : Obj := (tu [(vi 329648542954659136480144150949525454848 22622), (vi 5 22615)])
noncomputable def o1797 (P : Params) : Obj := (tu [(vi 334965454937798799971759379190646833152 22630), (vi 6 22623)])
noncomputable def o1798 (P : Params) : Obj := (tu [(vi 337623910929368631717566993311207522304 22638), (vi 7 22631)])
noncomputable def o1799 (P : Params) : Obj := (tu [(vi 338953138925153547590470800371487866880 22646), (vi 8 22639)])
noncomputable def o1800 (P : Params) : Obj := (tu [(vi 339617752923046005526922703901628039168 22654), (vi 9 22647)])
noncomputable def o1801 (P : Params) : Obj := (tu [(vi 339950059921992234495148655666698125312 22662), (vi 10 22655)])
noncomputable def o1802 (P : Params) : Obj := (tu [(vi 340116213421465348979261631549233168384 22670), (vi 11 22663)])
noncomputable def o1803 (P : Params) : Obj := (tu [(vi 340199290171201906221318119490500689920 22678), (vi 12 22671)])
noncomputable def o1804 (P : Params) : Obj := (tu [(vi 340240828546070184842346363461134450688 22686), (vi 13 22679)])
noncomputable def o1805 (P : Params) : Obj := (tu [(vi 340261597733504324152860485446451331072 22694), (vi 14 22687)])
noncomputable def o1806 (P : Params) : Obj := (tu [(vi 340271982327221393808117546439109771264 22702), (vi 15 22695)])
noncomputable def o1807 (P : Params) : Obj := (tu [(vi 340277174624079928635746076935438991360 22710), (vi 16 22703)])
noncomputable def o1808 (P : Params) : Obj := (tu [(vi 340279770772509196049560342183603601408 22718), (vi 17 22711)])
noncomputable def o1809 (P : Params) : Obj := (tu [(vi 340281068846723829756467474807685906432 22726), (vi 18 22719)])
noncomputable def o1810 (P : Params) : Obj := (tu [(vi 340281717883831146609921041119727058944 22734), (vi 19 22727)])
noncomputable def o1811 (P : Params) : Obj := (tu [(vi 340282042402384805036647824275747635200 22742), (vi 20 22735)])
noncomputable def o1812 (P : Params) : Obj := (tu [(vi 340282204661661634250011215853757923328 22750), (vi 21 22743)])
noncomputable def o1813 (P : Params) : Obj := (tu [(vi 340282285791300048856692911642763067392 22758), (vi 22 22751)])
noncomputable def o1814 (P : Params) : Obj := (tu [(vi 340282326356119256160033759537265639424 22766), (vi 23 22759)])
noncomputable def o1815 (P : Params) : Obj := (tu [(vi 340282346638528859811704183484516925440 22774), (vi 24 22767)])
noncomputable def o1816 (P : Params) : Obj := (tu [(vi 340282356779733661637539395458142568448 22782), (vi 25 22775)])
noncomputable def o1817 (P : Params) : Obj := (tu [(vi 340282361850336062550457001444955389952 22790), (vi 26 22783)])
noncomputable def o1818 (P : Params) : Obj := (tu [(vi 340282364385637263006915804438361800704 22798), (vi 27 22791)])
noncomputable def o1819 (P : Params) : Obj := (tu [(vi 340282365653287863235145205935065006080 22806), (vi 28 22799)])
noncomputable def o1820 (P : Params) : Obj := (tu [(vi 340282366287113163349259906683416608768 22814), (vi 29 22807)])
noncomputable def o1821 (P : Params) : Obj := (tu [(vi 340282366604025813406317257057592410112 22822), (vi 30 22815)])
noncomputable def o1822 (P : Params) : Obj := (tu [(vi 340282366762482138434845932244680310784 22830), (vi 31 22823)])
noncomputable def o1823 (P : Params) : Obj := (tu [(vi 340282366841710300949110269838224261120 22838), (vi 32 22831)])
noncomputable def o1824 (P : Params) : Obj := (tu [(vi 340282366881324382206242438634996236288 22846), (vi 33 22839)])
noncomputable def o1825 (P : Params) : Obj := (tu [(vi 340282366901131422834808523033382223872 22854), (vi 34 22847)])
noncomputable def o1826 (P : Params) : Obj := (tu [(vi 340282366911034943149091565232575217664 22862), (vi 35 22855)])
noncomputable def o1827 (P : Params) : Obj := (tu [(vi 340282366915986703306233086332171714560 22870), (vi 36 22863)])
noncomputable def o1828 (P : Params) : Obj := (tu [(vi 340282366918462583384803846881969963008 22878), (vi 37 22871)])
noncomputable def o1829 (P : Params) : Obj := (tu [(vi 340282366919700523424089227156869087232 22886), (vi 38 22879)])
noncomputable def o1830 (P : Params) : Obj := (tu [(vi 340282366920319493443731917294318649344 22894), (vi 39 22887)])
noncomputable def o1831 (P : Params) : Obj := (tu [(vi 340282366920628978453553262363043430400 22902), (vi 40 22895)])
noncomputable def o1832 (P : Params) : Obj := (tu [(vi 340282366920783720958463934897405820928 22910), (vi 41 22903)])
noncomputable def o1833 (P : Params) : Obj := (tu [(vi 340282366920861092210919271164587016192 22918), (vi 42 22911)])
noncomputable def o1834 (P : Params) : Obj := (tu [(vi 340282366920899777837146939298177613824 22926), (vi 43 22919)])
noncomputable def o1835 (P : Params) : Obj := (tu [(vi 340282366920919120650260773364972912640 22934), (vi 44 22927)])
noncomputable def o1836 (P : Params) : Obj := (tu [(vi 340282366920928792056817690398370562048 22942), (vi 45 22935)])
noncomputable def o1837 (P : Params) : Obj := (tu [(vi 340282366920933627760096148915069386752 22950), (vi 46 22943)])
noncomputable def o1838 (P : Params) : Obj := (tu [(vi 340282366920936045611735378173418799104 22958), (vi 47 22951)])
noncomputable def o1839 (P : Params) : Obj := (tu [(vi 340282366920937254537554992802593505280 22966), (vi 48 22959)])
noncomputable def o1840 (P : Params) : Obj := (tu [(vi 340282366920937859000464800117180858368 22974), (vi 49 22967)])
noncomputable def o1841 (P : Params) : Obj := (tu [(vi 340282366920938161231919703774474534912 22982), (vi 50 22975)])
noncomputable def o1842 (P : Params) : Obj := (tu [(vi 340282366920938312347647155603121373184 22990), (vi 51 22983)])
noncomputable def o1843 (P : Params) : Obj := (tu [(vi 340282366920938387905510881517444792320 22998), (vi 52 22991)])
noncomputable def o1844 (P : Params) : Obj := (tu [(vi 340282366920938425684442744474606501888 23006), (vi 53 22999)])
noncomputable def o1845 (P : Params) : Obj := (tu [(vi 340282366920938444573908675953187356672 23014), (vi 54 23007)])
noncomputable def o1846 (P : Params) : Obj := (tu [(vi 340282366920938454018641641692477784064 23022), (vi 55 23015)])
noncomputable def o1847 (P : Params) : Obj := (tu [(vi 340282366920938458741008124562122997760 23030), (vi 56 23023)])
noncomputable def o1848 (P : Params) : Obj := (tu [(vi 340282366920938461102191365996945604608 23038), (vi 57 23031)])
noncomputable def o1849 (P : Params) : Obj := (tu [(vi 340282366920938462282782986714356908032 23046), (vi 58 23039)])
noncomputable def o1850 (P : Params) : Obj := (tu [(vi 340282366920938462873078797073062559744 23054), (vi 59 23047)])
noncomputable def o1851 (P : Params) : Obj := (tu [(vi 340282366920938463168226702252415385600 23062), (vi 60 23055)])
noncomputable def o1852 (P : Params) : Obj := (tu [(vi 340282366920938463315800654842091798528 23070), (vi 61 23063)])
noncomputable def o1853 (P : Params) : Obj := (tu [(vi 340282366920938463389587631136930004992 23078), (vi 62 23071)])
noncomputable def o1854 (P : Params) : Obj := (tu [(vi 340282366920938463426481119284349108224 23086), (vi 63 23079)])
noncomputable def o1855 (P : Params) : Obj := (tu [(vi 340282366920938463444927863358058659840 23094), (vi 64 23087)])
noncomputable def o1856 (P : Params) : Obj := (tu [(vi 340282366920938463454151235394913435648 23102), (vi 65 23095)])
noncomputable def o1857 (P : Params) : Obj := (tu [(vi 340282366920938463458762921413340823552 23110), (vi 66 23103)])
noncomputable def o1858 (P : Params) : Obj := (tu [(vi 340282366920938463461068764422554517504 23118), (vi 67 23111)])
noncomputable def o1859 (P : Params) : Obj := (tu [(vi 340282366920938463462221685927161364480 23126), (vi 68 23119)])
noncomputable def o1860 (P : Params) : Obj := (tu [(vi 340282366920938463462798146679464787968 23134), (vi 69 23127)])
noncomputable def o1861 (P : Params) : Obj := (tu [(vi 340282366920938463463086377055616499712 23142), (vi 70 23135)])
noncomputable def o1862 (P : Params) : Obj := (tu [(vi 340282366920938463463230492243692355584 23150), (vi 71 23143)])
noncomputable def o1863 (P : Params) : Obj := (tu [(vi 340282366920938463463302549837730283520 23158), (vi 72 23151)])
noncomputable def o1864 (P : Params) : Obj := (tu [(vi 340282366920938463463338578634749247488 23166), (vi 73 23159)])
noncomputable def o1865 (P : Params) : Obj := (tu [(vi 340282366920938463463356593033258729472 23174), (vi 74 23167)])
noncomputable def o1866 (P : Params) : Obj := (tu [(vi 340282366920938463463365600232513470464 23182), (vi 75 23175)])
noncomputable def o1867 (P : Params) : Obj := (tu [(vi 340282366920938463463370103832140840960 23190), (vi 76 23183)])
noncomputable def o1868 (P : Params) : Obj := (tu [(vi 340282366920938463463372355631954526208 23198), (vi 77 23191)])
noncomputable def o1869 (P : Params) : Obj := (tu [(vi 340282366920938463463373481531861368832 23206), (vi 78 23199)])
noncomputable def o1870 (P : Params) : Obj := (tu [(vi 340282366920938463463374044481814790144 23214), (vi 79 23207)])
noncomputable def o1871 (P : Params) : Obj := (tu [(vi 340282366920938463463374325956791500800 23222), (vi 80 23215)])
noncomputable def o1872 (P : Params) : Obj := (tu [(vi 340282366920938463463374466694279856128 23230), (vi 81 23223)])
noncomputable def o1873 (P : Params) : Obj := (tu [(vi 340282366920938463463374537063024033792 23238), (vi 82 23231)])
noncomputable def o1874 (P : Params) : Obj := (tu [(vi 340282366920938463463374572247396122624 23246), (vi 83 23239)])
noncomputable def o1875 (P : Params) : Obj := (tu [(vi 340282366920938463463374589839582167040 23254), (vi 84 23247)])
noncomputable def o1876 (P : Params) : Obj := (tu [(vi 340282366920938463463374598635675189248 23262), (vi 85 23255)])
noncomputable def o1877 (P : Params) : Obj := (tu [(vi 340282366920938463463374603033721700352 23270), (vi 86 23263)])
noncomputable def o1878 (P : Params) : Obj := (tu [(vi 340282366920938463463374605232744955904 23278), (vi 87 23271)])
noncomputable def o1879 (P : Params) : Obj := (tu [(vi 340282366920938463463374606332256583680 23286), (vi 88 23279)])
noncomputable def o1880 (P : Params) : Obj := (tu [(vi 340282366920938463463374606882012397568 23294), (vi 89 23287)])
noncomputable def o1881 (P : Params) : Obj := (tu [(vi 340282366920938463463374607156890304512 23302), (vi 90 23295)])
noncomputable def o1882 (P : Params) : Obj := (tu [(vi 340282366920938463463374607294329257984 23310), (vi 91 23303)])
noncomputable def o1883 (P : Params) : Obj := (tu [(vi 340282366920938463463374607363048734720 23318), (vi 92 23311)])
noncomputable def o1884 (P : Params) : Obj := (tu [(vi 340282366920938463463374607397408473088 23326), (vi 93 23319)])
noncomputable def o1885 (P : Params) : Obj := (tu [(vi 340282366920938463463374607414588342272 23334), (vi 94 23327)])
noncomputable def o1886 (P : Params) : Obj := (tu [(vi 340282366920938463463374607423178276864 23342), (vi 95 23335)])
noncomputable def o1887 (P : Params) : Obj := (tu [(vi 340282366920938463463374607427473244160 23350), (vi 96 23343)])
noncomputable def o1888 (P : Params) : Obj := (tu [(vi 340282366920938463463374607429620727808 23358), (vi 97 23351)])
noncomputable def o1889 (P : Params) : Obj := (tu [(vi 340282366920938463463374607430694469632 23366), (vi 98 23359)])
noncomputable def o1890 (P : Params) : Obj := (tu [(vi 340282366920938463463374607431231340544 23374), (vi 99 23367)])
noncomputable def o1891 (P : Params) : Obj := (tu [(vi 340282366920938463463374607431499776000 23382), (vi 100 23375)])
noncomputable def o1892 (P : Params) : Obj := (tu [(vi 340282366920938463463374607431633993728 23390), (vi 101 23383)])
noncomputable def o1893 (P : Params) : Obj := (tu [(vi 340282366920938463463374607431701102592 23398), (vi 102 23391)])
noncomputable def o1894 (P : Params) : Obj := (tu [(vi 340282366920938463463374607431734657024 23406), (vi 103 23399)])
noncomputable def o1895 (P : Params) : Obj := (tu [(vi 340282366920938463463374607431751434240 23414), (vi 104 23407)])
noncomputable def o1896 (P : Params) : Obj := (tu [(vi 340282366920938463463374607431759822848 23422), (vi 105 23415)])
noncomputable def o1897 (P : Params) : Obj := (tu [(vi 340282366920938463463374607431764017152 23430), (vi 106 23423)])
noncomputable def o1898 (P : Params) : Obj := (tu [(vi 340282366920938463463374607431766114304 23438), (vi 107 23431)])
noncomputable def o1899 (P : Params) : Obj := (tu [(vi 340282366920938463463374607431767162880 23446), (vi 108 23439)])
noncomputable def o1900 (P : Params) : Obj := (tu [(vi 340282366920938463463374607431767687168 23454), (vi 109 23447)])
noncomputable def o1901 (P : Params) : Obj := (tu [(vi 340282366920938463463374607431767949312 23462), (vi 110 23455)])
noncomputable def o1902 (P : Params) : Obj := (tu [(vi 340282366920938463463374607431768080384 23470), (vi 111 23463)])
noncomputable def o1903 (P : Params) : Obj := (tu [(vi 340282366920938463463374607431768145920 23478), (vi 112 23471)])
noncomputable def o1904 (P : Params) : Obj := (tu [(vi 340282366920938463463374607431768178688 23486), (vi 113 23479)])
noncomputable def o1905 (P : Params) : Obj := (tu [(vi 340282366920938463463374607431768195072 23494), (vi 114 23487)])
noncomputable def o1906 (P : Params) : Obj := (tu [(vi 340282366920938463463374607431768203264 23502), (vi 115 23495)])
noncomputable def o1907 (P : Params) : Obj := (tu [(vi 340282366920938463463374607431768207360 23510), (vi 116 23503)])
noncomputable def o1908 (P : Params) : Obj := (tu [(vi 340282366920938463463374607431768209408 23518), (vi 117 23511)])
noncomputable def o1909 (P : Params) : Obj := (tu [(vi 340282366920938463463374607431768210432 23526), (vi 118 23519)])
noncomputable def o1910 (P : Params) : Obj := (tu [(vi 340282366920938463463374607431768210944 23534), (vi 119 23527)])
noncomputable def o1911 (P : Params) : Obj := (tu [(vi 340282366920938463463374607431768211200 23542), (vi 120 23535)])
noncomputable def o1912 (P : Params) : Obj := (tu [(vi 340282366920938463463374607431768211328 23550), (vi 121 23543)])
noncomputable def o1913 (P : Params) : Obj := (tu [(vi 340282366920938463463374607431768211392 23558), (vi 122 23551)])
noncomputable def o1914 (P : Params) : Obj := (tu [(vi 340282366920938463463374607431768211424 23566), (vi 123 23559)])
noncomputable def o1915 (P : Params) : Obj := (tu [(vi 340282366920938463463374607431768211440 23574), (vi 124 23567)])
noncomputable def o1916 (P : Params) : Obj := (tu [(vi 340282366920938463463374607431768211448 23582), (vi 125 23575)])
noncomputable def o1917 (P : Params) : Obj := (tu [(vi 340282366920938463463374607431768211452 23590), (vi 126 23583)])
noncomputable def o1918 (P : Params) : Obj := (tu [(vi 340282366920938463463374607431768211454 23598), (vi 127 23591)])
noncomputable def o1919 (P : Params) : Obj := (tu [(vi 340282366920938463463374607431768211455 23606), (vi 128 23599)])
noncomputable def o1920 (P : Params) : Obj := (tu [])
noncomputable def o1921 (P : Params) : Obj := (fo "StopIteration" [(vr 1920), Value.none, Value.none, Value.none, (Value.bool false), Value.none])
noncomputable def o1922 (P : Params) : Obj := (di [(DictEntry.mk 0 (vi 0 22582) (vi 0 22575)), (DictEntry.mk 32 (vi 170141183460469231731687303715884105728 22590) (vi 1 22583)), (DictEntry.mk 48 (vi 255211775190703847597530955573826158592 22598) (vi 2 22591)), (DictEntry.mk 56 (vi 297747071055821155530452781502797185024 22606) (vi 3 22599)), (DictEntry.mk 60 (vi 319014718988379809496913694467282698240 22614) (vi 4 22607)), (DictEntry.mk 62 (vi 329648542954659136480144150949525454848 22622) (vi 5 22615)), (DictEntry.mk 63 (vi 334965454937798799971759379190646833152 22630) (vi 6 22623)), (DictEntry.mk 1152921504606847039 (vi 337623910929368631717566993311207522304 22638) (vi 7 22631)), (DictEntry.mk 1729382256910270527 (vi 338953138925153547590470800371487866880 22646) (vi 8 22639)), (DictEntry.mk 2017612633061982271 (vi 339617752923046005526922703901628039168 22654) (vi 9 22647)), (DictEntry.mk 2161727821137838143 (vi 339950059921992234495148655666698125312 22662) (vi 10 22655)), (DictEntry.mk 2233785415175766079 (vi 340116213421465348979261631549233168384 22670) (vi 11 22663)), (DictEntry.mk 2269814212194730047 (vi 340199290171201906221318119490500689920 22678) (vi 12 22671)), (DictEntry.mk 2287828610704212031 (vi 340240828546070184842346363461134450688 22686) (vi 13 22679)), (DictEntry.mk 2296835809958953023 (vi 340261597733504324152860485446451331072 22694) (vi 14 22687)), (DictEntry.mk 2301339409586323519 (vi 340271982327221393808117546439109771264 22702) (vi 15 22695)), (DictEntry.mk 2303591209400008767 (vi 340277174624079928635746076935438991360 22710) (vi 16 22703)), (DictEntry.mk 2304717109306851391 (vi 340279770772509196049560342183603601408 22718) (vi 17 22711)), (DictEntry.mk 2305280059260272703 (vi 340281068846723829756467474807685906432 22726) (vi 18 22719)), (DictEntry.mk 2305561534236983359 (vi 340281717883831146609921041119727058944 22734) (vi 19 22727)), (DictEntry.mk 2305702271725338687 (vi 340282042402384805036647824275747635200 22742) (vi 20 22735)), (DictEntry.mk 2305772640469516351 (vi 340282204661661634250011215853757923328 22750) (vi 21 22743)), (DictEntry.mk 2305807824841605183 (vi 340282285791300048856692911642763067392 22758) (vi 22 22751)), (DictEntry.mk 2305825417027649599 (vi 340282326356119256160033759537265639424 22766) (vi 23 22759)), (DictEntry.mk 2305834213120671807 (vi 340282346638528859811704183484516925440 22774) (vi 24 22767)), (DictEntry.mk 2305838611167182911 (vi 340282356779733661637539395458142568448 22782) (vi 25 22775)), (DictEntry.mk 2305840810190438463 (vi 340282361850336062550457001444955389952 22790) (vi 26 22783)), (DictEntry.mk 2305841909702066239 (vi 340282364385637263006915804438361800704 22798) (vi 27 22791)), (DictEntry.mk 2305842459457880127 (vi 340282365653287863235145205935065006080 22806) (vi 28 22799)), (DictEntry.mk 2305842734335787071 (vi 340282366287113163349259906683416608768 22814) (vi 29 22807)), (DictEntry.mk 2305842871774740543 (vi 340282366604025813406317257057592410112 22822) (vi 30 22815)), (DictEntry.mk 2305842940494217279 (vi 340282366762482138434845932244680310784 22830) (vi 31 22823)), (DictEntry.mk 2305842974853955647 (vi 340282366841710300949110269838224261120 22838) (vi 32 22831)), (DictEntry.mk 2305842992033824831 (vi 340282366881324382206242438634996236288 22846) (vi 33 22839)), (DictEntry.mk 2305843000623759423 (vi 340282366901131422834808523033382223872 22854) (vi 34 22847)), (DictEntry.mk 2305843004918726719 (vi 340282366911034943149091565232575217664 22862) (vi 35 22855)), (DictEntry.mk 2305843007066210367 (vi 340282366915986703306233086332171714560 22870) (vi 36 22863)), (DictEntry.mk 2305843008139952191 (vi 340282366918462583384803846881969963008 22878) (vi 37 22871)), (DictEntry.mk 2305843008676823103 (vi 340282366919700523424089227156869087232 22886) (vi 38 22879)), (DictEntry.mk 2305843008945258559 (vi 340282366920319493443731917294318649344 22894) (vi 39 22887)), (DictEntry.mk 2305843009079476287 (vi 340282366920628978453553262363043430400 22902) (vi 40 22895)), (DictEntry.mk 2305843009146585151 (vi 340282366920783720958463934897405820928 22910) (vi 41 22903)), (DictEntry.mk 2305843009180139583 (vi 340282366920861092210919271164587016192 22918) (vi 42 22911)), (DictEntry.mk 2305843009196916799 (vi 340282366920899777837146939298177613824 22926) (vi 43 22919)), (DictEntry.mk 2305843009205305407 (vi 340282366920919120650260773364972912640 22934) (vi 44 22927)), (DictEntry.mk 2305843009209499711 (vi 340282366920928792056817690398370562048 22942) (vi 45 22935)), (DictEntry.mk 2305843009211596863 (vi 340282366920933627760096148915069386752 22950) (vi 46 22943)), (DictEntry.mk 2305843009212645439 (vi 340282366920936045611735378173418799104 22958) (vi 47 22951)), (DictEntry.mk 2305843009213169727 (vi 340282366920937254537554992802593505280 22966) (vi 48 22959)), (DictEntry.mk 2305843009213431871 (vi 340282366920937859000464800117180858368 22974) (vi 49 22967)), (DictEntry.mk 2305843009213562943 (vi 340282366920938161231919703774474534912 22982) (vi 50 22975)), (DictEntry.mk 2305843009213628479 (vi 340282366920938312347647155603121373184 22990) (vi 51 22983)), (DictEntry.mk 2305843009213661247 (vi 340282366920938387905510881517444792320 22998) (vi 52 22991)), (DictEntry.mk 2305843009213677631 (vi 340282366920938425684442744474606501888 23006) (vi 53 22999)), (DictEntry.mk 2305843009213685823 (vi 340282366920938444573908675953187356672 23014) (vi 54 23007)), (DictEntry.mk 2305843009213689919 (vi 340282366920938454018641641692477784064 23022) (vi 55 23015)), (DictEntry.mk 2305843009213691967 (vi 340282366920938458741008124562122997760 23030) (vi 56 23023)), (DictEntry.mk 2305843009213692991 (vi 340282366920938461102191365996945604608 23038) (vi 57 23031)), (DictEntry.mk 2305843009213693503 (vi 340282366920938462282782986714356908032 23046) (vi 58 23039)), (DictEntry.mk 2305843009213693759 (vi 340282366920938462873078797073062559744 23054) (vi 59 23047)), (DictEntry.mk 2305843009213693887 (vi 340282366920938463168226702252415385600 23062) (vi 60 23055)), (DictEntry.mk 0 (vi 340282366920938463315800654842091798528 23070) (vi 61 23063)), (DictEntry.mk 32 (vi 340282366920938463389587631136930004992 23078) (vi 62 23071)), (DictEntry.mk 48 (vi 340282366920938463426481119284349108224 23086) (vi 63 23079)), (DictEntry.mk 56 (vi 340282366920938463444927863358058659840 23094) (vi 64 23087)), (DictEntry.mk 60 (vi 340282366920938463454151235394913435648 23102) (vi 65 23095)), (DictEntry.mk 62 (vi 340282366920938463458762921413340823552 23110) (vi 66 23103)), (DictEntry.mk 63 (vi 340282366920938463461068764422554517504 23118) (vi 67 23111)), (DictEntry.mk 1152921504606847039 (vi 340282366920938463462221685927161364480 23126) (vi 68 23119)), (DictEntry.mk 1729382256910270527 (vi 340282366920938463462798146679464787968 23134) (vi 69 23127)), (DictEntry.mk 2017612633061982271 (vi 340282366920938463463086377055616499712 23142) (vi 70 23135)), (DictEntry.mk 2161727821137838143 (vi 340282366920938463463230492243692355584 23150) (vi 71 23143)), (DictEntry.mk 2233785415175766079 (vi 340282366920938463463302549837730283520 23158) (vi 72 23151)), (DictEntry.mk 2269814212194730047 (vi 340282366920938463463338578634749247488 23166) (vi 73 23159)), (DictEntry.mk 2287828610704212031 (vi 340282366920938463463356593033258729472 23174) (vi 74 23167)), (DictEntry.mk 2296835809958953023 (vi 340282366920938463463365600232513470464 23182) (vi 75 23175)), (DictEntry.mk 2301339409586323519 (vi 340282366920938463463370103832140840960 23190) (vi 76 23183)), (DictEntry.mk 2303591209400008767 (vi 340282366920938463463372355631954526208 23198) (vi 77 23191)), (DictEntry.mk 2304717109306851391 (vi 340282366920938463463373481531861368832 23206) (vi 78 23199)), (DictEntry.mk 2305280059260272703 (vi 340282366920938463463374044481814790144 23214) (vi 79 23207)), (DictEntry.mk 2305561534236983359 (vi 340282366920938463463374325956791500800 23222) (vi 80 23215)), (DictEntry.mk 2305702271725338687 (vi 340282366920938463463374466694279856128 23230) (vi 81 23223)), (DictEntry.mk 2305772640469516351 (vi 340282366920938463463374537063024033792 23238) (vi 82 23231)), (DictEntry.mk 2305807824841605183 (vi 340282366920938463463374572247396122624 23246) (vi 83 23239)), (DictEntry.mk 2305825417027649599 (vi 340282366920938463463374589839582167040 23254) (vi 84 23247)), (DictEntry.mk 2305834213120671807 (vi 340282366920938463463374598635675189248 23262) (vi 85 23255)), (DictEntry.mk 2305838611167182911 (vi 340282366920938463463374603033721700352 23270) (vi 86 23263)), (DictEntry.mk 2305840810190438463 (vi 340282366920938463463374605232744955904 23278) (vi 87 23271)), (DictEntry.mk 2305841909702066239 (vi 340282366920938463463374606332256583680 23286) (vi 88 23279)), (DictEntry.mk 2305842459457880127 (vi 340282366920938463463374606882012397568 23294) (vi 89 23287)), (DictEntry.mk 2305842734335787071 (vi 340282366920938463463374607156890304512 23302) (vi 90 23295)), (DictEntry.mk 2305842871774740543 (vi 340282366920938463463374607294329257984 23310) (vi 91 23303)), (DictEntry.mk 2305842940494217279 (vi 340282366920938463463374607363048734720 23318) (vi 92 23311)), (DictEntry.mk 2305842974853955647 (vi 340282366920938463463374607397408473088 23326) (vi 93 23319)), (DictEntry.mk 2305842992033824831 (vi 340282366920938463463374607414588342272 23334) (vi 94 23327)), (DictEntry.mk 2305843000623759423 (vi 340282366920938463463374607423178276864 23342) (vi 95 23335)), (DictEntry.mk 2305843004918726719 (vi 340282366920938463463374607427473244160 23350) (vi 96 23343)), (DictEntry.mk 2305843007066210367 (vi 340282366920938463463374607429620727808 23358) (vi 97 23351)), (DictEntry.mk 2305843008139952191 (vi 340282366920938463463374607430694469632 23366) (vi 98 23359)), (DictEntry.mk 2305843008676823103 (vi 340282366920938463463374607431231340544 23374) (vi 99 23367)), (DictEntry.mk 2305843008945258559 (vi 340282366920938463463374607431499776000 23382) (vi 100 23375)), (DictEntry.mk 2305843009079476287 (vi 340282366920938463463374607431633993728 23390) (vi 101 23383)), (DictEntry.mk 2305843009146585151 (vi 340282366920938463463374607431701102592 23398) (vi 102 23391)), (DictEntry.mk 2305843009180139583 (vi 340282366920938463463374607431734657024 23406) (vi 103 23399)), (DictEntry.mk 2305843009196916799 (vi 340282366920938463463374607431751434240 23414) (vi 104 23407)), (DictEntry.mk 2305843009205305407 (vi 340282366920938463463374607431759822848 23422) (vi 105 23415)), (DictEntry.mk 2305843009209499711 (vi 340282366920938463463374607431764017152 23430) (vi 106 23423)), (DictEntry.mk 2305843009211596863 (vi 340282366920938463463374607431766114304 23438) (vi 107 23431)), (DictEntry.mk 2305843009212645439 (vi 340282366920938463463374607431767162880 23446) (vi 108 23439)), (DictEntry.mk 2305843009213169727 (vi 340282366920938463463374607431767687168 23454) (vi 109 23447)), (DictEntry.mk 2305843009213431871 (vi 340282366920938463463374607431767949312 23462) (vi 110 23455)), (DictEntry.mk 2305843009213562943 (vi 340282366920938463463374607431768080384 23470) (vi 111 23463)), (DictEntry.mk 2305843009213628479 (vi 340282366920938463463374607431768145920 23478) (vi 112 23471)), (DictEntry.mk 2305843009213661247 (vi 340282366920938463463374607431768178688 23486) (vi 113 23479)), (DictEntry.mk 2305843009213677631 (vi 340282366920938463463374607431768195072 23494) (vi 114 23487)), (DictEntry.mk 2305843009213685823 (vi 340282366920938463463374607431768203264 23502) (vi 115 23495)), (DictEntry.mk 2305843009213689919 (vi 340282366920938463463374607431768207360 23510) (vi 116 23503)), (DictEntry.mk 2305843009213691967 (vi 340282366920938463463374607431768209408 23518) (vi 117 23511)), (DictEntry.mk 2305843009213692991 (vi 340282366920938463463374607431768210432 23526) (vi 118 23519)), (DictEntry.mk 2305843009213693503 (vi 340282366920938463463374607431768210944 23534) (vi 119 23527)), (DictEntry.mk 2305843009213693759 (vi 340282366920938463463374607431768211200 23542) (vi 120 23535)), (DictEntry.mk 2305843009213693887 (vi 340282366920938463463374607431768211328 23550) (vi 121 23543)), (DictEntry.mk 0 (vi 340282366920938463463374607431768211392 23558) (vi 122 23551)), (DictEntry.mk 32 (vi 340282366920938463463374607431768211424 23566) (vi 123 23559)), (DictEntry.mk 48 (vi 340282366920938463463374607431768211440 23574) (vi 124 23567)), (DictEntry.mk 56 (vi 340282366920938463463374607431768211448 23582) (vi 125 23575)), (DictEntry.mk 60 (vi 340282366920938463463374607431768211452 23590) (vi 126 23583)), (DictEntry.mk 62 (vi 340282366920938463463374607431768211454 23598) (vi 127 23591)), (DictEntry.mk 63 (vi 340282366920938463463374607431768211455 23606) (vi 128 23599))] 129)
noncomputable def o1923 (P : Params) : Obj := (tu [(vs "'list' object has no attribute 'keys'" 23608)])
noncomputable def o1924 (P : Params) : Obj := (fo "AttributeError" [(vr 1923), Value.none, Value.none, Value.none, (Value.bool false), Value.none, (vs "keys" 23609), (vr 1789)])
noncomputable def o1925 (P : Params) : Obj := (fo "list_iterator" [Value.none, (vi 129 0)])
noncomputable def o1926 (P : Params) : Obj := (tu [])
noncomputable def o1927 (P : Params) : Obj := (fo "StopIteration" [(vr 1926), Value.none, Value.none, Value.none, (Value.bool false), Value.none])
noncomputable def o1928 (P : Params) : Obj := (fo "range" [(vi 0 23740), (vi 129 23742), (vi 1 23743)])
noncomputable def o1929 (P : Params) : Obj := (fo "range_iterator" [(vi 129 0), (vi 0 0), (vi 1 0)])
noncomputable def o1930 (P : Params) : Obj := (Obj.mk (Value.type "list") none (Data.seq (List.toArray [(vr 1932), (vr 1933), (vr 1934), (vr 1935), (vr 1936), (vr 1937), (vr 1938), (vr 1939), (vr 1940), (vr 1941), (vr 1942), (vr 1943), (vr 1944), (vr 1945), (vr 1946), (vr 1947), (vr 1948), (vr 1949), (vr 1950), (vr 1951), (vr 1952), (vr 1953), (vr 1954), (vr 1955), (vr 1956), (vr 1957), (vr 1958), (vr 1959), (vr 1960), (vr 1961), (vr 1962), (vr 1963), (vr 1964), (vr 1965), (vr 1966), (vr 1967), (vr 1968), (vr 1969), (vr 1970), (vr 1971), (vr 1972), (vr 1973), (vr 1974), (vr 1975), (vr 1976), (vr 1977), (vr 1978), (vr 1979), (vr 1980), (vr 1981), (vr 1982), (vr 1983), (vr 1984), (vr 1985), (vr 1986), (vr 1987), (vr 1988), (vr 1989), (vr 1990), (vr 1991), (vr 1992), (vr 1993), (vr 1994), (vr 1995), (vr 1996), (vr 1997), (vr 1998), (vr 1999), (vr 2000), (vr 2001), (vr 2002), (vr 2003), (vr 2004), (vr 2005), (vr 2006), (vr 2007), (vr 2008), (vr 2009), (vr 2010), (vr 2011), (vr 2012), (vr 2013), (vr 2014), (vr 2015), (vr 2016), (vr 2017), (vr 2018), (vr 2019), (vr 2020), (vr 2021), (vr 2022), (vr 2023), (vr 2024), (vr 2025), (vr 2026), (vr 2027), (vr 2028), (vr 2029), (vr 2030), (vr 2031), (vr 2032), (vr 2033), (vr 2034), (vr 2035), (vr 2036), (vr 2037), (vr 2038), (vr 2039), (vr 2040), (vr 2041), (vr 2042), (vr 2043), (vr 2044), (vr 2045), (vr 2046), (vr 2047), (vr 2048), (vr 2049), (vr 2050), (vr 2051), (vr 2052), (vr 2053), (vr 2054), (vr 2055), (vr 2056), (vr 2057), (vr 2058), (vr 2059), (vr 2060)]) 129) #[])
noncomputable def o1931 (P : Params) : Obj := (di [] 2)
noncomputable def o1932 (P : Params) : Obj := (tu [(vi 340282366920938463463374607431768211455 23750), (vi 0 23744)])
noncomputable def o1933 (P : Params) : Obj := (tu [(vi 170141183460469231731687303715884105727 23757), (vi 1 23751)])
noncomputable def o1934 (P : Params) : Obj := (tu [(vi 85070591730234615865843651857942052863 23764), (vi 2 23758)])
noncomputable def o1935 (P : Params) : Obj := (tu [(vi 42535295865117307932921825928971026431 23771), (vi 3 23765)])
noncomputable def o1936 (P : Params) : Obj := (tu [(vi 21267647932558653966460912964485513215 23778), (vi 4 23772)])
noncomputable def o1937 (P : Params) : Obj := (tu [(vi 10633823966279326983230456482242756607 23785), (vi 5 23779)])
noncomputable def o1938 (P : Params) : Obj := (tu [(vi 5316911983139663491615228241121378303 23792), (vi 6 23786)])
noncomputable def o1939 (P : Params) : Obj := (tu [(vi 2658455991569831745807614120560689151 23799), (vi 7 23793)])
noncomputable def o1940 (P : Params) : Obj := (tu [(vi 1329227995784915872903807060280344575 23806), (vi 8 23800)])
noncomputable def o1941 (P : Params) : Obj := (tu [(vi 664613997892457936451903530140172287 23813), (vi 9 23807)])
noncomputable def o1942 (P : Params) : Obj := (tu [(vi 332306998946228968225951765070086143 23820), (vi 10 23814)])
noncomputable def o1943 (P : Params) : Obj := (tu [(vi 166153499473114484112975882535043071 23827), (vi 11 23821)])
noncomputable def o1944 (P : Params) : Obj := (tu [(vi 83076749736557242056487941267521535 23834), (vi 12 23828)])
noncomputable def o1945 (P : Params) : Obj := (tu [(vi 41538374868278621028243970633760767 23841), (vi 13 23835)])
noncomputable def o1946 (P : Params) : Obj := (tu [(vi 20769187434139310514121985316880383 23848), (vi 14 23842)])
noncomputable def o1947 (P : Params) : Obj := (tu [(vi 10384593717069655257060992658440191 23855), (vi 15 23849)])
noncomputable def o1948 (P : Params) : Obj := (tu [(vi 5192296858534827628530496329220095 23862), (vi 16 23856)])
noncomputable def o1949 (P : Params) : Obj := (tu [(vi 2596148429267413814265248164610047 23869), (vi 17 23863)])
noncomputable def o1950 (P : Params) : Obj := (tu [(vi 1298074214633706907132624082305023 23876), (vi 18 23870)])
noncomputable def o1951 (P : Params) : Obj := (tu [(vi 649037107316853453566312041152511 23883), (vi 19 23877)])
noncomputable def o1952 (P : Params) : Obj := (tu [(vi 324518553658426726783156020576255 23890), (vi 20 23884)])
noncomputable def o1953 (P : Params) : Obj := (tu [(vi 162259276829213363391578010288127 23897), (vi 21 23891)])
noncomputable def o1954 (P : Params) : Obj := (tu [(vi 81129638414606681695789005144063 23904), (vi 22 23898)])
noncomputable def o1955 (P : Params) : Obj := (tu [(vi 40564819207303340847894502572031 23911), (vi 23 23905)])
noncomputable def o1956 (P : Params) : Obj := (tu [(vi 20282409603651670423947251286015 23918), (vi 24 23912)])
noncomputable def o1957 (P : Params) : Obj := (tu [(vi 10141204801825835211973625643007 23925), (vi 25 23919)])
noncomputable def o1958 (P : Params) : Obj := (tu [(vi 5070602400912917605986812821503 23932), (vi 26 23926)])
noncomputable def o1959 (P : Params) : Obj := (tu [(vi 2535301200456458802993406410751 23939), (vi 27 23933)])
noncomputable def o1960 (P : Params) : Obj := (tu [(vi 1267650600228229401496703205375 23946), (vi 28 23940)])
noncomputable def o1961 (P : Params) : Obj := (tu [(vi 633825300114114700748351602687 23953), (vi 29 23947)])
noncomputable def o1962 (P : Params) : Obj := (tu [(vi 316912650057057350374175801343 23960), (vi 30 23954)])
noncomputable def o1963 (P : Params) : Obj := (tu [(vi 158456325028528675187087900671 23967), (vi 31 23961)])
noncomputable def o1964 (P : Params) : Obj := (tu [(vi 79228162514264337593543950335 23974), (vi 32 23968)])
noncomputable def o1965 (P : Params) : Obj := (tu [(vi 39614081257132168796771975167 23981), (vi 33 23975)])
noncomputable def o1966 (P : Params) : Obj := (tu [(vi 19807040628566084398385987583 23988), (vi 34 23982)])
noncomputable def o1967 (P : Params) : Obj := (tu [(vi 9903520314283042199192993791 23995), (vi 35 23989)])
noncomputable def o1968 (P : Params) : Obj := (tu [(vi 4951760157141521099596496895 24002), (vi 36 23996)])
noncomputable def o1969 (P : Params) : Obj := (tu [(vi 2475880078570760549798248447 24009), (vi 37 24003)])
noncomputable def o1970 (P : Params) : Obj := (tu [(vi 1237940039285380274899124223 24016), (vi 38 24010)])
noncomputable def o1971 (P : Params) : Obj := (tu [(vi 618970019642690137449562111 24023), (vi 39 24017)])
noncomputable def o1972 (P : Params) : Obj := (tu [(vi 309485009821345068724781055 24030), (vi 40 24024)])
noncomputable def o1973 (P : Params) : Obj := (tu [(vi 154742504910672534362390527 24037), (vi 41 24031)])
noncomputable def o1974 (P : Params) : Obj := (tu [(vi 77371252455336267181195263 24044), (vi 42 24038)])
noncomputable def o1975 (P : Params) : Obj := (tu [(vi 38685626227668133590597631 24051), (vi 43 24045)])
noncomputable def o1976 (P : Params) : Obj := (tu [(vi 19342813113834066795298815 24058), (vi 44 24052)])
noncomputable def o1977 (P : Params) : Obj := (tu [(vi 9671406556917033397649407 24065), (vi 45 24059)])
noncomputable def o1978 (P : Params) : Obj := (tu [(vi 4835703278458516698824703 24072), (vi 46 24066)])
noncomputable def o1979 (P : Params) : Obj := (tu [(vi 2417851639229258349412351 24079), (vi 47 24073)])
noncomputable def o1980 (P : Params) : Obj := (tu [(vi 1208925819614629174706175 24086), (vi 48 24080)])
noncomputable def o1981 (P : Params) : Obj := (tu [(vi 604462909807314587353087 24093), (vi 49 24087)])
noncomputable def o1982 (P : Params) : Obj := (tu [(vi 302231454903657293676543 24100), (vi 50 24094)])
noncomputable def o1983 (P : Params) : Obj := (tu [(vi 151115727451828646838271 24107), (vi 51 24101)])
noncomputable def o1984 (P : Params) : Obj := (tu [(vi 75557863725914323419135 24114), (vi 52 24108)])
noncomputable def o1985 (P : Params) : Obj := (tu [(vi 37778931862957161709567 24121), (vi 53 24115)])
noncomputable def o1986 (P : Params) : Obj := (tu [(vi 18889465931478580854783 24128), (vi 54 24122)])
noncomputable def o1987 (P : Params) : Obj := (tu [(vi 9444732965739290427391 24135), (vi 55 24129)])
noncomputable def o1988 (P : Params) : Obj := (tu [(vi 4722366482869645213695 24142), (vi 56 24136)])
noncomputable def o1989 (P : Params) : Obj := (tu [(vi 2361183241434822606847 24149), (vi 57 24143)])
noncomputable def o1990 (P : Params) : Obj := (tu [(vi 1180591620717411303423 24156), (vi 58 24150)])
noncomputable def o1991 (P : Params) : Obj := (tu [(vi 590295810358705651711 24163), (vi 59 24157)])
noncomputable def o1992 (P : Params) : Obj := (tu [(vi 295147905179352825855 24170), (vi 60 24164)])
noncomputable def o1993 (P : Params) : Obj := (tu [(vi 147573952589676412927 24177), (vi 61 24171)])
noncomputable def o1994 (P : Params) : Obj := (tu [(vi 73786976294838206463 24184), (vi 62 24178)])
noncomputable def o1995 (P : Params) : Obj := (tu [(vi 36893488147419103231 24191), (vi 63 24185)])
noncomputable def o1996 (P : Params) : Obj := (tu [(vi 18446744073709551615 24198), (vi 64 24192)])
noncomputable def o1997 (P : Params) : Obj := (tu [(vi 9223372036854775807 24205), (vi 65 24199)])
noncomputable def o1998 (P : Params) : Obj := (tu [(vi 4611686018427387903 24212), (vi 66 24206)])
noncomputable def o1999 (P : Params) : Obj := (tu [(vi 2305843009213693951 24219), (vi 67 24213)])
noncomputable def o2000 (P : Params) : Obj := (tu [(vi 1152921504606846975 24226), (vi 68 24220)])
noncomputable def o2001 (P : Params) : Obj := (tu [(vi 576460752303423487 24233), (vi 69 24227)])
noncomputable def o2002 (P : Params) : Obj := (tu [(vi 288230376151711743 24240), (vi 70 24234)])
noncomputable def o2003 (P : Params) : Obj := (tu [(vi 144115188075855871 24247), (vi 71 24241)])
noncomputable def o2004 (P : Params) : Obj := (tu [(vi 72057594037927935 24254), (vi 72 24248)])
noncomputable def o2005 (P : Params) : Obj := (tu [(vi 36028797018963967 24261), (vi 73 24255)])
noncomputable def o2006 (P : Params) : Obj := (tu [(vi 18014398509481983 24268), (vi 74 24262)])
noncomputable def o2007 (P : Params) : Obj := (tu [(vi 9007199254740991 24275), (vi 75 24269)])
noncomputable def o2008 (P : Params) : Obj := (tu [(vi 4503599627370495 24282), (vi 76 24276)])
noncomputable def o2009 (P : Params) : Obj := (tu [(vi 2251799813685247 24289), (vi 77 24283)])
noncomputable def o2010 (P : Params) : Obj := (tu [(vi 1125899906842623 24296), (vi 78 24290)])
noncomputable def o2011 (P : Params) : Obj := (tu [(vi 562949953421311 24303), (vi 79 24297)])
noncomputable def o2012 (P : Params) : Obj := (tu [(vi 281474976710655 24310), (vi 80 24304)])
noncomputable def o2013 (P : Params) : Obj := (tu [(vi 140737488355327 24317), (vi 81 24311)])
noncomputable def o2014 (P : Params) : Obj := (tu [(vi 70368744177663 24324), (vi 82 24318)])
noncomputable def o2015 (P : Params) : Obj := (tu [(vi 35184372088831 24331), (vi 83 24325)])
noncomputable def o2016 (P : Params) : Obj := (tu [(vi 17592186044415 24338), (vi 84 24332)])
noncomputable def o2017 (P : Params) : Obj := (tu [(vi 8796093022207 24345), (vi 85 24339)])
noncomputable def o2018 (P : Params) : Obj := (tu [(vi 4398046511103 24352), (vi 86 24346)])
noncomputable def o2019 (P : Params) : Obj := (tu [(vi 2199023255551 24359), (vi 87 24353)])
noncomputable def o2020 (P : Params) : Obj := (tu [(vi 1099511627775 24366), (vi 88 24360)])
noncomputable def o2021 (P : Params) : Obj := (tu [(vi 549755813887 24373), (vi 89 24367)])
noncomputable def o2022 (P : Params) : Obj := (tu [(vi 274877906943 24380), (vi 90 24374)])
noncomputable def o2023 (P : Params) : Obj := (tu [(vi 137438953471 24387), (vi 91 24381)])
noncomputable def o2024 (P : Params) : Obj := (tu [(vi 68719476735 24394), (vi 92 24388)])
noncomputable def o2025 (P : Params) : Obj := (tu [(vi 34359738367 24401), (vi 93 24395)])
noncomputable def o2026 (P : Params) : Obj := (tu [(vi 17179869183 24408), (vi 94 24402)])
noncomputable def o2027 (P : Params) : Obj := (tu [(vi 8589934591 24415), (vi 95 24409)])
noncomputable def o2028 (P : Params) : Obj := (tu [(vi 4294967295 24422), (vi 96 24416)])
noncomputable def o2029 (P : Params) : Obj := (tu [(vi 2147483647 24429), (vi 97 24423)])
noncomputable def o2030 (P : Params) : Obj := (tu [(vi 1073741823 24436), (vi 98 24430)])
noncomputable def o2031 (P : Params) : Obj := (tu [(vi 536870911 24443), (vi 99 24437)])
noncomputable def o2032 (P : Params) : Obj := (tu [(vi 268435455 24450), (vi 100 24444)])
noncomputable def o2033 (P : Params) : Obj := (tu [(vi 134217727 24457), (vi 101 24451)])
noncomputable def o2034 (P : Params) : Obj := (tu [(vi 67108863 24464), (vi 102 24458)])
noncomputable def o2035 (P : Params) : Obj := (tu [(vi 33554431 24471), (vi 103 24465)])
noncomputable def o2036 (P : Params) : Obj := (tu [(vi 16777215 24478), (vi 104 24472)])
noncomputable def o2037 (P : Params) : Obj := (tu [(vi 8388607 24485), (vi 105 24479)])
noncomputable def o2038 (P : Params) : Obj := (tu [(vi 4194303 24492), (vi 106 24486)])
noncomputable def o2039 (P : Params) : Obj := (tu [(vi 2097151 24499), (vi 107 24493)])
noncomputable def o2040 (P : Params) : Obj := (tu [(vi 1048575 24506), (vi 108 24500)])
noncomputable def o2041 (P : Params) : Obj := (tu [(vi 524287 24513), (vi 109 24507)])
noncomputable def o2042 (P : Params) : Obj := (tu [(vi 262143 24520), (vi 110 24514)])
noncomputable def o2043 (P : Params) : Obj := (tu [(vi 131071 24527), (vi 111 24521)])
noncomputable def o2044 (P : Params) : Obj := (tu [(vi 65535 24534), (vi 112 24528)])
noncomputable def o2045 (P : Params) : Obj := (tu [(vi 32767 24541), (vi 113 24535)])
noncomputable def o2046 (P : Params) : Obj := (tu [(vi 16383 24548), (vi 114 24542)])
noncomputable def o2047 (P : Params) : Obj := (tu [(vi 8191 24555), (vi 115 24549)])
noncomputable def o2048 (P : Params) : Obj := (tu [(vi 4095 24562), (vi 116 24556)])
noncomputable def o2049 (P : Params) : Obj := (tu [(vi 2047 24569), (vi 117 24563)])
noncomputable def o2050 (P : Params) : Obj := (tu [(vi 1023 24576), (vi 118 24570)])
noncomputable def o2051 (P : Params) : Obj := (tu [(vi 511 24583), (vi 119 24577)])
noncomputable def o2052 (P : Params) : Obj := (tu [(vi 255 24590), (vi 120 24584)])
noncomputable def o2053 (P : Params) : Obj := (tu [(vi 127 24597), (vi 121 24591)])
noncomputable def o2054 (P : Params) : Obj := (tu [(vi 63 24604), (vi 122 24598)])
noncomputable def o2055 (P : Params) : Obj := (tu [(vi 31 24611), (vi 123 24605)])
noncomputable def o2056 (P : Params) : Obj := (tu [(vi 15 24618), (vi 124 24612)])
noncomputable def o2057 (P : Params) : Obj := (tu [(vi 7 24625), (vi 125 24619)])
noncomputable def o2058 (P : Params) : Obj := (tu [(vi 3 24632), (vi 126 24626)])
noncomputable def o2059 (P : Params) : Obj := (tu [(vi 1 24639), (vi 127 24633)])
noncomputable def o2060 (P : Params) : Obj := (tu [(vi 0 24646), (vi 128 24640)])
noncomputable def o2061 (P : Params) : Obj := (tu [])
noncomputable def o2062 (P : Params) : Obj := (fo "StopIteration" [(vr 2061), Value.none, Value.none, Value.none, (Value.bool false), Value.none])
noncomputable def o2063 (P : Params) : Obj := (di [(DictEntry.mk 63 (vi 340282366920938463463374607431768211455 23750) (vi 0 23744)), (DictEntry.mk 31 (vi 170141183460469231731687303715884105727 23757) (vi 1 23751)), (DictEntry.mk 15 (vi 85070591730234615865843651857942052863 23764) (vi 2 23758)), (DictEntry.mk 7 (vi 42535295865117307932921825928971026431 23771) (vi 3 23765)), (DictEntry.mk 3 (vi 21267647932558653966460912964485513215 23778) (vi 4 23772)), (DictEntry.mk 1 (vi 10633823966279326983230456482242756607 23785) (vi 5 23779)), (DictEntry.mk 0 (vi 5316911983139663491615228241121378303 23792) (vi 6 23786)), (DictEntry.mk 1152921504606846975 (vi 2658455991569831745807614120560689151 23799) (vi 7 23793)), (DictEntry.mk 576460752303423487 (vi 1329227995784915872903807060280344575 23806) (vi 8 23800)), (DictEntry.mk 288230376151711743 (vi 664613997892457936451903530140172287 23813) (vi 9 23807)), (DictEntry.mk 144115188075855871 (vi 332306998946228968225951765070086143 23820) (vi 10 23814)), (DictEntry.mk 72057594037927935 (vi 166153499473114484112975882535043071 23827) (vi 11 23821)), (DictEntry.mk 36028797018963967 (vi 83076749736557242056487941267521535 23834) (vi 12 23828)), (DictEntry.mk 18014398509481983 (vi 41538374868278621028243970633760767 23841) (vi 13 23835)), (DictEntry.mk 9007199254740991 (vi 20769187434139310514121985316880383 23848) (vi 14 23842)), (DictEntry.mk 4503599627370495 (vi 10384593717069655257060992658440191 23855) (vi 15 23849)), (DictEntry.mk 2251799813685247 (vi 5192296858534827628530496329220095 23862) (vi 16 23856)), (DictEntry.mk 1125899906842623 (vi 2596148429267413814265248164610047 23869) (vi 17 23863)), (DictEntry.mk 562949953421311 (vi 1298074214633706907132624082305023 23876) (vi 18 23870)), (DictEntry.mk 281474976710655 (vi 649037107316853453566312041152511 23883) (vi 19 23877)), (DictEntry.mk 140737488355327 (vi 324518553658426726783156020576255 23890) (vi 20 23884)), (DictEntry.mk 70368744177663 (vi 162259276829213363391578010288127 23897) (vi 21 23891)), (DictEntry.mk 35184372088831 (vi 81129638414606681695789005144063 23904) (vi 22 23898)), (DictEntry.mk 17592186044415 (vi 40564819207303340847894502572031 23911) (vi 23 23905)), (DictEntry.mk 8796093022207 (vi 20282409603651670423947251286015 23918) (vi 24 23912)), (DictEntry.mk 4398046511103 (vi 10141204801825835211973625643007 23925) (vi 25 23919)), (DictEntry.mk 2199023255551 (vi 5070602400912917605986812821503 23932) (vi 26 23926)), (DictEntry.mk 1099511627775 (vi 2535301200456458802993406410751 23939) (vi 27 23933)), (DictEntry.mk 549755813887 (vi 1267650600228229401496703205375 23946) (vi 28 23940)), (DictEntry.mk 274877906943 (vi 633825300114114700748351602687 23953) (vi 29 23947)), (DictEntry.mk 137438953471 (vi 316912650057057350374175801343 23960) (vi 30 23954)), (DictEntry.mk 68719476735 (vi 158456325028528675187087900671 23967) (vi 31 23961)), (DictEntry.mk 34359738367 (vi 79228162514264337593543950335 23974) (vi 32 23968)), (DictEntry.mk 17179869183 (vi 39614081257132168796771975167 23981) (vi 33 23975)), (DictEntry.mk 8589934591 (vi 19807040628566084398385987583 23988) (vi 34 23982)), (DictEntry.mk 4294967295 (vi 9903520314283042199192993791 23995) (vi 35 23989)), (DictEntry.mk 2147483647 (vi 4951760157141521099596496895 24002) (vi 36 23996)), (DictEntry.mk 1073741823 (vi 2475880078570760549798248447 24009) (vi 37 24003)), (DictEntry.mk 536870911 (vi 1237940039285380274899124223 24016) (vi 38 24010)), (DictEntry.mk 268435455 (vi 618970019642690137449562111 24023) (vi 39 24017)), (DictEntry.mk 134217727 (vi 309485009821345068724781055 24030) (vi 40 24024)), (DictEntry.mk 67108863 (vi 154742504910672534362390527 24037) (vi 41 24031)), (DictEntry.mk 33554431 (vi 77371252455336267181195263 24044) (vi 42 24038)), (DictEntry.mk 16777215 (vi 38685626227668133590597631 24051) (vi 43 24045)), (DictEntry.mk 8388607 (vi 19342813113834066795298815 24058) (vi 44 24052)), (DictEntry.mk 4194303 (vi 9671406556917033397649407 24065) (vi 45 24059)), (DictEntry.mk 2097151 (vi 4835703278458516698824703 24072) (vi 46 24066)), (DictEntry.mk 1048575 (vi 2417851639229258349412351 24079) (vi 47 24073)), (DictEntry.mk 524287 (vi 1208925819614629174706175 24086) (vi 48 24080)), (DictEntry.mk 262143 (vi 604462909807314587353087 24093) (vi 49 24087)), (DictEntry.mk 131071 (vi 302231454903657293676543 24100) (vi 50 24094)), (DictEntry.mk 65535 (vi 151115727451828646838271 24107) (vi 51 24101)), (DictEntry.mk 32767 (vi 75557863725914323419135 24114) (vi 52 24108)), (DictEntry.mk 16383 (vi 37778931862957161709567 24121) (vi 53 24115)), (DictEntry.mk 8191 (vi 18889465931478580854783 24128) (vi 54 24122)), (DictEntry.mk 4095 (vi 9444732965739290427391 24135) (vi 55 24129)), (DictEntry.mk 2047 (vi 4722366482869645213695 24142) (vi 56 24136)), (DictEntry.mk 1023 (vi 2361183241434822606847 24149) (vi 57 24143)), (DictEntry.mk 511 (vi 1180591620717411303423 24156) (vi 58 24150)), (DictEntry.mk 255 (vi 590295810358705651711 24163) (vi 59 24157)), (DictEntry.mk 127 (vi 295147905179352825855 24170) (vi 60 24164)), (DictEntry.mk 63 (vi 147573952589676412927 24177) (vi 61 24171)), (DictEntry.mk 31 (vi 73786976294838206463 24184) (vi 62 24178)), (DictEntry.mk 15 (vi 36893488147419103231 24191) (vi 63 24185)), (DictEntry.mk 7 (vi 18446744073709551615 24198) (vi 64 24192)), (DictEntry.mk 3 (vi 9223372036854775807 24205) (vi 65 24199)), (DictEntry.mk 1 (vi 4611686018427387903 24212) (vi 66 24206)), (DictEntry.mk 0 (vi 2305843009213693951 24219) (vi 67 24213)), (DictEntry.mk 1152921504606846975 (vi 1152921504606846975 24226) (vi 68 24220)), (DictEntry.mk 576460752303423487 (vi 576460752303423487 24233) (vi 69 24227)), (DictEntry.mk 288230376151711743 (vi 288230376151711743 24240) (vi 70 24234)), (DictEntry.mk 144115188075855871 (vi 144115188075855871 24247) (vi 71 24241)), (DictEntry.mk 72057594037927935 (vi 72057594037927935 24254) (vi 72 24248)), (DictEntry.mk 36028797018963967 (vi 36028797018963967 24261) (vi 73 24255)), (DictEntry.mk 18014398509481983 (vi 18014398509481983 24268) (vi 74 24262)), (DictEntry.mk 9007199254740991 (vi 9007199254740991 24275) (vi 75 24269)), (DictEntry.mk 4503599627370495 (vi 4503599627370495 24282) (vi 76 24276)), (DictEntry.mk 2251799813685247 (vi 2251799813685247 24289) (vi 77 24283)), (DictEntry.mk 1125899906842623 (vi 1125899906842623 24296) (vi 78 24290)), (DictEntry.mk 562949953421311 (vi 562949953421311 24303) (vi 79 24297)), (DictEntry.mk 281474976710655 (vi 281474976710655 24310) (vi 80 24304)), (DictEntry.mk 140737488355327 (vi 140737488355327 24317) (vi 81 24311)), (DictEntry.mk 70368744177663 (vi 70368744177663 24324) (vi 82 24318)), (DictEntry.mk 35184372088831 (vi 35184372088831 24331) (vi 83 24325)), (DictEntry.mk 17592186044415 (vi 17592186044415 24338) (vi 84 24332)), (DictEntry.mk 8796093022207 (vi 8796093022207 24345) (vi 85 24339)), (DictEntry.mk 4398046511103 (vi 4398046511103 24352) (vi 86 24346)), (DictEntry.mk 2199023255551 (vi 2199023255551 24359) (vi 87 24353)), (DictEntry.mk 1099511627775 (vi 1099511627775 24366) (vi 88 24360)), (DictEntry.mk 549755813887 (vi 549755813887 24373) (vi 89 24367)), (DictEntry.mk 274877906943 (vi 274877906943 24380) (vi 90 24374)), (DictEntry.mk 137438953471 (vi 137438953471 24387) (vi 91 24381)), (DictEntry.mk 68719476735 (vi 68719476735 24394) (vi 92 24388)), (DictEntry.mk 34359738367 (vi 34359738367 24401) (vi 93 24395)), (DictEntry.mk 17179869183 (vi 17179869183 24408) (vi 94 24402)), (DictEntry.mk 8589934591 (vi 8589934591 24415) (vi 95 24409)), (DictEntry.mk 4294967295 (vi 4294967295 24422) (vi 96 24416)), (DictEntry.mk 2147483647 (vi 2147483647 24429) (vi 97 24423)), (DictEntry.mk 1073741823 (vi 1073741823 24436) (vi 98 24430)), (DictEntry.mk 536870911 (vi 536870911 24443) (vi 99 24437)), (DictEntry.mk 268435455 (vi 268435455 24450) (vi 100 24444)), (DictEntry.mk 134217727 (vi 134217727 24457) (vi 101 24451)), (DictEntry.mk 67108863 (vi 67108863 24464) (vi 102 24458)), (DictEntry.mk 33554431 (vi 33554431 24471) (vi 103 24465)), (DictEntry.mk 16777215 (vi 16777215 24478) (vi 104 24472)), (DictEntry.mk 8388607 (vi 8388607 24485) (vi 105 24479)), (DictEntry.mk 4194303 (vi 4194303 24492) (vi 106 24486)), (DictEntry.mk 2097151 (vi 2097151 24499) (vi 107 24493)), (DictEntry.mk 1048575 (vi 1048575 24506) (vi 108 24500)), (DictEntry.mk 524287 (vi 524287 24513) (vi 109 24507)), (DictEntry.mk 262143 (vi 262143 24520) (vi 110 24514)), (DictEntry.mk 131071 (vi 131071 24527) (vi 111 24521)), (DictEntry.mk 65535 (vi 65535 24534) (vi 112 24528)), (DictEntry.mk 32767 (vi 32767 24541) (vi 113 24535)), (DictEntry.mk 16383 (vi 16383 24548) (vi 114 24542)), (DictEntry.mk 8191 (vi 8191 24555) (vi 115 24549)), (DictEntry.mk 4095 (vi 4095 24562) (vi 116 24556)), (DictEntry.mk 2047 (vi 2047 24569) (vi 117 24563)), (DictEntry.mk 1023 (vi 1023 24576) (vi 118 24570)), (DictEntry.mk 511 (vi 511 24583) (vi 119 24577)), (DictEntry.mk 255 (vi 255 24590) (vi 120 24584)), (DictEntry.mk 127 (vi 127 24597) (vi 121 24591)), (DictEntry.mk 63 (vi 63 24604) (vi 122 24598)), (DictEntry.mk 31 (vi 31 24611) (vi 123 24605)), (DictEntry.mk 15 (vi 15 24618) (vi 124 24612)), (DictEntry.mk 7 (vi 7 24625) (vi 125 24619)), (DictEntry.mk 3 (vi 3 24632) (vi 126 24626)), (DictEntry.mk 1 (vi 1 24639) (vi 127 24633)), (DictEntry.mk 0 (vi 0 24646) (vi 128 24640))] 129)
noncomputable def o2064 (P : Params) : Obj := (tu [(vs "'list' object has no attribute 'keys'" 24648)])
noncomputable def o2065 (P : Params) : Obj := (fo "AttributeError" [(vr 2064), Value.none, Value.none, Value.none, (Value.bool false), Value.none, (vs "keys" 24649), (vr 1930)])
noncomputable def o2066 (P : Params) : Obj := (fo "list_iterator" [Value.none, (vi 129 0)])
noncomputable def o2067 (P : Params) : Obj := (tu [])
noncomputable def o2068 (P : Params) : Obj := (fo "StopIteration" [(vr 2067), Value.none, Value.none, Value.none, (Value.bool false), Value.none])
noncomputable def o2069 (P : Params) : Obj := (tu [(Value.type "object")])
noncomputable def o2070 (P : Params) : Obj := (fo "builtin_function_or_method" [(Value.builtin "type.__prepare__"), (Value.type "type")])
noncomputable def o2071 (P : Params) : Obj := (di [(de P "__module__" 24787 (vs "netaddr.strategy.ipv6" 21383)), (de P "__qualname__" 24789 (vs "ipv6_compact" 24788)), (de P "__firstlineno__" 24791 (vi 347 24790)), (de P "word_fmt" 24793 (vs "%x" 24792)), (de P "compact" 24794 (Value.bool true)), (de P "__static_attributes__" 24795 (vr 2076))] 6)
noncomputable def o2072 (P : Params) : Obj := (tu [])
noncomputable def o2073 (P : Params) : Obj := (Obj.mk Value.none none (Data.fields (List.toArray [])) #[])
noncomputable def o2074 (P : Params) : Obj := (fo "code" [(vs "ipv6_compact" 24782), (vs "ipv6_compact" 24783), (vs "/claim/cut.py" 24784), (vi 347 0), (vi 0 0), (vi 0 0), (vi 0 0), (vi 0 0), (vr 2072), (Value.bool false), (vi 181 0), (vr 2073), Value.none, Value.none, Value.none, Value.none, (vi 24785 0), (vi 347 0), (vs "/claim/cut.py" 24786)])
noncomputable def o2075 (P : Params) : Obj := (Obj.mk (Value.type "frame") none Data.plain (List.toArray [(some (vr 2074)), (some (vr 3)), (some (vr 2071)), none, (some (vs "netaddr.strategy.ipv6" 21383)), none, (some (vr 0))]))
noncomputable def o2076 (P : Params) : Obj := (tu [])
noncomputable def o2077 (P : Params) : Obj := (di [(de P "__module__" 24787 (vs "netaddr.strategy.ipv6" 21383)), (de P "__firstlineno__" 24791 (vi 347 24790)), (de P "word_fmt" 24793 (vs "%x" 24792)), (de P "compact" 24794 (Value.bool true)), (de P "__static_attributes__" 24795 (vr 2076)), (de P "__dict__" 24797 (vr 2079)), (de P "__weakref__" 24799 (vr 2080)), (de P "__doc__" 24800 Value.none)] 4)
noncomputable def o2078 (P : Params) : Obj := (Obj.mk (Value.type "type") none (Data.cls (ClassData.mk (Str.ofString "ipv6_compact") [(Value.type "object")] [(vr 2078), (Value.type "object")] 2077 (Str.ofString "ipv6_compact") true [] [] false none false)) (List.toArray [(some (vr 2069)), none, (some (vs "ipv6_compact" 24780)), (some (vs "ipv6_compact" 24788)), (some (Value.builtin "object.__new__")), (some (Value.bool true))]))
noncomputable def o2079 (P : Params) : Obj := (fo "getset_descriptor" [(vs "__dict__" 24796), (vr 2078), (Value.builtin "function.__dict__"), (Value.builtin "function.__dict__#set")])
noncomputable def o2080 (P : Params) : Obj := (fo "getset_descriptor" [(vs "__weakref__" 24798), (vr 2078), (Value.builtin "ExceptionGroup.__weakref__"), Value.none])
noncomputable def o2081 (P : Params) : Obj := (fo "super" [(vr 2078), (vr 2078), (vr 2078)])
noncomputable def o2082 (P : Params) : Obj := (fo "builtin_function_or_method" [(Value.builtin "object.__init_subclass__"), (vr 2078)])
noncomputable def o2083 (P : Params) : Obj := (tu [(vi 0 24803)])
noncomputable def o2084 (P : Params) : Obj := (tu [])
noncomputable def o2085 (P : Params) : Obj := (Obj.mk Value.none none (Data.fields (List.toArray [])) #[])
noncomputable def o2086 (P : Params) : Obj := (tu [(vs "addr" 24807), (vs "flags" 24808), (vs "packed_int" 24809)])
noncomputable def o2087 (P : Params) : Obj := (tu [])
noncomputable def o2088 (P : Params) : Obj := (Obj.mk Value.none none (Data.func (FuncData.mk (Str.ofString "str_to_int") (Str.ofString "str_to_int") (fA (st 60)) (FuncBody.stmts (fB (st 60))) (fS (st 60)) 0 [] Value.none Value.none Value.none Value.none none Value.none Value.none 0)) #[])
noncomputable def o2089 (P : Params) : Obj := (fo "code" [(vs "str_to_int" 24804), (vs "str_to_int" 24805), (vs "/claim/cut.py" 24806), (vi 350 0), (vi 2 0), (vi 0 0), (vi 0 0), (vi 3 0), (vr 2084), (Value.bool true), (vi 181 0), (vr 2085), Value.none, (vr 2086), (vr 2087), (vr 2088), (vi 24810 0), (vi 350 0), (vs "/claim/cut.py" 24811)])
noncomputable def o2090 (P : Params) : Obj := (Obj.mk (Value.type "function") none (Data.func (FuncData.mk (Str.ofString "str_to_int") (Str.ofString "str_to_int") (fA (st 60)) (FuncBody.stmts (fB (st 60))) (fS (st 60)) 3 [] (vr 2083) Value.none Value.none (vs "netaddr.strategy.ipv6" 21383) none (vr 2089) Value.none 0)) #[])
noncomputable def o2091 (P : Params) : Obj := (tu [Value.none])
noncomputable def o2092 (P : Params) : Obj := (tu [])
noncomputable def o2093 (P : Params) : Obj := (Obj.mk Value.none none (Data.fields (List.toArray [])) #[])
noncomputable def o2094 (P : Params) : Obj := (Obj.mk Value.none none (Data.func (FuncData.mk (Str.ofString "int_to_str") (Str.ofString "int_to_str") (fA (st 62)) (FuncBody.stmts (fB (st 62))) (fS (st 62)) 0 [] Value.none Value.none Value.none Value.none none Value.none Value.none 0)) #[])
noncomputable def o2095 (P : Params) : Obj := (fo "code" [(vs "int_to_str" 24814), (vs "int_to_str" 24815), (vs "/claim/cut.py" 24816), (vi 357 0), (vi 2 0), (vi 0 0), (vi 0 0), (vi 3 0), (vr 2092), (Value.bool true), (vi 181 0), (vr 2093), Value.none, Value.none, Value.none, (vr 2094), (vi 24817 0), (vi 357 0), (vs "/claim/cut.py" 24818)])
noncomputable def o2096 (P : Params) : Obj := (Obj.mk (Value.type "function") none (Data.func (FuncData.mk (Str.ofString "int_to_str") (Str.ofString "int_to_str") (fA (st 62)) (FuncBody.stmts (fB (st 62))) (fS (st 62)) 3 [] (vr 2091) Value.none Value.none (vs "netaddr.strategy.ipv6" 21383) none (vr 2095) Value.none 0)) #[])
noncomputable def o2097 (P : Params) : Obj := (tu [])
noncomputable def o2098 (P : Params) : Obj := (Obj.mk Value.none none (Data.fields (List.toArray [])) #[])
noncomputable def o2099 (P : Params) : Obj := (Obj.mk Value.none none (Data.func (FuncData.mk (Str.ofString "int_to_packed") (Str.ofString "int_to_packed") (fA (st 64)) (FuncBody.stmts (fB (st 64))) (fS (st 64)) 0 [] Value.none Value.none Value.none Value.none none Value.none Value.none 0)) #[])
noncomputable def o2100 (P : Params) : Obj := (fo "code" [(vs "int_to_packed" 24821), (vs "int_to_packed" 24822), (vs "/claim/cut.py" 24823), (vi 373 0), (vi 1 0), (vi 0 0), (vi 0 0), (vi 3 0), (vr 2097), (Value.bool true), (vi 181 0), (vr 2098), Value.none, Value.none, Value.none, (vr 2099), (vi 24824 0), (vi 373 0), (vs "/claim/cut.py" 24825)])
noncomputable def o2101 (P : Params) : Obj := (Obj.mk (Value.type "function") none (Data.func (FuncData.mk (Str.ofString "int_to_packed") (Str.ofString "int_to_packed") (fA (st 64)) (FuncBody.stmts (fB (st 64))) (fS (st 64)) 3 [] Value.none Value.none Value.none (vs "netaddr.strategy.ipv6" 21383) none (vr 2100) Value.none 0)) #[])
noncomputable def o2102 (P : Params) : Obj := (tu [])
noncomputable def o2103 (P : Params) : Obj := (Obj.mk Value.none none (Data.fields (List.toArray [])) #[])
noncomputable def o2104 (P : Params) : Obj := (Obj.mk Value.none none (Data.func (FuncData.mk (Str.ofString "packed_to_int") (Str.ofString "packed_to_int") (fA (st 66)) (FuncBody.stmts (fB (st 66))) (fS (st 66)) 0 [] Value.none Value.none Value.none Value.none none Value.none Value.none 0)) #[])
noncomputable def o2105 (P : Params) : Obj := (fo "code" [(vs "packed_to_int" 24828), (vs "packed_to_int" 24829), (vs "/claim/cut.py" 24830), (vi 377 0), (vi 1 0), (vi 0 0), (vi 0 0), (vi 3 0), (vr 2102), (Value.bool true), (vi 181 0), (vr 2103), Value.none, Value.none, Value.none, (vr 2104), (vi 24831 0), (vi 377 0), (vs "/claim/cut.py" 24832)])
noncomputable def o2106 (P : Params) : Obj := (Obj.mk (Value.type "function") none (Data.func (FuncData.mk (Str.ofString "packed_to_int") (Str.ofString "packed_to_int") (fA (st 66)) (FuncBody.stmts (fB (st 66))) (fS (st 66)) 3 [] Value.none Value.none Value.none (vs "netaddr.strategy.ipv6" 21383) none (vr 2105) Value.none 0)) #[])
noncomputable def o2107 (P : Params) : Obj := (tu [Value.none, Value.none])
noncomputable def o2108 (P : Params) : Obj := (tu [])
noncomputable def o2109 (P : Params) : Obj := (Obj.mk Value.none none (Data.fields (List.toArray [])) #[])
noncomputable def o2110 (P : Params) : Obj := (tu [(vs "int_val" 24837), (vs "num_words" 24838), (vs "word_size" 24839)])
noncomputable def o2111 (P : Params) : Obj := (tu [])
noncomputable def o2112 (P : Params) : Obj := (Obj.mk Value.none none (Data.func (FuncData.mk (Str.ofString "int_to_words") (Str.ofString "int_to_words") (fA (st 67)) (FuncBody.stmts (fB (st 67))) (fS (st 67)) 0 [] Value.none Value.none Value.none Value.none none Value.none Value.none 0)) #[])
noncomputable def o2113 (P : Params) : Obj := (fo "code" [(vs "int_to_words" 24834), (vs "int_to_words" 24835), (vs "/claim/cut.py" 24836), (vi 387 0), (vi 3 0), (vi 0 0), (vi 0 0), (vi 3 0), (vr 2108), (Value.bool true), (vi 181 0), (vr 2109), Value.none, (vr 2110), (vr 2111), (vr 2112), (vi 24840 0), (vi 387 0), (vs "/claim/cut.py" 24841)])
noncomputable def o2114 (P : Params) : Obj := (Obj.mk (Value.type "function") none (Data.func (FuncData.mk (Str.ofString "int_to_words") (Str.ofString "int_to_words") (fA (st 67)) (FuncBody.stmts (fB (st 67))) (fS (st 67)) 3 [] (vr 2107) Value.none Value.none (vs "netaddr.strategy.ipv6" 21383) none (vr 2113) Value.none 0)) #[])
noncomputable def o2115 (P : Params) : Obj := (tu [Value.none])
noncomputable def o2116 (P : Params) : Obj := (tu [])
noncomputable def o2117 (P : Params) : Obj := (Obj.mk Value.none none (Data.fields (List.toArray [])) #[])
noncomputable def o2118 (P : Params) : Obj := (tu [(vs "int_val" 24847), (vs "word_sep" 24848)])
noncomputable def o2119 (P : Params) : Obj := (tu [])
noncomputable def o2120 (P : Params) : Obj := (Obj.mk Value.none none (Data.func (FuncData.mk (Str.ofString "int_to_bits") (Str.ofString "int_to_bits") (fA (st 69)) (FuncBody.stmts (fB (st 69))) (fS (st 69)) 0 [] Value.none Value.none Value.none Value.none none Value.none Value.none 0)) #[])
noncomputable def o2121 (P : Params) : Obj := (fo "code" [(vs "int_to_bits" 24844), (vs "int_to_bits" 24845), (vs "/claim/cut.py" 24846), (vi 394 0), (vi 2 0), (vi 0 0), (vi 0 0), (vi 3 0), (vr 2116), (Value.bool true), (vi 181 0), (vr 2117), Value.none, (vr 2118), (vr 2119), (vr 2120), (vi 24849 0), (vi 394 0), (vs "/claim/cut.py" 24850)])
noncomputable def o2122 (P : Params) : Obj := (Obj.mk (Value.type "function") none (Data.func (FuncData.mk (Str.ofString "int_to_bits") (Str.ofString "int_to_bits") (fA (st 69)) (FuncBody.stmts (fB (st 69))) (fS (st 69)) 3 [] (vr 2115) Value.none Value.none (vs "netaddr.strategy.ipv6" 21383) none (vr 2121) Value.none 0)) #[])
noncomputable def o2123 (P : Params) : Obj := (tu [(Value.type "object")])
noncomputable def o2124 (P : Params) : Obj := (fo "builtin_function_or_method" [(Value.builtin "type.__prepare__"), (Value.type "type")])
noncomputable def o2125 (P : Params) : Obj := (di [(de P "__module__" 24860 (vs "netaddr.strategy.ipv6" 21383)), (de P "__qualname__" 24862 (vs "Ipv6Names" 24861)), (de P "__firstlineno__" 24864 (vi 399 24863)), (de P "__init__" 24871 (vr 2136)), (de P "str_to_int" 24881 (vr 2144)), (de P "int_to_str" 24890 (vr 2152)), (de P "int_to_arpa" 24898 (vr 2159)), (de P "int_to_packed" 24906 (vr 2166)), (de P "int_to_words" 24914 (vr 2173)), (de P "int_to_bits" 24923 (vr 2181)), (de P "int_to_bin" 24931 (vr 2188)), (de P "__static_attributes__" 24939 (vr 2189))] 12)
noncomputable def o2126 (P : Params) : Obj := (tu [])
noncomputable def o2127 (P : Params) : Obj := (Obj.mk Value.none none (Data.fields (List.toArray [(vi 401 0), (vi 4 0), (vr 2135), (vi 410 0), (vi 4 0), (vr 2143), (vi 413 0), (vi 4 0), (vr 2151), (vi 416 0), (vi 4 0), (vr 2158), (vi 419 0), (vi 4 0), (vr 2165), (vi 422 0), (vi 4 0), (vr 2172), (vi 425 0), (vi 4 0), (vr 2180), (vi 428 0), (vi 4 0), (vr 2187)])) #[])
noncomputable def o2128 (P : Params) : Obj := (fo "code" [(vs "Ipv6Names" 24855), (vs "Ipv6Names" 24856), (vs "/claim/cut.py" 24857), (vi 399 0), (vi 0 0), (vi 0 0), (vi 0 0), (vi 0 0), (vr 2126), (Value.bool false), (vi 181 0), (vr 2127), Value.none, Value.none, Value.none, Value.none, (vi 24858 0), (vi 399 0), (vs "/claim/cut.py" 24859)])
noncomputable def o2129 (P : Params) : Obj := (Obj.mk (Value.type "frame") none Data.plain (List.toArray [(some (vr 2128)), (some (vr 3)), (some (vr 2125)), none, (some (vs "netaddr.strategy.ipv6" 21383)), none, (some (vr 0))]))
noncomputable def o2130 (P : Params) : Obj := (tu [])
noncomputable def o2131 (P : Params) : Obj := (Obj.mk Value.none none (Data.fields (List.toArray [])) #[])
noncomputable def o2132 (P : Params) : Obj := (tu [(vs "self" 24868)])
noncomputable def o2133 (P : Params) : Obj := (tu [])
noncomputable def o2134 (P : Params) : Obj := (Obj.mk Value.none none (Data.func (FuncData.mk (Str.ofString "__init__") (Str.ofString "Ipv6Names.__init__") (fA (inC (st 71) 0)) (FuncBody.stmts (fB (inC (st 71) 0))) (fS (inC (st 71) 0)) 0 [] Value.none Value.none Value.none Value.none none Value.none Value.none 0)) #[])
noncomputable def o2135 (P : Params) : Obj := (fo "code" [(vs "__init__" 24865), (vs "Ipv6Names.__init__" 24866), (vs "/claim/cut.py" 24867), (vi 401 0), (vi 1 0), (vi 0 0), (vi 0 0), (vi 3 0), (vr 2130), (Value.bool true), (vi 181 0), (vr 2131), Value.none, (vr 2132), (vr 2133), (vr 2134), (vi 24869 0), (vi 401 0), (vs "/claim/cut.py" 24870)])
noncomputable def o2136 (P : Params) : Obj := (Obj.mk (Value.type "function") none (Data.func (FuncData.mk (Str.ofString "__init__") (Str.ofString "Ipv6Names.__init__") (fA (inC (st 71) 0)) (FuncBody.stmts (fB (inC (st 71) 0))) (fS (inC (st 71) 0)) 3 [] Value.none Value.none Value.none (vs "netaddr.strategy.ipv6" 21383) none (vr 2135) Value.none 0)) #[])
noncomputable def o2137 (P : Params) : Obj := (tu [(vi 0 24872)])
noncomputable def o2138 (P : Params) : Obj := (tu [])
noncomputable def o2139 (P : Params) : Obj := (Obj.mk Value.none none (Data.fields (List.toArray [])) #[])
noncomputable def o2140 (P : Params) : Obj := (tu [(vs "self" 24876), (vs "addr" 24877), (vs "flags" 24878)])
noncomputable def o2141 (P : Params) : Obj := (tu [])
noncomputable def o2142 (P : Params) : Obj := (Obj.mk Value.none none (Data.func (FuncData.mk (Str.ofString "str_to_int") (Str.ofString "Ipv6Names.str_to_int") (fA (inC (st 71) 1)) (FuncBody.stmts (fB (inC (st 71) 1))) (fS (inC (st 71) 1)) 0 [] Value.none Value.none Value.none Value.none none Value.none Value.none 0)) #[])
noncomputable def o2143 (P : Params) : Obj := (fo "code" [(vs "str_to_int" 24873), (vs "Ipv6Names.str_to_int" 24874), (vs "/claim/cut.py" 24875), (vi 410 0), (vi 3 0), (vi 0 0), (vi 0 0), (vi 3 0), (vr 2138), (Value.bool true), (vi 181 0), (vr 2139), Value.none, (vr 2140), (vr 2141), (vr 2142), (vi 24879 0), (vi 410 0), (vs "/claim/cut.py" 24880)])
noncomputable def o2144 (P : Params) : Obj := (Obj.mk (Value.type "function") none (Data.func (FuncData.mk (Str.ofString "str_to_int") (Str.ofString "Ipv6Names.str_to_int") (fA (inC (st 71) 1)) (FuncBody.stmts (fB (inC (st 71) 1))) (fS (inC (st 71) 1)) 3 [] (vr 2137) Value.none Value.none (vs "netaddr.strategy.ipv6" 21383) none (vr 2143) Value.none 0)) #[])
noncomputable def o2145 (P : Params) : Obj := (tu [Value.none])
noncomputable def o2146 (P : Params) : Obj := (tu [])
noncomputable def o2147 (P : Params) : Obj := (Obj.mk Value.none none (Data.fields (List.toArray [])) #[])
noncomputable def o2148 (P : Params) : Obj := (tu [(vs "self" 24885), (vs "int_val" 24886), (vs "dialect" 24887)])
noncomputable def o2149 (P : Params) : Obj := (tu [])
noncomputable def o2150 (P : Params) : Obj := (Obj.mk Value.none none (Data.func (FuncData.mk (Str.ofString "int_to_str") (Str.ofString "Ipv6Names.int_to_str") (fA (inC (st 71) 2)) (FuncBody.stmts (fB (inC (st 71) 2))) (fS (inC (st 71) 2)) 0 [] Value.none Value.none Value.none Value.none none Value.none Value.none 0)) #[])
noncomputable def o2151 (P : Params) : Obj := (fo "code" [(vs "int_to_str" 24882), (vs "Ipv6Names.int_to_str" 24883), (vs "/claim/cut.py" 24884), (vi 413 0), (vi 3 0), (vi 0 0), (vi 0 0), (vi 3 0), (vr 2146), (Value.bool true), (vi 181 0), (vr 2147), Value.none, (vr 2148), (vr 2149), (vr 2150), (vi 24888 0), (vi 413 0), (vs "/claim/cut.py" 24889)])
noncomputable def o2152 (P : Params) : Obj := (Obj.mk (Value.type "function") none (Data.func (FuncData.mk (Str.ofString "int_to_str") (Str.ofString "Ipv6Names.int_to_str") (fA (inC (st 71) 2)) (FuncBody.stmts (fB (inC (st 71) 2))) (fS (inC (st 71) 2)) 3 [] (vr 2145) Value.none Value.none (vs "netaddr.strategy.ipv6" 21383) none (vr 2151) Value.none 0)) #[])
noncomputable def o2153 (P : Params) : Obj := (tu [])
noncomputable def o2154 (P : Params) : Obj := (Obj.mk Value.none none (Data.fields (List.toArray [])) #[])
noncomputable def o2155 (P : Params) : Obj := (tu [(vs "self" 24894), (vs "int_val" 24895)])
noncomputable def o2156 (P : Params) : Obj := (tu [])
noncomputable def o2157 (P : Params) : Obj := (Obj.mk Value.none none (Data.func (FuncData.mk (Str.ofString "int_to_arpa") (Str.ofString "Ipv6Names.int_to_arpa") (fA (inC (st 71) 3)) (FuncBody.stmts (fB (inC (st 71) 3))) (fS (inC (st 71) 7)) 0 [] Value.none Value.none Value.none Value.none none Value.none Value.none 0)) #[])
noncomputable def o2158 (P : Params) : Obj := (fo "code" [(vs "int_to_arpa" 24891), (vs "Ipv6Names.int_to_arpa" 24892), (vs "/claim/cut.py" 24893), (vi 416 0), (vi 2 0), (vi 0 0), (vi 0 0), (vi 3 0), (vr 2153), (Value.bool true), (vi 181 0), (vr 2154), Value.none, (vr 2155), (vr 2156), (vr 2157), (vi 24896 0), (vi 416 0), (vs "/claim/cut.py" 24897)])
noncomputable def o2159 (P : Params) : Obj := (Obj.mk (Value.type "function") none (Data.func (FuncData.mk (Str.ofString "int_to_arpa") (Str.ofString "Ipv6Names.int_to_arpa") (fA (inC (st 71) 3)) (FuncBody.stmts (fB (inC (st 71) 3))) (fS (inC (st 71) 7)) 3 [] Value.none Value.none Value.none (vs "netaddr.strategy.ipv6" 21383) none (vr 2158) Value.none 0)) #[])
noncomputable def o2160 (P : Params) : Obj := (tu [])
noncomputable def o2161 (P : Params) : Obj := (Obj.mk Value.none none (Data.fields (List.toArray [])) #[])
noncomputable def o2162 (P : Params) : Obj := (tu [(vs "self" 24902), (vs "int_val" 24903)])
noncomputable def o2163 (P : Params) : Obj := (tu [])
noncomputable def o2164 (P : Params) : Obj := (Obj.mk Value.none none (Data.func (FuncData.mk (Str.ofString "int_to_packed") (Str.ofString "Ipv6Names.int_to_packed") (fA (inC (st 71) 4)) (FuncBody.stmts (fB (inC (st 71) 4))) (fS (inC (st 71) 4)) 0 [] Value.none Value.none Value.none Value.none none Value.none Value.none 0)) #[])
noncomputable def o2165 (P : Params) : Obj := (fo "code" [(vs "int_to_packed" 24899), (vs "Ipv6Names.int_to_packed" 24900), (vs "/claim/cut.py" 24901), (vi 419 0), (vi 2 0), (vi 0 0), (vi 0 0), (vi 3 0), (vr 2160), (Value.bool true), (vi 181 0), (vr 2161), Value.none, (vr 2162), (vr 2163), (vr 2164), (vi 24904 0), (vi 419 0), (vs "/claim/cut.py" 24905)])
noncomputable def o2166 (P : Params) : Obj := (Obj.mk (Value.type "function") none (Data.func (FuncData.mk (Str.ofString "int_to_packed") (Str.ofString "Ipv6Names.int_to_packed") (fA (inC (st 71) 4)) (FuncBody.stmts (fB (inC (st 71) 4))) (fS (inC (st 71) 4)) 3 [] Value.none Value.none Value.none (vs "netaddr.strategy.ipv6" 21383) none (vr 2165) Value.none 0)) #[])
noncomputable def o2167 (P : Params) : Obj := (tu [])
noncomputable def o2168 (P : Params) : Obj := (Obj.mk Value.none none (Data.fields (List.toArray [])) #[])
noncomputable def o2169 (P : Params) : Obj := (tu [(vs "self" 24910), (vs "int_val" 24911)])
noncomputable def o2170 (P : Params) : Obj := (tu [])
noncomputable def o2171 (P : Params) : Obj := (Obj.mk Value.none none (Data.func (FuncData.mk (Str.ofString "int_to_words") (Str.ofString "Ipv6Names.int_to_words") (fA (inC (st 71) 5)) (FuncBody.stmts (fB (inC (st 71) 5))) (fS (inC (st 71) 5)) 0 [] Value.none Value.none Value.none Value.none none Value.none Value.none 0)) #[])
noncomputable def o2172 (P : Params) : Obj := (fo "code" [(vs "int_to_words" 24907), (vs "Ipv6Names.int_to_words" 24908), (vs "/claim/cut.py" 24909), (vi 422 0), (vi 2 0), (vi 0 0), (vi 0 0), (vi 3 0), (vr 2167), (Value.bool true), (vi 181 0), (vr 2168), Value.none, (vr 2169), (vr 2170), (vr 2171), (vi 24912 0), (vi 422 0), (vs "/claim/cut.py" 24913)])
noncomputable def o2173 (P : Params) : Obj := (Obj.mk (Value.type "function") none (Data.func (FuncData.mk (Str.ofString "int_to_words") (Str.ofString "Ipv6Names.int_to_words") (fA (inC (st 71) 5)) (FuncBody.stmts (fB (inC (st 71) 5))) (fS (inC (st 71) 5)) 3 [] Value.none Value.none Value.none (vs "netaddr.strategy.ipv6" 21383) none (vr 2172) Value.none 0)) #[])
noncomputable def o2174 (P : Params) : Obj := (tu [Value.none])
noncomputable def o2175 (P : Params) : Obj := (tu [])
noncomputable def o2176 (P : Params) : Obj := (Obj.mk Value.none none (Data.fields (List.toArray [])) #[])
noncomputable def o2177 (P : Params) : Obj := (tu [(vs "self" 24918), (vs "int_val" 24919), (vs "word_sep" 24920)])
noncomputable def o2178 (P : Params) : Obj := (tu [])
noncomputable def o2179 (P : Params) : Obj := (Obj.mk Value.none none (Data.func (FuncData.mk (Str.ofString "int_to_bits") (Str.ofString "Ipv6Names.int_to_bits") (fA (inC (st 71) 6)) (FuncBody.stmts (fB (inC (st 71) 6))) (fS (inC (st 71) 6)) 0 [] Value.none Value.none Value.none Value.none none Value.none Value.none 0)) #[])
noncomputable def o2180 (P : Params) : Obj := (fo "code" [(vs "int_to_bits" 24915), (vs "Ipv6Names.int_to_bits" 24916), (vs "/claim/cut.py" 24917), (vi 425 0), (vi 3 0), (vi 0 0), (vi 0 0), (vi 3 0), (vr 2175), (Value.bool true), (vi 181 0), (vr 2176), Value.none, (vr 2177), (vr 2178), (vr 2179), (vi 24921 0), (vi 425 0), (vs "/claim/cut.py" 24922)])
noncomputable def o2181 (P : Params) : Obj := (Obj.mk (Value.type "function") none (Data.func (FuncData.mk (Str.ofString "int_to_bits") (Str.ofString "Ipv6Names.int_to_bits") (fA (inC (st 71) 6)) (FuncBody.stmts (fB (inC (st 71) 6))) (fS (inC (st 71) 6)) 3 [] (vr 2174) Value.none Value.none (vs "netaddr.strategy.ipv6" 21383) none (vr 2180) Value.none 0)) #[])
noncomputable def o2182 (P : Params) : Obj := (tu [])
noncomputable def o2183 (P : Params) : Obj := (Obj.mk Value.none none (Data.fields (List.toArray [])) #[])
noncomputable def o2184 (P : Params) : Obj := (tu [(vs "self" 24927), (vs "int_val" 24928)])
noncomputable def o2185 (P : Params) : Obj := (tu [])
noncomputable def o2186 (P : Params) : Obj := (Obj.mk Value.none none (Data.func (FuncData.mk (Str.ofString "int_to_bin") (Str.ofString "Ipv6Names.int_to_bin") (fA (inC (st 71) 7)) (FuncBody.stmts (fB (inC (st 71) 7))) (fS (inC (st 71) 7)) 0 [] Value.none Value.none Value.none Value.none none Value.none Value.none 0)) #[])
noncomputable def o2187 (P : Params) : Obj := (fo "code" [(vs "int_to_bin" 24924), (vs "Ipv6Names.int_to_bin" 24925), (vs "/claim/cut.py" 24926), (vi 428 0), (vi 2 0), (vi 0 0), (vi 0 0), (vi 3 0), (vr 2182), (Value.bool true), (vi 181 0), (vr 2183), Value.none, (vr 2184), (vr 2185), (vr 2186), (vi 24929 0), (vi 428 0), (vs "/claim/cut.py" 24930)])
noncomputable def o2188 (P : Params) : Obj := (Obj.mk (Value.type "function") none (Data.func (FuncData.mk (Str.ofString "int_to_bin") (Str.ofString "Ipv6Names.int_to_bin") (fA (inC (st 71) 7)) (FuncBody.stmts (fB (inC (st 71) 7))) (fS (inC (st 71) 7)) 3 [] Value.none Value.none Value.none (vs "netaddr.strategy.ipv6" 21383) none (vr 2187) Value.none 0)) #[])
noncomputable def o2189 (P : Params) : Obj := (tu [(vs "family_name" 24932), (vs "hostmask_to_prefix" 24933), (vs "max_int" 24934), (vs "netmask_to_prefix" 24935), (vs "prefix_to_netmask" 24936), (vs "version" 24937), (vs "width" 24938)])
noncomputable def o2190 (P : Params) : Obj := (di [(de P "__module__" 24860 (vs "netaddr.strategy.ipv6" 21383)), (de P "__firstlineno__" 24864 (vi 399 24863)), (de P "__init__" 24871 (vr 2136)), (de P "str_to_int" 24881 (vr 2144)), (de P "int_to_str" 24890 (vr 2152)), (de P "int_to_arpa" 24898 (vr 2159)), (de P "int_to_packed" 24906 (vr 2166)), (de P "int_to_words" 24914 (vr 2173)), (de P "int_to_bits" 24923 (vr 2181)), (de P "int_to_bin" 24931 (vr 2188)), (de P "__static_attributes__" 24939 (vr 2189)), (de P "__dict__" 24941 (vr 2192)), (de P "__weakref__" 24943 (vr 2193)), (de P "__doc__" 24944 Value.none)] 4)
noncomputable def o2191 (P : Params) : Obj := (Obj.mk (Value.type "type") none (Data.cls (ClassData.mk (Str.ofString "Ipv6Names") [(Value.type "object")] [(vr 2191), (Value.type "object")] 2190 (Str.ofString "Ipv6Names") true [] [] false none false)) (List.toArray [(some (vr 2123)), none, (some (vs "Ipv6Names" 24853)), (some (vs "Ipv6Names" 24861)), (some (Value.builtin "object.__new__")), (some (Value.bool true))]))
noncomputable def o2192 (P : Params) : Obj := (fo "getset_descriptor" [(vs "__dict__" 24940), (vr 2191), (Value.builtin "function.__dict__"), (Value.builtin "function.__dict__#set")])
noncomputable def o2193 (P : Params) : Obj := (fo "getset_descriptor" [(vs "__weakref__" 24942), (vr 2191), (Value.builtin "ExceptionGroup.__weakref__"), Value.none])
noncomputable def o2194 (P : Params) : Obj := (fo "super" [(vr 2191), (vr 2191), (vr 2191)])
noncomputable def o2195 (P : Params) : Obj := (fo "builtin_function_or_method" [(Value.builtin "object.__init_subclass__"), (vr 2191)])
noncomputable def o2196 (P : Params) : Obj := (di [(de P "width" 24949 (vi 128 21385)), (de P "family_name" 24951 (vs "IPv6" 21391)), (de P "version" 24953 (vi 6 21393)), (de P "max_int" 24955 (vi 340282366920938463463374607431768211455 21398)), (de P "prefix_to_netmask" 24957 (vr 1781)), (de P "netmask_to_prefix" 24959 (vr 1922)), (de P "hostmask_to_prefix" 24961 (vr 2063))] 7)
noncomputable def o2197 (P : Params) : Obj := (Obj.mk (vr 2191) (some 2196) Data.plain #[])
noncomputable def o2198 (P : Params) : Obj := (Obj.mk (Value.type "frame") none (Data.dict (List.toArray [(de P "self" 24947 (vr 2197))]) 1) #[])
noncomputable def o2199 (P : Params) : Obj := (tu [(Value.type "object")])
noncomputable def o2200 (P : Params) : Obj := (fo "builtin_function_or_method" [(Value.builtin "type.__prepare__"), (Value.type "type")])
noncomputable def o2201 (P : Params) : Obj := (di [(de P "__module__" 24972 (vs "netaddr.ip" 24963)), (de P "__qualname__" 24974 (vs "BaseIP" 24973)), (de P "__firstlineno__" 24976 (vi 432 24975)), (de P "__init__" 24983 (vr 2212)), (de P "_set_value" 24991 (vr 2219)), (de P "value" 24999 (vr 2236)), (de P "key" 25016 (vr 2243)), (de P "sort_key" 25023 (vr 2250)), (de P "__eq__" 25031 (vr 2257)), (de P "__ne__" 25039 (vr 2264)), (de P "__lt__" 25047 (vr 2271)), (de P "__le__" 25055 (vr 2278)), (de P "__gt__" 25063 (vr 2285)), (de P "__ge__" 25071 (vr 2292)), (de P "is_ipv4_mapped" 25078 (vr 2299)), (de P "is_ipv4_compat" 25085 (vr 2306)), (de P "version" 25093 (vr 2314)), (de P "__static_attributes__" 25096 (vr 2315))] 18)
noncomputable def o2202 (P : Params) : Obj := (tu [])
noncomputable def o2203 (P : Params) : Obj := (Obj.mk Value.none none (Data.fields (List.toArray [(vi 434 0), (vi 4 0), (vr 2211), (vi 438 0), (vi 4 0), (vr 2218), (vi 446 0), (vi 4 0), (vr 2225), (vi 450 0), (vi 4 0), (vr 2234), (vi 453 0), (vi 4 0), (vr 2242), (vi 456 0), (vi 4 0), (vr 2249), (vi 459 0), (vi 4 0), (vr 2256), (vi 465 0), (vi 4 0), (vr 2263), (vi 471 0), (vi 4 0), (vr 2270), (vi 477 0), (vi 4 0), (vr 2277), (vi 483 0), (vi 4 0), (vr 2284), (vi 489 0), (vi 4 0), (vr 2291), (vi 495 0), (vi 4 0), (vr 2298), (vi 498 0), (vi 4 0), (vr 2305), (vi 502 0), (vi 4 0), (vr 2312)])) #[])
noncomputable def o2204 (P : Params) : Obj := (fo "code" [(vs "BaseIP" 24967), (vs "BaseIP" 24968), (vs "/claim/cut.py" 24969), (vi 432 0), (vi 0 0), (vi 0 0), (vi 0 0), (vi 0 0), (vr 2202), (Value.bool false), (vi 181 0), (vr 2203), Value.none, Value.none, Value.none, Value.none, (vi 24970 0), (vi 432 0), (vs "/claim/cut.py" 24971)])
noncomputable def o2205 (P : Params) : Obj := (Obj.mk (Value.type "frame") none Data.plain (List.toArray [(some (vr 2204)), (some (vr 3)), (some (vr 2201)), none, (some (vs "netaddr.ip" 24963)), none, (some (vr 0))]))
noncomputable def o2206 (P : Params) : Obj := (tu [])
noncomputable def o2207 (P : Params) : Obj := (Obj.mk Value.none none (Data.fields (List.toArray [])) #[])
noncomputable def o2208 (P : Params) : Obj := (tu [(vs "self" 24980)])
noncomputable def o2209 (P : Params) : Obj := (tu [])
noncomputable def o2210 (P : Params) : Obj := (Obj.mk Value.none none (Data.func (FuncData.mk (Str.ofString "__init__") (Str.ofString "BaseIP.__init__") (fA (inC (st 74) 0)) (FuncBody.stmts (fB (inC (st 74) 0))) (fS (inC (st 79) 8)) 0 [] Value.none Value.none Value.none Value.none none Value.none Value.none 0)) #[])
noncomputable def o2211 (P : Params) : Obj := (fo "code" [(vs "__init__" 24977), (vs "BaseIP.__init__" 24978), (vs "/claim/cut.py" 24979), (vi 434 0), (vi 1 0), (vi 0 0), (vi 0 0), (vi 3 0), (vr 2206), (Value.bool true), (vi 181 0), (vr 2207), Value.none, (vr 2208), (vr 2209), (vr 2210), (vi 24981 0), (vi 434 0), (vs "/claim/cut.py" 24982)])
noncomputable def o2212 (P : Params) : Obj := by
  refine (fun (_ : inC (st 74) 0 = .FunctionDef ?n ?a ?b ?d ?r ?t ?s ?u ?v ?p) => (Obj.mk (Value.type "function") none (Data.func (FuncData.mk (Str.ofString "__init__") (Str.ofString "BaseIP.__init__") ?a (FuncBody.stmts ?b) ?s 3 [] Value.none Value.none Value.none (vs "netaddr.ip" 24963) none (vr 2211) Value.none 0)) #[])) ?e
  case e => rfl
noncomputable def o2213 (P : Params) : Obj := (tu [])
noncomputable def o2214 (P : Params) : Obj := (Obj.mk Value.none none (Data.fields (List.toArray [])) #[])
noncomputable def o2215 (P : Params) : Obj := (tu [(vs "self" 24987), (vs "value" 24988)])
noncomputable def o2216 (P : Params) : Obj := (tu [])
noncomputable def o2217 (P : Params) : Obj := (Obj.mk Value.none none (Data.func (FuncData.mk (Str.ofString "_set_value") (Str.ofString "BaseIP._set_value") (fA (inC (st 74) 1)) (FuncBody.stmts (fB (inC (st 74) 1))) (fS (inC (st 78) 1)) 0 [] Value.none Value.none Value.none Value.none none Value.none Value.none 0)) #[])
noncomputable def o2218 (P : Params) : Obj := (fo "code" [(vs "_set_value" 24984), (vs "BaseIP._set_value" 24985), (vs "/claim/cut.py" 24986), (vi 438 0), (vi 2 0), (vi 0 0), (vi 0 0), (vi 3 0), (vr 2213), (Value.bool true), (vi 181 0), (vr 2214), Value.none, (vr 2215), (vr 2216), (vr 2217), (vi 24989 0), (vi 438 0), (vs "/claim/cut.py" 24990)])
noncomputable def o2219 (P : Params) : Obj := (Obj.mk (Value.type "function") none (Data.func (FuncData.mk (Str.ofString "_set_value") (Str.ofString "BaseIP._set_value") (fA (inC (st 74) 1)) (FuncBody.stmts (fB (inC (st 74) 1))) (fS (inC (st 78) 1)) 3 [] Value.none Value.none Value.none (vs "netaddr.ip" 24963) none (vr 2218) Value.none 0)) #[])
noncomputable def o2220 (P : Params) : Obj := (tu [])
noncomputable def o2221 (P : Params) : Obj := (Obj.mk Value.none none (Data.fields (List.toArray [])) #[])
noncomputable def o2222 (P : Params) : Obj := (tu [(vs "self" 24995)])
noncomputable def o2223 (P : Params) : Obj := (tu [])
noncomputable def o2224 (P : Params) : Obj := (Obj.mk Value.none none (Data.func (FuncData.mk (Str.ofString "value") (Str.ofString "BaseIP.value") (fA (inC (st 74) 2)) (FuncBody.stmts (fB (inC (st 74) 2))) (fS (inC (st 79) 8)) 0 [] Value.none Value.none Value.none Value.none none Value.none Value.none 0)) #[])
noncomputable def o2225 (P : Params) : Obj := (fo "code" [(vs "value" 24992), (vs "BaseIP.value" 24993), (vs "/claim/cut.py" 24994), (vi 445 0), (vi 1 0), (vi 0 0), (vi 0 0), (vi 3 0), (vr 2220), (Value.bool true), (vi 181 0), (vr 2221), Value.none, (vr 2222), (vr 2223), (vr 2224), (vi 24996 0), (vi 445 0), (vs "/claim/cut.py" 24997)])
noncomputable def o2226 (P : Params) : Obj := by
  refine (fun (_ : inC (st 74) 2 = .FunctionDef ?n ?a ?b ?d ?r ?t ?s ?u ?v ?p) => (Obj.mk (Value.type "function") none (Data.func (FuncData.mk (Str.ofString "value") (Str.ofString "BaseIP.value") ?a (FuncBody.stmts ?b) ?s 3 [] Value.none Value.none Value.none (vs "netaddr.ip" 24963) none (vr 2225) Value.none 0)) #[])) ?e
  case e => rfl
noncomputable def o2227 (P : Params) : Obj := (fo "property" [(vr 2226), Value.none, Value.none, Value.none, (vi 0 0), (Value.bool false)])
noncomputable def o2228 (P : Params) : Obj := (fo "builtin_function_or_method" [(Value.builtin "property.setter"), (vr 2227)])
noncomputable def o2229 (P : Params) : Obj := (tu [])
noncomputable def o2230 (P : Params) : Obj := (Obj.mk Value.none none (Data.fields (List.toArray [])) #[])
noncomputable def o2231 (P : Params) : Obj := (tu [(vs "self" 25004), (vs "value" 25005)])
noncomputable def o2232 (P : Params) : Obj := (tu [])
noncomputable def o2233 (P : Params) : Obj := (Obj.mk Value.none none (Data.func (FuncData.mk (Str.ofString "value") (Str.ofString "BaseIP.value") (fA (inC (st 74) 3)) (FuncBody.stmts (fB (inC (st 74) 3))) (fS (inC (st 78) 3)) 0 [] Value.none Value.none Value.none Value.none none Value.none Value.none 0)) #[])
noncomputable def o2234 (P : Params) : Obj := (fo "code" [(vs "value" 25001), (vs "BaseIP.value" 25002), (vs "/claim/cut.py" 25003), (vi 449 0), (vi 2 0), (vi 0 0), (vi 0 0), (vi 3 0), (vr 2229), (Value.bool true), (vi 181 0), (vr 2230), Value.none, (vr 2231), (vr 2232), (vr 2233), (vi 25006 0), (vi 449 0), (vs "/claim/cut.py" 25007)])
noncomputable def o2235 (P : Params) : Obj := by
  refine (fun (_ : inC (st 74) 3 = .FunctionDef ?n ?a ?b ?d ?r ?t ?s ?u ?v ?p) => (Obj.mk (Value.type "function") none (Data.func (FuncData.mk (Str.ofString "value") (Str.ofString "BaseIP.value") ?a (FuncBody.stmts ?b) ?s 3 [] Value.none Value.none Value.none (vs "netaddr.ip" 24963) none (vr 2234) Value.none 0)) #[])) ?e
  case e => rfl
noncomputable def o2236 (P : Params) : Obj := (fo "property" [(vr 2226), (vr 2235), Value.none, Value.none, (vs "value" 24999), (Value.bool false)])
noncomputable def o2237 (P : Params) : Obj := (tu [])
noncomputable def o2238 (P : Params) : Obj := (Obj.mk Value.none none (Data.fields (List.toArray [])) #[])
noncomputable def o2239 (P : Params) : Obj := (tu [(vs "self" 25013)])
noncomputable def o2240 (P : Params) : Obj := (tu [])
noncomputable def o2241 (P : Params) : Obj := (Obj.mk Value.none none (Data.func (FuncData.mk (Str.ofString "key") (Str.ofString "BaseIP.key") (fA (inC (st 74) 4)) (FuncBody.stmts (fB (inC (st 74) 4))) (fS (inC (st 74) 5)) 0 [] Value.none Value.none Value.none Value.none none Value.none Value.none 0)) #[])
noncomputable def o2242 (P : Params) : Obj := (fo "code" [(vs "key" 25010), (vs "BaseIP.key" 25011), (vs "/claim/cut.py" 25012), (vi 453 0), (vi 1 0), (vi 0 0), (vi 0 0), (vi 3 0), (vr 2237), (Value.bool true), (vi 181 0), (vr 2238), Value.none, (vr 2239), (vr 2240), (vr 2241), (vi 25014 0), (vi 453 0), (vs "/claim/cut.py" 25015)])
noncomputable def o2243 (P : Params) : Obj := (Obj.mk (Value.type "function") none (Data.func (FuncData.mk (Str.ofString "key") (Str.ofString "BaseIP.key") (fA (inC (st 74) 4)) (FuncBody.stmts (fB (inC (st 74) 4))) (fS (inC (st 74) 5)) 3 [] Value.none Value.none Value.none (vs "netaddr.ip" 24963) none (vr 2242) Value.none 0)) #[])
noncomputable def o2244 (P : Params) : Obj := (tu [])
noncomputable def o2245 (P : Params) : Obj := (Obj.mk Value.none none (Data.fields (List.toArray [])) #[])
noncomputable def o2246 (P : Params) : Obj := (tu [(vs "self" 25020)])
noncomputable def o2247 (P : Params) : Obj := (tu [])
noncomputable def o2248 (P : Params) : Obj := (Obj.mk Value.none none (Data.func (FuncData.mk (Str.ofString "sort_key") (Str.ofString "BaseIP.sort_key") (fA (inC (st 74) 5)) (FuncBody.stmts (fB (inC (st 74) 5))) (fS (inC (st 74) 5)) 0 [] Value.none Value.none Value.none Value.none none Value.none Value.none 0)) #[])
noncomputable def o2249 (P : Params) : Obj := (fo "code" [(vs "sort_key" 25017), (vs "BaseIP.sort_key" 25018), (vs "/claim/cut.py" 25019), (vi 456 0), (vi 1 0), (vi 0 0), (vi 0 0), (vi 3 0), (vr 2244), (Value.bool true), (vi 181 0), (vr 2245), Value.none, (vr 2246), (vr 2247), (vr 2248), (vi 25021 0), (vi 456 0), (vs "/claim/cut.py" 25022)])
noncomputable def o2250 (P : Params) : Obj := (Obj.mk (Value.type "function") none (Data.func (FuncData.mk (Str.ofString "sort_key") (Str.ofString "BaseIP.sort_key") (fA (inC (st 74) 5)) (FuncBody.stmts (fB (inC (st 74) 5))) (fS (inC (st 74) 5)) 3 [] Value.none Value.none Value.none (vs "netaddr.ip" 24963) none (vr 2249) Value.none 0)) #[])
noncomputable def o2251 (P : Params) : Obj := (tu [])
noncomputable def o2252 (P : Params) : Obj := (Obj.mk Value.none none (Data.fields (List.toArray [])) #[])
noncomputable def o2253 (P : Params) : Obj := (tu [(vs "self" 25027), (vs "other" 25028)])
noncomputable def o2254 (P : Params) : Obj := (tu [])
noncomputable def o2255 (P : Params) : Obj := (Obj.mk Value.none none (Data.func (FuncData.mk (Str.ofString "__eq__") (Str.ofString "BaseIP.__eq__") (fA (inC (st 74) 6)) (FuncBody.stmts (fB (inC (st 74) 6))) (fS (inC (st 74) 11)) 0 [] Value.none Value.none Value.none Value.none none Value.none Value.none 0)) #[])
noncomputable def o2256 (P : Params) : Obj := (fo "code" [(vs "__eq__" 25024), (vs "BaseIP.__eq__" 25025), (vs "/claim/cut.py" 25026), (vi 459 0), (vi 2 0), (vi 0 0), (vi 0 0), (vi 3 0), (vr 2251), (Value.bool true), (vi 181 0), (vr 2252), Value.none, (vr 2253), (vr 2254), (vr 2255), (vi 25029 0), (vi 459 0), (vs "/claim/cut.py" 25030)])
noncomputable def o2257 (P : Params) : Obj := (Obj.mk (Value.type "function") none (Data.func (FuncData.mk (Str.ofString "__eq__") (Str.ofString "BaseIP.__eq__") (fA (inC (st 74) 6)) (FuncBody.stmts (fB (inC (st 74) 6))) (fS (inC (st 74) 11)) 3 [] Value.none Value.none Value.none (vs "netaddr.ip" 24963) none (vr 2256) Value.none 0)) #[])
noncomputable def o2258 (P : Params) : Obj := (tu [])
noncomputable def o2259 (P : Params) : Obj := (Obj.mk Value.none none (Data.fields (List.toArray [])) #[])
noncomputable def o2260 (P : Params) : Obj := (tu [(vs "self" 25035), (vs "other" 25036)])
noncomputable def o2261 (P : Params) : Obj := (tu [])
noncomputable def o2262 (P : Params) : Obj := (Obj.mk Value.none none (Data.func (FuncData.mk (Str.ofString "__ne__") (Str.ofString "BaseIP.__ne__") (fA (inC (st 74) 7)) (FuncBody.stmts (fB (inC (st 74) 7))) (fS (inC (st 74) 11)) 0 [] Value.none Value.none Value.none Value.none none Value.none Value.none 0)) #[])
noncomputable def o2263 (P : Params) : Obj := (fo "code" [(vs "__ne__" 25032), (vs "BaseIP.__ne__" 25033), (vs "/claim/cut.py" 25034), (vi 465 0), (vi 2 0), (vi 0 0), (vi 0 0), (vi 3 0), (vr 2258), (Value.bool true), (vi 181 0), (vr 2259), Value.none, (vr 2260), (vr 2261), (vr 2262), (vi 25037 0), (vi 465 0), (vs "/claim/cut.py" 25038)])
noncomputable def o2264 (P : Params) : Obj := (Obj.mk (Value.type "function") none (Data.func (FuncData.mk (Str.ofString "__ne__") (Str.ofString "BaseIP.__ne__") (fA (inC (st 74) 7)) (FuncBody.stmts (fB (inC (st 74) 7))) (fS (inC (st 74) 11)) 3 [] Value.none Value.none Value.none (vs "netaddr.ip" 24963) none (vr 2263) Value.none 0)) #[])
noncomputable def o2265 (P : Params) : Obj := (tu [])
noncomputable def o2266 (P : Params) : Obj := (Obj.mk Value.none none (Data.fields (List.toArray [])) #[])
noncomputable def o2267 (P : Params) : Obj := (tu [(vs "self" 25043), (vs "other" 25044)])
noncomputable def o2268 (P : Params) : Obj := (tu [])
noncomputable def o2269 (P : Params) : Obj := (Obj.mk Value.none none (Data.func (FuncData.mk (Str.ofString "__lt__") (Str.ofString "BaseIP.__lt__") (fA (inC (st 74) 8)) (FuncBody.stmts (fB (inC (st 74) 8))) (fS (inC (st 74) 11)) 0 [] Value.none Value.none Value.none Value.none none Value.none Value.none 0)) #[])
noncomputable def o2270 (P : Params) : Obj := (fo "code" [(vs "__lt__" 25040), (vs "BaseIP.__lt__" 25041), (vs "/claim/cut.py" 25042), (vi 471 0), (vi 2 0), (vi 0 0), (vi 0 0), (vi 3 0), (vr 2265), (Value.bool true), (vi 181 0), (vr 2266), Value.none, (vr 2267), (vr 2268), (vr 2269), (vi 25045 0), (vi 471 0), (vs "/claim/cut.py" 25046)])
noncomputable def o2271 (P : Params) : Obj := (Obj.mk (Value.type "function") none (Data.func (FuncData.mk (Str.ofString "__lt__") (Str.ofString "BaseIP.__lt__") (fA (inC (st 74) 8)) (FuncBody.stmts (fB (inC (st 74) 8))) (fS (inC (st 74) 11)) 3 [] Value.none Value.none Value.none (vs "netaddr.ip" 24963) none (vr 2270) Value.none 0)) #[])
noncomputable def o2272 (P : Params) : Obj := (tu [])
noncomputable def o2273 (P : Params) : Obj := (Obj.mk Value.none none (Data.fields (List.toArray [])) #[])
noncomputable def o2274 (P : Params) : Obj := (tu [(vs "self" 25051), (vs "other" 25052)])
noncomputable def o2275 (P : Params) : Obj := (tu [])
noncomputable def o2276 (P : Params) : Obj := (Obj.mk Value.none none (Data.func (FuncData.mk (Str.ofString "__le__") (Str.ofString "BaseIP.__le__") (fA (inC (st 74) 9)) (FuncBody.stmts (fB (inC (st 74) 9))) (fS (inC (st 74) 11)) 0 [] Value.none Value.none Value.none Value.none none Value.none Value.none 0)) #[])
noncomputable def o2277 (P : Params) : Obj := (fo "code" [(vs "__le__" 25048), (vs "BaseIP.__le__" 25049), (vs "/claim/cut.py" 25050), (vi 477 0), (vi 2 0), (vi 0 0), (vi 0 0), (vi 3 0), (vr 2272), (Value.bool true), (vi 181 0), (vr 2273), Value.none, (vr 2274), (vr 2275), (vr 2276), (vi 25053 0), (vi 477 0), (vs "/claim/cut.py" 25054)])
noncomputable def o2278 (P : Params) : Obj := (Obj.mk (Value.type "function") none (Data.func (FuncData.mk (Str.ofString "__le__") (Str.ofString "BaseIP.__le__") (fA (inC (st 74) 9)) (FuncBody.stmts (fB (inC (st 74) 9))) (fS (inC (st 74) 11)) 3 [] Value.none Value.none Value.none (vs "netaddr.ip" 24963) none (vr 2277) Value.none 0)) #[])
noncomputable def o2279 (P : Params) : Obj := (tu [])
noncomputable def o2280 (P : Params) : Obj := (Obj.mk Value.none none (Data.fields (List.toArray [])) #[])
noncomputable def o2281 (P : Params) : Obj := (tu [(vs "self" 25059), (vs "other" 25060)])
noncomputable def o2282 (P : Params) : Obj := (tu [])
noncomputable def o2283 (P : Params) : Obj := (Obj.mk Value.none none (Data.func (FuncData.mk (Str.ofString "__gt__") (Str.ofString "BaseIP.__gt__") (fA (inC (st 74) 10)) (FuncBody.stmts (fB (inC (st 74) 10))) (fS (inC (st 74) 11)) 0 [] Value.none Value.none Value.none Value.none none Value.none Value.none 0)) #[])
noncomputable def o2284 (P : Params) : Obj := (fo "code" [(vs "__gt__" 25056), (vs "BaseIP.__gt__" 25057), (vs "/claim/cut.py" 25058), (vi 483 0), (vi 2 0), (vi 0 0), (vi 0 0), (vi 3 0), (vr 2279), (Value.bool true), (vi 181 0), (vr 2280), Value.none, (vr 2281), (vr 2282), (vr 2283), (vi 25061 0), (vi 483 0), (vs "/claim/cut.py" 25062)])
noncomputable def o2285 (P : Params) : Obj := (Obj.mk (Value.type "function") none (Data.func (FuncData.mk (Str.ofString "__gt__") (Str.ofString "BaseIP.__gt__") (fA (inC (st 74) 10)) (FuncBody.stmts (fB (inC (st 74) 10))) (fS (inC (st 74) 11)) 3 [] Value.none Value.none Value.none (vs "netaddr.ip" 24963) none (vr 2284) Value.none 0)) #[])
noncomputable def o2286 (P : Params) : Obj := (tu [])
noncomputable def o2287 (P : Params) : Obj := (Obj.mk Value.none none (Data.fields (List.toArray [])) #[])
noncomputable def o2288 (P : Params) : Obj := (tu [(vs "self" 25067), (vs "other" 25068)])
noncomputable def o2289 (P : Params) : Obj := (tu [])
noncomputable def o2290 (P : Params) : Obj := (Obj.mk Value.none none (Data.func (FuncData.mk (Str.ofString "__ge__") (Str.ofString "BaseIP.__ge__") (fA (inC (st 74) 11)) (FuncBody.stmts (fB (inC (st 74) 11))) (fS (inC (st 74) 11)) 0 [] Value.none Value.none Value.none Value.none none Value.none Value.none 0)) #[])
noncomputable def o2291 (P : Params) : Obj := (fo "code" [(vs "__ge__" 25064), (vs "BaseIP.__ge__" 25065), (vs "/claim/cut.py" 25066), (vi 489 0), (vi 2 0), (vi 0 0), (vi 0 0), (vi 3 0), (vr 2286), (Value.bool true), (vi 181 0), (vr 2287), Value.none, (vr 2288), (vr 2289), (vr 2290), (vi 25069 0), (vi 489 0), (vs "/claim/cut.py" 25070)])
noncomputable def o2292 (P : Params) : Obj := (Obj.mk (Value.type "function") none (Data.func (FuncData.mk (Str.ofString "__ge__") (Str.ofString "BaseIP.__ge__") (fA (inC (st 74) 11)) (FuncBody.stmts (fB (inC (st 74) 11))) (fS (inC (st 74) 11)) 3 [] Value.none Value.none Value.none (vs "netaddr.ip" 24963) none (vr 2291) Value.none 0)) #[])
noncomputable def o2293 (P : Params) : Obj := (tu [])
noncomputable def o2294 (P : Params) : Obj := (Obj.mk Value.none none (Data.fields (List.toArray [])) #[])
noncomputable def o2295 (P : Params) : Obj := (tu [(vs "self" 25075)])
noncomputable def o2296 (P : Params) : Obj := (tu [])
noncomputable def o2297 (P : Params) : Obj := (Obj.mk Value.none none (Data.func (FuncData.mk (Str.ofString "is_ipv4_mapped") (Str.ofString "BaseIP.is_ipv4_mapped") (fA (inC (st 74) 12)) (FuncBody.stmts (fB (inC (st 74) 12))) (fS (inC (st 79) 6)) 0 [] Value.none Value.none Value.none Value.none none Value.none Value.none 0)) #[])
noncomputable def o2298 (P : Params) : Obj := (fo "code" [(vs "is_ipv4_mapped" 25072), (vs "BaseIP.is_ipv4_mapped" 25073), (vs "/claim/cut.py" 25074), (vi 495 0), (vi 1 0), (vi 0 0), (vi 0 0), (vi 3 0), (vr 2293), (Value.bool true), (vi 181 0), (vr 2294), Value.none, (vr 2295), (vr 2296), (vr 2297), (vi 25076 0), (vi 495 0), (vs "/claim/cut.py" 25077)])
noncomputable def o2299 (P : Params) : Obj := (Obj.mk (Value.type "function") none (Data.func (FuncData.mk (Str.ofString "is_ipv4_mapped") (Str.ofString "BaseIP.is_ipv4_mapped") (fA (inC (st 74) 12)) (FuncBody.stmts (fB (inC (st 74) 12))) (fS (inC (st 79) 6)) 3 [] Value.none Value.none Value.none (vs "netaddr.ip" 24963) none (vr 2298) Value.none 0)) #[])
noncomputable def o2300 (P : Params) : Obj := (tu [])
noncomputable def o2301 (P : Params) : Obj := (Obj.mk Value.none none (Data.fields (List.toArray [])) #[])
noncomputable def o2302 (P : Params) : Obj := (tu [(vs "self" 25082)])
noncomputable def o2303 (P : Params) : Obj := (tu [])
noncomputable def o2304 (P : Params) : Obj := (Obj.mk Value.none none (Data.func (FuncData.mk (Str.ofString "is_ipv4_compat") (Str.ofString "BaseIP.is_ipv4_compat") (fA (inC (st 74) 13)) (FuncBody.stmts (fB (inC (st 74) 13))) (fS (inC (st 79) 6)) 0 [] Value.none Value.none Value.none Value.none none Value.none Value.none 0)) #[])
noncomputable def o2305 (P : Params) : Obj := (fo "code" [(vs "is_ipv4_compat" 25079), (vs "BaseIP.is_ipv4_compat" 25080), (vs "/claim/cut.py" 25081), (vi 498 0), (vi 1 0), (vi 0 0), (vi 0 0), (vi 3 0), (vr 2300), (Value.bool true), (vi 181 0), (vr 2301), Value.none, (vr 2302), (vr 2303), (vr 2304), (vi 25083 0), (vi 498 0), (vs "/claim/cut.py" 25084)])
noncomputable def o2306 (P : Params) : Obj := (Obj.mk (Value.type "function") none (Data.func (FuncData.mk (Str.ofString "is_ipv4_compat") (Str.ofString "BaseIP.is_ipv4_compat") (fA (inC (st 74) 13)) (FuncBody.stmts (fB (inC (st 74) 13))) (fS (inC (st 79) 6)) 3 [] Value.none Value.none Value.none (vs "netaddr.ip" 24963) none (vr 2305) Value.none 0)) #[])
noncomputable def o2307 (P : Params) : Obj := (tu [])
noncomputable def o2308 (P : Params) : Obj := (Obj.mk Value.none none (Data.fields (List.toArray [])) #[])
noncomputable def o2309 (P : Params) : Obj := (tu [(vs "self" 25089)])
noncomputable def o2310 (P : Params) : Obj := (tu [])
noncomputable def o2311 (P : Params) : Obj := (Obj.mk Value.none none (Data.func (FuncData.mk (Str.ofString "version") (Str.ofString "BaseIP.version") (fA (inC (st 74) 14)) (FuncBody.stmts (fB (inC (st 74) 14))) (fS (inC (st 79) 8)) 0 [] Value.none Value.none Value.none Value.none none Value.none Value.none 0)) #[])
noncomputable def o2312 (P : Params) : Obj := (fo "code" [(vs "version" 25086), (vs "BaseIP.version" 25087), (vs "/claim/cut.py" 25088), (vi 501 0), (vi 1 0), (vi 0 0), (vi 0 0), (vi 3 0), (vr 2307), (Value.bool true), (vi 181 0), (vr 2308), Value.none, (vr 2309), (vr 2310), (vr 2311), (vi 25090 0), (vi 501 0), (vs "/claim/cut.py" 25091)])
noncomputable def o2313 (P : Params) : Obj := by
  refine (fun (_ : inC (st 74) 14 = .FunctionDef ?n ?a ?b ?d ?r ?t ?s ?u ?v ?p) => (Obj.mk (Value.type "function") none (Data.func (FuncData.mk (Str.ofString "version") (Str.ofString "BaseIP.version") ?a (FuncBody.stmts ?b) ?s 3 [] Value.none Value.none Value.none (vs "netaddr.ip" 24963) none (vr 2312) Value.none 0)) #[])) ?e
  case e => rfl
noncomputable def o2314 (P : Params) : Obj := (fo "property" [(vr 2313), Value.none, Value.none, Value.none, (vs "version" 25093), (Value.bool false)])
noncomputable def o2315 (P : Params) : Obj := (tu [(vs "_module" 25094), (vs "_value" 25095)])
noncomputable def o2316 (P : Params) : Obj := (di [(de P "__module__" 24972 (vs "netaddr.ip" 24963)), (de P "__firstlineno__" 24976 (vi 432 24975)), (de P "__init__" 24983 (vr 2212)), (de P "_set_value" 24991 (vr 2219)), (de P "value" 24999 (vr 2236)), (de P "key" 25016 (vr 2243)), (de P "sort_key" 25023 (vr 2250)), (de P "__eq__" 25031 (vr 2257)), (de P "__ne__" 25039 (vr 2264)), (de P "__lt__" 25047 (vr 2271)), (de P "__le__" 25055 (vr 2278)), (de P "__gt__" 25063 (vr 2285)), (de P "__ge__" 25071 (vr 2292)), (de P "is_ipv4_mapped" 25078 (vr 2299)), (de P "is_ipv4_compat" 25085 (vr 2306)), (de P "version" 25093 (vr 2314)), (de P "__static_attributes__" 25096 (vr 2315)), (de P "__dict__" 25098 (vr 2318)), (de P "__weakref__" 25100 (vr 2319)), (de P "__doc__" 25101 Value.none), (de P "__hash__" 25102 Value.none)] 5)
noncomputable def o2317 (P : Params) : Obj := (Obj.mk (Value.type "type") none (Data.cls (ClassData.mk (Str.ofString "BaseIP") [(Value.type "object")] [(vr 2317), (Value.type "object")] 2316 (Str.ofString "BaseIP") true [] [(vr 2565), (vr 2613)] false none false)) (List.toArray [(some (vr 2199)), none, (some (vs "BaseIP" 24965)), (some (vs "BaseIP" 24973)), (some (Value.builtin "object.__new__")), (some (Value.bool true))]))
noncomputable def o2318 (P : Params) : Obj := (fo "getset_descriptor" [(vs "__dict__" 25097), (vr 2317), (Value.builtin "function.__dict__"), (Value.builtin "function.__dict__#set")])
noncomputable def o2319 (P : Params) : Obj := (fo "getset_descriptor" [(vs "__weakref__" 25099), (vr 2317), (Value.builtin "ExceptionGroup.__weakref__"), Value.none])
noncomputable def o2320 (P : Params) : Obj := (fo "super" [(vr 2317), (vr 2317), (vr 2317)])
noncomputable def o2321 (P : Params) : Obj := (fo "builtin_function_or_method" [(Value.builtin "object.__init_subclass__"), (vr 2317)])
noncomputable def o2322 (P : Params) : Obj := (tu [(vr 2317)])
noncomputable def o2323 (P : Params) : Obj := (fo "builtin_function_or_method" [(Value.builtin "type.__prepare__"), (Value.type "type")])
noncomputable def o2324 (P : Params) : Obj := (di [(de P "__module__" 25112 (vs "netaddr.ip" 24963)), (de P "__qualname__" 25114 (vs "IPAddress" 25113)), (de P "__firstlineno__" 25116 (vi 504 25115)), (de P "__init__" 25129 (vr 2338)), (de P "netmask_bits" 25139 (vr 2345)), (de P "is_hostmask" 25147 (vr 2352)), (de P "is_netmask" 25155 (vr 2359)), (de P "__iadd__" 25164 (vr 2366)), (de P "__isub__" 25173 (vr 2373)), (de P "__add__" 25182 (vr 2380)), (de P "__radd__" 25190 (vr 2387)), (de P "__sub__" 25199 (vr 2394)), (de P "__rsub__" 25208 (vr 2401)), (de P "key" 25215 (vr 2408)), (de P "sort_key" 25222 (vr 2415)), (de P "__int__" 25229 (vr 2422)), (de P "__index__" 25236 (vr 2429)), (de P "__bytes__" 25243 (vr 2436)), (de P "bits" 25251 (vr 2444)), (de P "packed" 25259 (vr 2452)), (de P "words" 25267 (vr 2460)), (de P "bin" 25275 (vr 2468)), (de P "reverse_dns" 25283 (vr 2476)), (de P "ipv4" 25290 (vr 2483)), (de P "ipv6" 25298 (vr 2491)), (de P "format" 25306 (vr 2499)), (de P "__or__" 25314 (vr 2506)), (de P "__and__" 25322 (vr 2513)), (de P "__xor__" 25330 (vr 2520)), (de P "__lshift__" 25338 (vr 2527)), (de P "__rshift__" 25346 (vr 2534)), (de P "__bool__" 25353 (vr 2541)), (de P "__str__" 25360 (vr 2548)), (de P "__repr__" 25367 (vr 2555)), (de P "to_canonical" 25374 (vr 2562)), (de P "__static_attributes__" 25377 (vr 2563)), (de P "__classcell__" 25378 (vr 2325))] 37)
noncomputable def o2325 (P : Params) : Obj := (Obj.mk (Value.type "cell") none (Data.cell (some (vr 2565))) #[])
noncomputable def o2326 (P : Params) : Obj := (tu [])
noncomputable def o2327 (P : Params) : Obj := (Obj.mk Value.none none (Data.fields (List.toArray [(vi 506 0), (vi 4 0), (vr 2337), (vi 559 0), (vi 4 0), (vr 2344), (vi 576 0), (vi 4 0), (vr 2351), (vi 580 0), (vi 4 0), (vr 2358), (vi 584 0), (vi 4 0), (vr 2365), (vi 591 0), (vi 4 0), (vr 2372), (vi 598 0), (vi 4 0), (vr 2379), (vi 604 0), (vi 4 0), (vr 2386), (vi 607 0), (vi 4 0), (vr 2393), (vi 613 0), (vi 4 0), (vr 2400), (vi 619 0), (vi 4 0), (vr 2407), (vi 622 0), (vi 4 0), (vr 2414), (vi 625 0), (vi 4 0), (vr 2421), (vi 628 0), (vi 4 0), (vr 2428), (vi 631 0), (vi 4 0), (vr 2435), (vi 634 0), (vi 4 0), (vr 2443), (vi 638 0), (vi 4 0), (vr 2450), (vi 642 0), (vi 4 0), (vr 2458), (vi 646 0), (vi 4 0), (vr 2466), (vi 650 0), (vi 4 0), (vr 2474), (vi 653 0), (vi 4 0), (vr 2482), (vi 656 0), (vi 4 0), (vr 2490), (vi 659 0), (vi 4 0), (vr 2498), (vi 665 0), (vi 4 0), (vr 2505), (vi 668 0), (vi 4 0), (vr 2512), (vi 671 0), (vi 4 0), (vr 2519), (vi 674 0), (vi 4 0), (vr 2526), (vi 677 0), (vi 4 0), (vr 2533), (vi 680 0), (vi 4 0), (vr 2540), (vi 683 0), (vi 4 0), (vr 2547), (vi 686 0), (vi 4 0), (vr 2554), (vi 689 0), (vi 4 0), (vr 2561)])) #[])
noncomputable def o2328 (P : Params) : Obj := (fo "code" [(vs "IPAddress" 25107), (vs "IPAddress" 25108), (vs "/claim/cut.py" 25109), (vi 504 0), (vi 0 0), (vi 0 0), (vi 0 0), (vi 0 0), (vr 2326), (Value.bool false), (vi 181 0), (vr 2327), Value.none, Value.none, Value.none, Value.none, (vi 25110 0), (vi 504 0), (vs "/claim/cut.py" 25111)])
noncomputable def o2329 (P : Params) : Obj := (Obj.mk (Value.type "frame") none Data.plain (List.toArray [(some (vr 2328)), (some (vr 3)), (some (vr 2324)), none, (some (vs "netaddr.ip" 24963)), none, (some (vr 0))]))
noncomputable def o2330 (P : Params) : Obj := (tu [Value.none, (vi 0 25117)])
noncomputable def o2331 (P : Params) : Obj := (tu [(vr 2325)])
noncomputable def o2332 (P : Params) : Obj := (tu [(vs "__class__" 25121)])
noncomputable def o2333 (P : Params) : Obj := (Obj.mk Value.none none (Data.fields (List.toArray [])) #[])
noncomputable def o2334 (P : Params) : Obj := (tu [(vs "self" 25122), (vs "addr" 25123), (vs "version" 25124), (vs "flags" 25125), (vs "module" 25126)])
noncomputable def o2335 (P : Params) : Obj := (tu [])
noncomputable def o2336 (P : Params) : Obj := (Obj.mk Value.none none (Data.func (FuncData.mk (Str.ofString "__init__") (Str.ofString "IPAddress.__init__") (fA (inC (st 75) 0)) (FuncBody.stmts (fB (inC (st 75) 0))) (fS (inC (st 75) 0)) 0 [] Value.none Value.none Value.none Value.none none Value.none Value.none 0)) #[])
noncomputable def o2337 (P : Params) : Obj := (fo "code" [(vs "__init__" 25118), (vs "IPAddress.__init__" 25119), (vs "/claim/cut.py" 25120), (vi 506 0), (vi 4 0), (vi 0 0), (vi 0 0), (vi 3 0), (vr 2332), (Value.bool true), (vi 181 0), (vr 2333), Value.none, (vr 2334), (vr 2335), (vr 2336), (vi 25127 0), (vi 506 0), (vs "/claim/cut.py" 25128)])
noncomputable def o2338 (P : Params) : Obj := (Obj.mk (Value.type "function") none (Data.func (FuncData.mk (Str.ofString "__init__") (Str.ofString "IPAddress.__init__") (fA (inC (st 75) 0)) (FuncBody.stmts (fB (inC (st 75) 0))) (fS (inC (st 75) 0)) 3 [(Prod.mk (Str.ofString "__class__") 2325)] (vr 2330) Value.none Value.none (vs "netaddr.ip" 24963) none (vr 2337) (vr 2331) 0)) #[])
noncomputable def o2339 (P : Params) : Obj := (tu [])
noncomputable def o2340 (P : Params) : Obj := (Obj.mk Value.none none (Data.fields (List.toArray [])) #[])
noncomputable def o2341 (P : Params) : Obj := (tu [(vs "self" 25133), (vs "i_val" 25134), (vs "numbits" 25135), (vs "mask_length" 25136)])
noncomputable def o2342 (P : Params) : Obj := (tu [])
noncomputable def o2343 (P : Params) : Obj := (Obj.mk Value.none none (Data.func (FuncData.mk (Str.ofString "netmask_bits") (Str.ofString "IPAddress.netmask_bits") (fA (inC (st 75) 1)) (FuncBody.stmts (fB (inC (st 75) 1))) (fS (inC (st 75) 1)) 0 [] Value.none Value.none Value.none Value.none none Value.none Value.none 0)) #[])
noncomputable def o2344 (P : Params) : Obj := (fo "code" [(vs "netmask_bits" 25130), (vs "IPAddress.netmask_bits" 25131), (vs "/claim/cut.py" 25132), (vi 559 0), (vi 1 0), (vi 0 0), (vi 0 0), (vi 3 0), (vr 2339), (Value.bool true), (vi 181 0), (vr 2340), Value.none, (vr 2341), (vr 2342), (vr 2343), (vi 25137 0), (vi 559 0), (vs "/claim/cut.py" 25138)])
noncomputable def o2345 (P : Params) : Obj := (Obj.mk (Value.type "function") none (Data.func (FuncData.mk (Str.ofString "netmask_bits") (Str.ofString "IPAddress.netmask_bits") (fA (inC (st 75) 1)) (FuncBody.stmts (fB (inC (st 75) 1))) (fS (inC (st 75) 1)) 3 [] Value.none Value.none Value.none (vs "netaddr.ip" 24963) none (vr 2344) Value.none 0)) #[])
noncomputable def o2346 (P : Params) : Obj := (tu [])
noncomputable def o2347 (P : Params) : Obj := (Obj.mk Value.none none (Data.fields (List.toArray [])) #[])
noncomputable def o2348 (P : Params) : Obj := (tu [(vs "self" 25143), (vs "int_val" 25144)])
noncomputable def o2349 (P : Params) : Obj := (tu [])
noncomputable def o2350 (P : Params) : Obj := (Obj.mk Value.none none (Data.func (FuncData.mk (Str.ofString "is_hostmask") (Str.ofString "IPAddress.is_hostmask") (fA (inC (st 75) 2)) (FuncBody.stmts (fB (inC (st 75) 2))) (fS (inC (st 75) 3)) 0 [] Value.none Value.none Value.none Value.none none Value.none Value.none 0)) #[])
noncomputable def o2351 (P : Params) : Obj := (fo "code" [(vs "is_hostmask" 25140), (vs "IPAddress.is_hostmask" 25141), (vs "/claim/cut.py" 25142), (vi 576 0), (vi 1 0), (vi 0 0), (vi 0 0), (vi 3 0), (vr 2346), (Value.bool true), (vi 181 0), (vr 2347), Value.none, (vr 2348), (vr 2349), (vr 2350), (vi 25145 0), (vi 576 0), (vs "/claim/cut.py" 25146)])
noncomputable def o2352 (P : Params) : Obj := (Obj.mk (Value.type "function") none (Data.func (FuncData.mk (Str.ofString "is_hostmask") (Str.ofString "IPAddress.is_hostmask") (fA (inC (st 75) 2)) (FuncBody.stmts (fB (inC (st 75) 2))) (fS (inC (st 75) 3)) 3 [] Value.none Value.none Value.none (vs "netaddr.ip" 24963) none (vr 2351) Value.none 0)) #[])
noncomputable def o2353 (P : Params) : Obj := (tu [])
noncomputable def o2354 (P : Params) : Obj := (Obj.mk Value.none none (Data.fields (List.toArray [])) #[])
noncomputable def o2355 (P : Params) : Obj := (tu [(vs "self" 25151), (vs "int_val" 25152)])
noncomputable def o2356 (P : Params) : Obj := (tu [])
noncomputable def o2357 (P : Params) : Obj := (Obj.mk Value.none none (Data.func (FuncData.mk (Str.ofString "is_netmask") (Str.ofString "IPAddress.is_netmask") (fA (inC (st 75) 3)) (FuncBody.stmts (fB (inC (st 75) 3))) (fS (inC (st 75) 3)) 0 [] Value.none Value.none Value.none Value.none none Value.none Value.none 0)) #[])
noncomputable def o2358 (P : Params) : Obj := (fo "code" [(vs "is_netmask" 25148), (vs "IPAddress.is_netmask" 25149), (vs "/claim/cut.py" 25150), (vi 580 0), (vi 1 0), (vi 0 0), (vi 0 0), (vi 3 0), (vr 2353), (Value.bool true), (vi 181 0), (vr 2354), Value.none, (vr 2355), (vr 2356), (vr 2357), (vi 25153 0), (vi 580 0), (vs "/claim/cut.py" 25154)])
noncomputable def o2359 (P : Params) : Obj := (Obj.mk (Value.type "function") none (Data.func (FuncData.mk (Str.ofString "is_netmask") (Str.ofString "IPAddress.is_netmask") (fA (inC (st 75) 3)) (FuncBody.stmts (fB (inC (st 75) 3))) (fS (inC (st 75) 3)) 3 [] Value.none Value.none Value.none (vs "netaddr.ip" 24963) none (vr 2358) Value.none 0)) #[])
noncomputable def o2360 (P : Params) : Obj := (tu [])
noncomputable def o2361 (P : Params) : Obj := (Obj.mk Value.none none (Data.fields (List.toArray [])) #[])
noncomputable def o2362 (P : Params) : Obj := (tu [(vs "self" 25159), (vs "num" 25160), (vs "new_value" 25161)])
noncomputable def o2363 (P : Params) : Obj := (tu [])
noncomputable def o2364 (P : Params) : Obj := (Obj.mk Value.none none (Data.func (FuncData.mk (Str.ofString "__iadd__") (Str.ofString "IPAddress.__iadd__") (fA (inC (st 75) 4)) (FuncBody.stmts (fB (inC (st 75) 4))) (fS (inC (st 75) 5)) 0 [] Value.none Value.none Value.none Value.none none Value.none Value.none 0)) #[])
noncomputable def o2365 (P : Params) : Obj := (fo "code" [(vs "__iadd__" 25156), (vs "IPAddress.__iadd__" 25157), (vs "/claim/cut.py" 25158), (vi 584 0), (vi 2 0), (vi 0 0), (vi 0 0), (vi 3 0), (vr 2360), (Value.bool true), (vi 181 0), (vr 2361), Value.none, (vr 2362), (vr 2363), (vr 2364), (vi 25162 0), (vi 584 0), (vs "/claim/cut.py" 25163)])
noncomputable def o2366 (P : Params) : Obj := (Obj.mk (Value.type "function") none (Data.func (FuncData.mk (Str.ofString "__iadd__") (Str.ofString "IPAddress.__iadd__") (fA (inC (st 75) 4)) (FuncBody.stmts (fB (inC (st 75) 4))) (fS (inC (st 75) 5)) 3 [] Value.none Value.none Value.none (vs "netaddr.ip" 24963) none (vr 2365) Value.none 0)) #[])
noncomputable def o2367 (P : Params) : Obj := (tu [])
noncomputable def o2368 (P : Params) : Obj := (Obj.mk Value.none none (Data.fields (List.toArray [])) #[])
noncomputable def o2369 (P : Params) : Obj := (tu [(vs "self" 25168), (vs "num" 25169), (vs "new_value" 25170)])
noncomputable def o2370 (P : Params) : Obj := (tu [])
noncomputable def o2371 (P : Params) : Obj := (Obj.mk Value.none none (Data.func (FuncData.mk (Str.ofString "__isub__") (Str.ofString "IPAddress.__isub__") (fA (inC (st 75) 5)) (FuncBody.stmts (fB (inC (st 75) 5))) (fS (inC (st 75) 5)) 0 [] Value.none Value.none Value.none Value.none none Value.none Value.none 0)) #[])
noncomputable def o2372 (P : Params) : Obj := (fo "code" [(vs "__isub__" 25165), (vs "IPAddress.__isub__" 25166), (vs "/claim/cut.py" 25167), (vi 591 0), (vi 2 0), (vi 0 0), (vi 0 0), (vi 3 0), (vr 2367), (Value.bool true), (vi 181 0), (vr 2368), Value.none, (vr 2369), (vr 2370), (vr 2371), (vi 25171 0), (vi 591 0), (vs "/claim/cut.py" 25172)])
noncomputable def o2373 (P : Params) : Obj := (Obj.mk (Value.type "function") none (Data.func (FuncData.mk (Str.ofString "__isub__") (Str.ofString "IPAddress.__isub__") (fA (inC (st 75) 5)) (FuncBody.stmts (fB (inC (st 75) 5))) (fS (inC (st 75) 5)) 3 [] Value.none Value.none Value.none (vs "netaddr.ip" 24963) none (vr 2372) Value.none 0)) #[])
noncomputable def o2374 (P : Params) : Obj := (tu [])
noncomputable def o2375 (P : Params) : Obj := (Obj.mk Value.none none (Data.fields (List.toArray [])) #[])
noncomputable def o2376 (P : Params) : Obj := (tu [(vs "self" 25177), (vs "num" 25178), (vs "new_value" 25179)])
noncomputable def o2377 (P : Params) : Obj := (tu [])
noncomputable def o2378 (P : Params) : Obj := (Obj.mk Value.none none (Data.func (FuncData.mk (Str.ofString "__add__") (Str.ofString "IPAddress.__add__") (fA (inC (st 75) 6)) (FuncBody.stmts (fB (inC (st 75) 6))) (fS (inC (st 75) 9)) 0 [] Value.none Value.none Value.none Value.none none Value.none Value.none 0)) #[])
noncomputable def o2379 (P : Params) : Obj := (fo "code" [(vs "__add__" 25174), (vs "IPAddress.__add__" 25175), (vs "/claim/cut.py" 25176), (vi 598 0), (vi 2 0), (vi 0 0), (vi 0 0), (vi 3 0), (vr 2374), (Value.bool true), (vi 181 0), (vr 2375), Value.none, (vr 2376), (vr 2377), (vr 2378), (vi 25180 0), (vi 598 0), (vs "/claim/cut.py" 25181)])
noncomputable def o2380 (P : Params) : Obj := (Obj.mk (Value.type "function") none (Data.func (FuncData.mk (Str.ofString "__add__") (Str.ofString "IPAddress.__add__") (fA (inC (st 75) 6)) (FuncBody.stmts (fB (inC (st 75) 6))) (fS (inC (st 75) 9)) 3 [] Value.none Value.none Value.none (vs "netaddr.ip" 24963) none (vr 2379) Value.none 0)) #[])
noncomputable def o2381 (P : Params) : Obj := (tu [])
noncomputable def o2382 (P : Params) : Obj := (Obj.mk Value.none none (Data.fields (List.toArray [])) #[])
noncomputable def o2383 (P : Params) : Obj := (tu [(vs "self" 25186), (vs "num" 25187)])
noncomputable def o2384 (P : Params) : Obj := (tu [])
noncomputable def o2385 (P : Params) : Obj := (Obj.mk Value.none none (Data.func (FuncData.mk (Str.ofString "__radd__") (Str.ofString "IPAddress.__radd__") (fA (inC (st 75) 7)) (FuncBody.stmts (fB (inC (st 75) 7))) (fS (inC (st 75) 7)) 0 [] Value.none Value.none Value.none Value.none none Value.none Value.none 0)) #[])
noncomputable def o2386 (P : Params) : Obj := (fo "code" [(vs "__radd__" 25183), (vs "IPAddress.__radd__" 25184), (vs "/claim/cut.py" 25185), (vi 604 0), (vi 2 0), (vi 0 0), (vi 0 0), (vi 3 0), (vr 2381), (Value.bool true), (vi 181 0), (vr 2382), Value.none, (vr 2383), (vr 2384), (vr 2385), (vi 25188 0), (vi 604 0), (vs "/claim/cut.py" 25189)])
noncomputable def o2387 (P : Params) : Obj := (Obj.mk (Value.type "function") none (Data.func (FuncData.mk (Str.ofString "__radd__") (Str.ofString "IPAddress.__radd__") (fA (inC (st 75) 7)) (FuncBody.stmts (fB (inC (st 75) 7))) (fS (inC (st 75) 7)) 3 [] Value.none Value.none Value.none (vs "netaddr.ip" 24963) none (vr 2386) Value.none 0)) #[])
noncomputable def o2388 (P : Params) : Obj := (tu [])
noncomputable def o2389 (P : Params) : Obj := (Obj.mk Value.none none (Data.fields (List.toArray [])) #[])
noncomputable def o2390 (P : Params) : Obj := (tu [(vs "self" 25194), (vs "num" 25195), (vs "new_value" 25196)])
noncomputable def o2391 (P : Params) : Obj := (tu [])
noncomputable def o2392 (P : Params) : Obj := (Obj.mk Value.none none (Data.func (FuncData.mk (Str.ofString "__sub__") (Str.ofString "IPAddress.__sub__") (fA (inC (st 75) 8)) (FuncBody.stmts (fB (inC (st 75) 8))) (fS (inC (st 75) 9)) 0 [] Value.none Value.none Value.none Value.none none Value.none Value.none 0)) #[])
noncomputable def o2393 (P : Params) : Obj := (fo "code" [(vs "__sub__" 25191), (vs "IPAddress.__sub__" 25192), (vs "/claim/cut.py" 25193), (vi 607 0), (vi 2 0), (vi 0 0), (vi 0 0), (vi 3 0), (vr 2388), (Value.bool true), (vi 181 0), (vr 2389), Value.none, (vr 2390), (vr 2391), (vr 2392), (vi 25197 0), (vi 607 0), (vs "/claim/cut.py" 25198)])
noncomputable def o2394 (P : Params) : Obj := (Obj.mk (Value.type "function") none (Data.func (FuncData.mk (Str.ofString "__sub__") (Str.ofString "IPAddress.__sub__") (fA (inC (st 75) 8)) (FuncBody.stmts (fB (inC (st 75) 8))) (fS (inC (st 75) 9)) 3 [] Value.none Value.none Value.none (vs "netaddr.ip" 24963) none (vr 2393) Value.none 0)) #[])
noncomputable def o2395 (P : Params) : Obj := (tu [])
noncomputable def o2396 (P : Params) : Obj := (Obj.mk Value.none none (Data.fields (List.toArray [])) #[])
noncomputable def o2397 (P : Params) : Obj := (tu [(vs "self" 25203), (vs "num" 25204), (vs "new_value" 25205)])
noncomputable def o2398 (P : Params) : Obj := (tu [])
noncomputable def o2399 (P : Params) : Obj := (Obj.mk Value.none none (Data.func (FuncData.mk (Str.ofString "__rsub__") (Str.ofString "IPAddress.__rsub__") (fA (inC (st 75) 9)) (FuncBody.stmts (fB (inC (st 75) 9))) (fS (inC (st 75) 9)) 0 [] Value.none Value.none Value.none Value.none none Value.none Value.none 0)) #[])
noncomputable def o2400 (P : Params) : Obj := (fo "code" [(vs "__rsub__" 25200), (vs "IPAddress.__rsub__" 25201), (vs "/claim/cut.py" 25202), (vi 613 0), (vi 2 0), (vi 0 0), (vi 0 0), (vi 3 0), (vr 2395), (Value.bool true), (vi 181 0), (vr 2396), Value.none, (vr 2397), (vr 2398), (vr 2399), (vi 25206 0), (vi 613 0), (vs "/claim/cut.py" 25207)])
noncomputable def o2401 (P : Params) : Obj := (Obj.mk (Value.type "function") none (Data.func (FuncData.mk (Str.ofString "__rsub__") (Str.ofString "IPAddress.__rsub__") (fA (inC (st 75) 9)) (FuncBody.stmts (fB (inC (st 75) 9))) (fS (inC (st 75) 9)) 3 [] Value.none Value.none Value.none (vs "netaddr.ip" 24963) none (vr 2400) Value.none 0)) #[])
noncomputable def o2402 (P : Params) : Obj := (tu [])
noncomputable def o2403 (P : Params) : Obj := (Obj.mk Value.none none (Data.fields (List.toArray [])) #[])
noncomputable def o2404 (P : Params) : Obj := (tu [(vs "self" 25212)])
noncomputable def o2405 (P : Params) : Obj := (tu [])
noncomputable def o2406 (P : Params) : Obj := (Obj.mk Value.none none (Data.func (FuncData.mk (Str.ofString "key") (Str.ofString "IPAddress.key") (fA (inC (st 75) 10)) (FuncBody.stmts (fB (inC (st 75) 10))) (fS (inC (st 79) 8)) 0 [] Value.none Value.none Value.none Value.none none Value.none Value.none 0)) #[])
noncomputable def o2407 (P : Params) : Obj := (fo "code" [(vs "key" 25209), (vs "IPAddress.key" 25210), (vs "/claim/cut.py" 25211), (vi 619 0), (vi 1 0), (vi 0 0), (vi 0 0), (vi 3 0), (vr 2402), (Value.bool true), (vi 181 0), (vr 2403), Value.none, (vr 2404), (vr 2405), (vr 2406), (vi 25213 0), (vi 619 0), (vs "/claim/cut.py" 25214)])
noncomputable def o2408 (P : Params) : Obj := (Obj.mk (Value.type "function") none (Data.func (FuncData.mk (Str.ofString "key") (Str.ofString "IPAddress.key") (fA (inC (st 75) 10)) (FuncBody.stmts (fB (inC (st 75) 10))) (fS (inC (st 79) 8)) 3 [] Value.none Value.none Value.none (vs "netaddr.ip" 24963) none (vr 2407) Value.none 0)) #[])
noncomputable def o2409 (P : Params) : Obj := (tu [])
noncomputable def o2410 (P : Params) : Obj := (Obj.mk Value.none none (Data.fields (List.toArray [])) #[])
noncomputable def o2411 (P : Params) : Obj := (tu [(vs "self" 25219)])
noncomputable def o2412 (P : Params) : Obj := (tu [])
noncomputable def o2413 (P : Params) : Obj := (Obj.mk Value.none none (Data.func (FuncData.mk (Str.ofString "sort_key") (Str.ofString "IPAddress.sort_key") (fA (inC (st 75) 11)) (FuncBody.stmts (fB (inC (st 75) 11))) (fS (inC (st 79) 8)) 0 [] Value.none Value.none Value.none Value.none none Value.none Value.none 0)) #[])
noncomputable def o2414 (P : Params) : Obj := (fo "code" [(vs "sort_key" 25216), (vs "IPAddress.sort_key" 25217), (vs "/claim/cut.py" 25218), (vi 622 0), (vi 1 0), (vi 0 0), (vi 0 0), (vi 3 0), (vr 2409), (Value.bool true), (vi 181 0), (vr 2410), Value.none, (vr 2411), (vr 2412), (vr 2413), (vi 25220 0), (vi 622 0), (vs "/claim/cut.py" 25221)])
noncomputable def o2415 (P : Params) : Obj := (Obj.mk (Value.type "function") none (Data.func (FuncData.mk (Str.ofString "sort_key") (Str.ofString "IPAddress.sort_key") (fA (inC (st 75) 11)) (FuncBody.stmts (fB (inC (st 75) 11))) (fS (inC (st 79) 8)) 3 [] Value.none Value.none Value.none (vs "netaddr.ip" 24963) none (vr 2414) Value.none 0)) #[])
noncomputable def o2416 (P : Params) : Obj := (tu [])
noncomputable def o2417 (P : Params) : Obj := (Obj.mk Value.none none (Data.fields (List.toArray [])) #[])
noncomputable def o2418 (P : Params) : Obj := (tu [(vs "self" 25226)])
noncomputable def o2419 (P : Params) : Obj := (tu [])
noncomputable def o2420 (P : Params) : Obj := (Obj.mk Value.none none (Data.func (FuncData.mk (Str.ofString "__int__") (Str.ofString "IPAddress.__int__") (fA (inC (st 75) 12)) (FuncBody.stmts (fB (inC (st 75) 12))) (fS (inC (st 79) 8)) 0 [] Value.none Value.none Value.none Value.none none Value.none Value.none 0)) #[])
noncomputable def o2421 (P : Params) : Obj := (fo "code" [(vs "__int__" 25223), (vs "IPAddress.__int__" 25224), (vs "/claim/cut.py" 25225), (vi 625 0), (vi 1 0), (vi 0 0), (vi 0 0), (vi 3 0), (vr 2416), (Value.bool true), (vi 181 0), (vr 2417), Value.none, (vr 2418), (vr 2419), (vr 2420), (vi 25227 0), (vi 625 0), (vs "/claim/cut.py" 25228)])
noncomputable def o2422 (P : Params) : Obj := (Obj.mk (Value.type "function") none (Data.func (FuncData.mk (Str.ofString "__int__") (Str.ofString "IPAddress.__int__") (fA (inC (st 75) 12)) (FuncBody.stmts (fB (inC (st 75) 12))) (fS (inC (st 79) 8)) 3 [] Value.none Value.none Value.none (vs "netaddr.ip" 24963) none (vr 2421) Value.none 0)) #[])
noncomputable def o2423 (P : Params) : Obj := (tu [])
noncomputable def o2424 (P : Params) : Obj := (Obj.mk Value.none none (Data.fields (List.toArray [])) #[])
noncomputable def o2425 (P : Params) : Obj := (tu [(vs "self" 25233)])
noncomputable def o2426 (P : Params) : Obj := (tu [])
noncomputable def o2427 (P : Params) : Obj := (Obj.mk Value.none none (Data.func (FuncData.mk (Str.ofString "__index__") (Str.ofString "IPAddress.__index__") (fA (inC (st 75) 13)) (FuncBody.stmts (fB (inC (st 75) 13))) (fS (inC (st 79) 8)) 0 [] Value.none Value.none Value.none Value.none none Value.none Value.none 0)) #[])
noncomputable def o2428 (P : Params) : Obj := (fo "code" [(vs "__index__" 25230), (vs "IPAddress.__index__" 25231), (vs "/claim/cut.py" 25232), (vi 628 0), (vi 1 0), (vi 0 0), (vi 0 0), (vi 3 0), (vr 2423), (Value.bool true), (vi 181 0), (vr 2424), Value.none, (vr 2425), (vr 2426), (vr 2427), (vi 25234 0), (vi 628 0), (vs "/claim/cut.py" 25235)])
noncomputable def o2429 (P : Params) : Obj := (Obj.mk (Value.type "function") none (Data.func (FuncData.mk (Str.ofString "__index__") (Str.ofString "IPAddress.__index__") (fA (inC (st 75) 13)) (FuncBody.stmts (fB (inC (st 75) 13))) (fS (inC (st 79) 8)) 3 [] Value.none Value.none Value.none (vs "netaddr.ip" 24963) none (vr 2428) Value.none 0)) #[])
noncomputable def o2430 (P : Params) : Obj := (tu [])
noncomputable def o2431 (P : Params) : Obj := (Obj.mk Value.none none (Data.fields (List.toArray [])) #[])
noncomputable def o2432 (P : Params) : Obj := (tu [(vs "self" 25240)])
noncomputable def o2433 (P : Params) : Obj := (tu [])
noncomputable def o2434 (P : Params) : Obj := (Obj.mk Value.none none (Data.func (FuncData.mk (Str.ofString "__bytes__") (Str.ofString "IPAddress.__bytes__") (fA (inC (st 75) 14)) (FuncBody.stmts (fB (inC (st 75) 14))) (fS (inC (st 79) 8)) 0 [] Value.none Value.none Value.none Value.none none Value.none Value.none 0)) #[])
noncomputable def o2435 (P : Params) : Obj := (fo "code" [(vs "__bytes__" 25237), (vs "IPAddress.__bytes__" 25238), (vs "/claim/cut.py" 25239), (vi 631 0), (vi 1 0), (vi 0 0), (vi 0 0), (vi 3 0), (vr 2430), (Value.bool true), (vi 181 0), (vr 2431), Value.none, (vr 2432), (vr 2433), (vr 2434), (vi 25241 0), (vi 631 0), (vs "/claim/cut.py" 25242)])
noncomputable def o2436 (P : Params) : Obj := (Obj.mk (Value.type "function") none (Data.func (FuncData.mk (Str.ofString "__bytes__") (Str.ofString "IPAddress.__bytes__") (fA (inC (st 75) 14)) (FuncBody.stmts (fB (inC (st 75) 14))) (fS (inC (st 79) 8)) 3 [] Value.none Value.none Value.none (vs "netaddr.ip" 24963) none (vr 2435) Value.none 0)) #[])
noncomputable def o2437 (P : Params) : Obj := (tu [Value.none])
noncomputable def o2438 (P : Params) : Obj := (tu [])
noncomputable def o2439 (P : Params) : Obj := (Obj.mk Value.none none (Data.fields (List.toArray [])) #[])
noncomputable def o2440 (P : Params) : Obj := (tu [(vs "self" 25247), (vs "word_sep" 25248)])
noncomputable def o2441 (P : Params) : Obj := (tu [])
noncomputable def o2442 (P : Params) : Obj := (Obj.mk Value.none none (Data.func (FuncData.mk (Str.ofString "bits") (Str.ofString "IPAddress.bits") (fA (inC (st 75) 15)) (FuncBody.stmts (fB (inC (st 75) 15))) (fS (inC (st 75) 15)) 0 [] Value.none Value.none Value.none Value.none none Value.none Value.none 0)) #[])
noncomputable def o2443 (P : Params) : Obj := (fo "code" [(vs "bits" 25244), (vs "IPAddress.bits" 25245), (vs "/claim/cut.py" 25246), (vi 634 0), (vi 2 0), (vi 0 0), (vi 0 0), (vi 3 0), (vr 2438), (Value.bool true), (vi 181 0), (vr 2439), Value.none, (vr 2440), (vr 2441), (vr 2442), (vi 25249 0), (vi 634 0), (vs "/claim/cut.py" 25250)])
noncomputable def o2444 (P : Params) : Obj := (Obj.mk (Value.type "function") none (Data.func (FuncData.mk (Str.ofString "bits") (Str.ofString "IPAddress.bits") (fA (inC (st 75) 15)) (FuncBody.stmts (fB (inC (st 75) 15))) (fS (inC (st 75) 15)) 3 [] (vr 2437) Value.none Value.none (vs "netaddr.ip" 24963) none (vr 2443) Value.none 0)) #[])
noncomputable def o2445 (P : Params) : Obj := (tu [])
noncomputable def o2446 (P : Params) : Obj := (Obj.mk Value.none none (Data.fields (List.toArray [])) #[])
noncomputable def o2447 (P : Params) : Obj := (tu [(vs "self" 25255)])
noncomputable def o2448 (P : Params) : Obj := (tu [])
noncomputable def o2449 (P : Params) : Obj := (Obj.mk Value.none none (Data.func (FuncData.mk (Str.ofString "packed") (Str.ofString "IPAddress.packed") (fA (inC (st 75) 16)) (FuncBody.stmts (fB (inC (st 75) 16))) (fS (inC (st 79) 8)) 0 [] Value.none Value.none Value.none Value.none none Value.none Value.none 0)) #[])
noncomputable def o2450 (P : Params) : Obj := (fo "code" [(vs "packed" 25252), (vs "IPAddress.packed" 25253), (vs "/claim/cut.py" 25254), (vi 637 0), (vi 1 0), (vi 0 0), (vi 0 0), (vi 3 0), (vr 2445), (Value.bool true), (vi 181 0), (vr 2446), Value.none, (vr 2447), (vr 2448), (vr 2449), (vi 25256 0), (vi 637 0), (vs "/claim/cut.py" 25257)])
noncomputable def o2451 (P : Params) : Obj := (Obj.mk (Value.type "function") none (Data.func (FuncData.mk (Str.ofString "packed") (Str.ofString "IPAddress.packed") (fA (inC (st 75) 16)) (FuncBody.stmts (fB (inC (st 75) 16))) (fS (inC (st 79) 8)) 3 [] Value.none Value.none Value.none (vs "netaddr.ip" 24963) none (vr 2450) Value.none 0)) #[])
noncomputable def o2452 (P : Params) : Obj := (fo "property" [(vr 2451), Value.none, Value.none, Value.none, (vs "packed" 25259), (Value.bool false)])
noncomputable def o2453 (P : Params) : Obj := (tu [])
noncomputable def o2454 (P : Params) : Obj := (Obj.mk Value.none none (Data.fields (List.toArray [])) #[])
noncomputable def o2455 (P : Params) : Obj := (tu [(vs "self" 25263)])
noncomputable def o2456 (P : Params) : Obj := (tu [])
noncomputable def o2457 (P : Params) : Obj := (Obj.mk Value.none none (Data.func (FuncData.mk (Str.ofString "words") (Str.ofString "IPAddress.words") (fA (inC (st 75) 17)) (FuncBody.stmts (fB (inC (st 75) 17))) (fS (inC (st 79) 8)) 0 [] Value.none Value.none Value.none Value.none none Value.none Value.none 0)) #[])
noncomputable def o2458 (P : Params) : Obj := (fo "code" [(vs "words" 25260), (vs "IPAddress.words" 25261), (vs "/claim/cut.py" 25262), (vi 641 0), (vi 1 0), (vi 0 0), (vi 0 0), (vi 3 0), (vr 2453), (Value.bool true), (vi 181 0), (vr 2454), Value.none, (vr 2455), (vr 2456), (vr 2457), (vi 25264 0), (vi 641 0), (vs "/claim/cut.py" 25265)])
noncomputable def o2459 (P : Params) : Obj := (Obj.mk (Value.type "function") none (Data.func (FuncData.mk (Str.ofString "words") (Str.ofString "IPAddress.words") (fA (inC (st 75) 17)) (FuncBody.stmts (fB (inC (st 75) 17))) (fS (inC (st 79) 8)) 3 [] Value.none Value.none Value.none (vs "netaddr.ip" 24963) none (vr 2458) Value.none 0)) #[])
noncomputable def o2460 (P : Params) : Obj := (fo "property" [(vr 2459), Value.none, Value.none, Value.none, (vs "words" 25267), (Value.bool false)])
noncomputable def o2461 (P : Params) : Obj := (tu [])
noncomputable def o2462 (P : Params) : Obj := (Obj.mk Value.none none (Data.fields (List.toArray [])) #[])
noncomputable def o2463 (P : Params) : Obj := (tu [(vs "self" 25271)])
noncomputable def o2464 (P : Params) : Obj := (tu [])
noncomputable def o2465 (P : Params) : Obj := (Obj.mk Value.none none (Data.func (FuncData.mk (Str.ofString "bin") (Str.ofString "IPAddress.bin") (fA (inC (st 75) 18)) (FuncBody.stmts (fB (inC (st 75) 18))) (fS (inC (st 79) 6)) 0 [] Value.none Value.none Value.none Value.none none Value.none Value.none 0)) #[])
noncomputable def o2466 (P : Params) : Obj := (fo "code" [(vs "bin" 25268), (vs "IPAddress.bin" 25269), (vs "/claim/cut.py" 25270), (vi 645 0), (vi 1 0), (vi 0 0), (vi 0 0), (vi 3 0), (vr 2461), (Value.bool true), (vi 181 0), (vr 2462), Value.none, (vr 2463), (vr 2464), (vr 2465), (vi 25272 0), (vi 645 0), (vs "/claim/cut.py" 25273)])
noncomputable def o2467 (P : Params) : Obj := (Obj.mk (Value.type "function") none (Data.func (FuncData.mk (Str.ofString "bin") (Str.ofString "IPAddress.bin") (fA (inC (st 75) 18)) (FuncBody.stmts (fB (inC (st 75) 18))) (fS (inC (st 79) 6)) 3 [] Value.none Value.none Value.none (vs "netaddr.ip" 24963) none (vr 2466) Value.none 0)) #[])
noncomputable def o2468 (P : Params) : Obj := (fo "property" [(vr 2467), Value.none, Value.none, Value.none, (vs "bin" 25275), (Value.bool false)])
noncomputable def o2469 (P : Params) : Obj := (tu [])
noncomputable def o2470 (P : Params) : Obj := (Obj.mk Value.none none (Data.fields (List.toArray [])) #[])
noncomputable def o2471 (P : Params) : Obj := (tu [(vs "self" 25279)])
noncomputable def o2472 (P : Params) : Obj := (tu [])
noncomputable def o2473 (P : Params) : Obj := (Obj.mk Value.none none (Data.func (FuncData.mk (Str.ofString "reverse_dns") (Str.ofString "IPAddress.reverse_dns") (fA (inC (st 75) 19)) (FuncBody.stmts (fB (inC (st 75) 19))) (fS (inC (st 79) 6)) 0 [] Value.none Value.none Value.none Value.none none Value.none Value.none 0)) #[])
noncomputable def o2474 (P : Params) : Obj := (fo "code" [(vs "reverse_dns" 25276), (vs "IPAddress.reverse_dns" 25277), (vs "/claim/cut.py" 25278), (vi 649 0), (vi 1 0), (vi 0 0), (vi 0 0), (vi 3 0), (vr 2469), (Value.bool true), (vi 181 0), (vr 2470), Value.none, (vr 2471), (vr 2472), (vr 2473), (vi 25280 0), (vi 649 0), (vs "/claim/cut.py" 25281)])
noncomputable def o2475 (P : Params) : Obj := (Obj.mk (Value.type "function") none (Data.func (FuncData.mk (Str.ofString "reverse_dns") (Str.ofString "IPAddress.reverse_dns") (fA (inC (st 75) 19)) (FuncBody.stmts (fB (inC (st 75) 19))) (fS (inC (st 79) 6)) 3 [] Value.none Value.none Value.none (vs "netaddr.ip" 24963) none (vr 2474) Value.none 0)) #[])
noncomputable def o2476 (P : Params) : Obj := (fo "property" [(vr 2475), Value.none, Value.none, Value.none, (vs "reverse_dns" 25283), (Value.bool false)])
noncomputable def o2477 (P : Params) : Obj := (tu [])
noncomputable def o2478 (P : Params) : Obj := (Obj.mk Value.none none (Data.fields (List.toArray [])) #[])
noncomputable def o2479 (P : Params) : Obj := (tu [(vs "self" 25287)])
noncomputable def o2480 (P : Params) : Obj := (tu [])
noncomputable def o2481 (P : Params) : Obj := (Obj.mk Value.none none (Data.func (FuncData.mk (Str.ofString "ipv4") (Str.ofString "IPAddress.ipv4") (fA (inC (st 75) 20)) (FuncBody.stmts (fB (inC (st 75) 20))) (fS (inC (st 79) 6)) 0 [] Value.none Value.none Value.none Value.none none Value.none Value.none 0)) #[])
noncomputable def o2482 (P : Params) : Obj := (fo "code" [(vs "ipv4" 25284), (vs "IPAddress.ipv4" 25285), (vs "/claim/cut.py" 25286), (vi 653 0), (vi 1 0), (vi 0 0), (vi 0 0), (vi 3 0), (vr 2477), (Value.bool true), (vi 181 0), (vr 2478), Value.none, (vr 2479), (vr 2480), (vr 2481), (vi 25288 0), (vi 653 0), (vs "/claim/cut.py" 25289)])
noncomputable def o2483 (P : Params) : Obj := (Obj.mk (Value.type "function") none (Data.func (FuncData.mk (Str.ofString "ipv4") (Str.ofString "IPAddress.ipv4") (fA (inC (st 75) 20)) (FuncBody.stmts (fB (inC (st 75) 20))) (fS (inC (st 79) 6)) 3 [] Value.none Value.none Value.none (vs "netaddr.ip" 24963) none (vr 2482) Value.none 0)) #[])
noncomputable def o2484 (P : Params) : Obj := (tu [(Value.bool false)])
noncomputable def o2485 (P : Params) : Obj := (tu [])
noncomputable def o2486 (P : Params) : Obj := (Obj.mk Value.none none (Data.fields (List.toArray [])) #[])
noncomputable def o2487 (P : Params) : Obj := (tu [(vs "self" 25294), (vs "ipv4_compatible" 25295)])
noncomputable def o2488 (P : Params) : Obj := (tu [])
noncomputable def o2489 (P : Params) : Obj := (Obj.mk Value.none none (Data.func (FuncData.mk (Str.ofString "ipv6") (Str.ofString "IPAddress.ipv6") (fA (inC (st 75) 21)) (FuncBody.stmts (fB (inC (st 75) 21))) (fS (inC (st 78) 21)) 0 [] Value.none Value.none Value.none Value.none none Value.none Value.none 0)) #[])
noncomputable def o2490 (P : Params) : Obj := (fo "code" [(vs "ipv6" 25291), (vs "IPAddress.ipv6" 25292), (vs "/claim/cut.py" 25293), (vi 656 0), (vi 2 0), (vi 0 0), (vi 0 0), (vi 3 0), (vr 2485), (Value.bool true), (vi 181 0), (vr 2486), Value.none, (vr 2487), (vr 2488), (vr 2489), (vi 25296 0), (vi 656 0), (vs "/claim/cut.py" 25297)])
noncomputable def o2491 (P : Params) : Obj := (Obj.mk (Value.type "function") none (Data.func (FuncData.mk (Str.ofString "ipv6") (Str.ofString "IPAddress.ipv6") (fA (inC (st 75) 21)) (FuncBody.stmts (fB (inC (st 75) 21))) (fS (inC (st 78) 21)) 3 [] (vr 2484) Value.none Value.none (vs "netaddr.ip" 24963) none (vr 2490) Value.none 0)) #[])
noncomputable def o2492 (P : Params) : Obj := (tu [Value.none])
noncomputable def o2493 (P : Params) : Obj := (tu [])
noncomputable def o2494 (P : Params) : Obj := (Obj.mk Value.none none (Data.fields (List.toArray [])) #[])
noncomputable def o2495 (P : Params) : Obj := (tu [(vs "self" 25302), (vs "dialect" 25303)])
noncomputable def o2496 (P : Params) : Obj := (tu [])
noncomputable def o2497 (P : Params) : Obj := (Obj.mk Value.none none (Data.func (FuncData.mk (Str.ofString "format") (Str.ofString "IPAddress.format") (fA (inC (st 75) 22)) (FuncBody.stmts (fB (inC (st 75) 22))) (fS (inC (st 75) 22)) 0 [] Value.none Value.none Value.none Value.none none Value.none Value.none 0)) #[])
noncomputable def o2498 (P : Params) : Obj := (fo "code" [(vs "format" 25299), (vs "IPAddress.format" 25300), (vs "/claim/cut.py" 25301), (vi 659 0), (vi 2 0), (vi 0 0), (vi 0 0), (vi 3 0), (vr 2493), (Value.bool true), (vi 181 0), (vr 2494), Value.none, (vr 2495), (vr 2496), (vr 2497), (vi 25304 0), (vi 659 0), (vs "/claim/cut.py" 25305)])
noncomputable def o2499 (P : Params) : Obj := (Obj.mk (Value.type "function") none (Data.func (FuncData.mk (Str.ofString "format") (Str.ofString "IPAddress.format") (fA (inC (st 75) 22)) (FuncBody.stmts (fB (inC (st 75) 22))) (fS (inC (st 75) 22)) 3 [] (vr 2492) Value.none Value.none (vs "netaddr.ip" 24963) none (vr 2498) Value.none 0)) #[])
noncomputable def o2500 (P : Params) : Obj := (tu [])
noncomputable def o2501 (P : Params) : Obj := (Obj.mk Value.none none (Data.fields (List.toArray [])) #[])
noncomputable def o2502 (P : Params) : Obj := (tu [(vs "self" 25310), (vs "other" 25311)])
noncomputable def o2503 (P : Params) : Obj := (tu [])
noncomputable def o2504 (P : Params) : Obj := (Obj.mk Value.none none (Data.func (FuncData.mk (Str.ofString "__or__") (Str.ofString "IPAddress.__or__") (fA (inC (st 75) 23)) (FuncBody.stmts (fB (inC (st 75) 23))) (fS (inC (st 75) 25)) 0 [] Value.none Value.none Value.none Value.none none Value.none Value.none 0)) #[])
noncomputable def o2505 (P : Params) : Obj := (fo "code" [(vs "__or__" 25307), (vs "IPAddress.__or__" 25308), (vs "/claim/cut.py" 25309), (vi 665 0), (vi 2 0), (vi 0 0), (vi 0 0), (vi 3 0), (vr 2500), (Value.bool true), (vi 181 0), (vr 2501), Value.none, (vr 2502), (vr 2503), (vr 2504), (vi 25312 0), (vi 665 0), (vs "/claim/cut.py" 25313)])
noncomputable def o2506 (P : Params) : Obj := (Obj.mk (Value.type "function") none (Data.func (FuncData.mk (Str.ofString "__or__") (Str.ofString "IPAddress.__or__") (fA (inC (st 75) 23)) (FuncBody.stmts (fB (inC (st 75) 23))) (fS (inC (st 75) 25)) 3 [] Value.none Value.none Value.none (vs "netaddr.ip" 24963) none (vr 2505) Value.none 0)) #[])
noncomputable def o2507 (P : Params) : Obj := (tu [])
noncomputable def o2508 (P : Params) : Obj := (Obj.mk Value.none none (Data.fields (List.toArray [])) #[])
noncomputable def o2509 (P : Params) : Obj := (tu [(vs "self" 25318), (vs "other" 25319)])
noncomputable def o2510 (P : Params) : Obj := (tu [])
noncomputable def o2511 (P : Params) : Obj := (Obj.mk Value.none none (Data.func (FuncData.mk (Str.ofString "__and__") (Str.ofString "IPAddress.__and__") (fA (inC (st 75) 24)) (FuncBody.stmts (fB (inC (st 75) 24))) (fS (inC (st 75) 25)) 0 [] Value.none Value.none Value.none Value.none none Value.none Value.none 0)) #[])
noncomputable def o2512 (P : Params) : Obj := (fo "code" [(vs "__and__" 25315), (vs "IPAddress.__and__" 25316), (vs "/claim/cut.py" 25317), (vi 668 0), (vi 2 0), (vi 0 0), (vi 0 0), (vi 3 0), (vr 2507), (Value.bool true), (vi 181 0), (vr 2508), Value.none, (vr 2509), (vr 2510), (vr 2511), (vi 25320 0), (vi 668 0), (vs "/claim/cut.py" 25321)])
noncomputable def o2513 (P : Params) : Obj := (Obj.mk (Value.type "function") none (Data.func (FuncData.mk (Str.ofString "__and__") (Str.ofString "IPAddress.__and__") (fA (inC (st 75) 24)) (FuncBody.stmts (fB (inC (st 75) 24))) (fS (inC (st 75) 25)) 3 [] Value.none Value.none Value.none (vs "netaddr.ip" 24963) none (vr 2512) Value.none 0)) #[])
noncomputable def o2514 (P : Params) : Obj := (tu [])
noncomputable def o2515 (P : Params) : Obj := (Obj.mk Value.none none (Data.fields (List.toArray [])) #[])
noncomputable def o2516 (P : Params) : Obj := (tu [(vs "self" 25326), (vs "other" 25327)])
noncomputable def o2517 (P : Params) : Obj := (tu [])
noncomputable def o2518 (P : Params) : Obj := (Obj.mk Value.none none (Data.func (FuncData.mk (Str.ofString "__xor__") (Str.ofString "IPAddress.__xor__") (fA (inC (st 75) 25)) (FuncBody.stmts (fB (inC (st 75) 25))) (fS (inC (st 75) 25)) 0 [] Value.none Value.none Value.none Value.none none Value.none Value.none 0)) #[])
noncomputable def o2519 (P : Params) : Obj := (fo "code" [(vs "__xor__" 25323), (vs "IPAddress.__xor__" 25324), (vs "/claim/cut.py" 25325), (vi 671 0), (vi 2 0), (vi 0 0), (vi 0 0), (vi 3 0), (vr 2514), (Value.bool true), (vi 181 0), (vr 2515), Value.none, (vr 2516), (vr 2517), (vr 2518), (vi 25328 0), (vi 671 0), (vs "/claim/cut.py" 25329)])
noncomputable def o2520 (P : Params) : Obj := (Obj.mk (Value.type "function") none (Data.func (FuncData.mk (Str.ofString "__xor__") (Str.ofString "IPAddress.__xor__") (fA (inC (st 75) 25)) (FuncBody.stmts (fB (inC (st 75) 25))) (fS (inC (st 75) 25)) 3 [] Value.none Value.none Value.none (vs "netaddr.ip" 24963) none (vr 2519) Value.none 0)) #[])
noncomputable def o2521 (P : Params) : Obj := (tu [])
noncomputable def o2522 (P : Params) : Obj := (Obj.mk Value.none none (Data.fields (List.toArray [])) #[])
noncomputable def o2523 (P : Params) : Obj := (tu [(vs "self" 25334), (vs "numbits" 25335)])
noncomputable def o2524 (P : Params) : Obj := (tu [])
noncomputable def o2525 (P : Params) : Obj := (Obj.mk Value.none none (Data.func (FuncData.mk (Str.ofString "__lshift__") (Str.ofString "IPAddress.__lshift__") (fA (inC (st 75) 26)) (FuncBody.stmts (fB (inC (st 75) 26))) (fS (inC (st 75) 27)) 0 [] Value.none Value.none Value.none Value.none none Value.none Value.none 0)) #[])
noncomputable def o2526 (P : Params) : Obj := (fo "code" [(vs "__lshift__" 25331), (vs "IPAddress.__lshift__" 25332), (vs "/claim/cut.py" 25333), (vi 674 0), (vi 2 0), (vi 0 0), (vi 0 0), (vi 3 0), (vr 2521), (Value.bool true), (vi 181 0), (vr 2522), Value.none, (vr 2523), (vr 2524), (vr 2525), (vi 25336 0), (vi 674 0), (vs "/claim/cut.py" 25337)])
noncomputable def o2527 (P : Params) : Obj := (Obj.mk (Value.type "function") none (Data.func (FuncData.mk (Str.ofString "__lshift__") (Str.ofString "IPAddress.__lshift__") (fA (inC (st 75) 26)) (FuncBody.stmts (fB (inC (st 75) 26))) (fS (inC (st 75) 27)) 3 [] Value.none Value.none Value.none (vs "netaddr.ip" 24963) none (vr 2526) Value.none 0)) #[])
noncomputable def o2528 (P : Params) : Obj := (tu [])
noncomputable def o2529 (P : Params) : Obj := (Obj.mk Value.none none (Data.fields (List.toArray [])) #[])
noncomputable def o2530 (P : Params) : Obj := (tu [(vs "self" 25342), (vs "numbits" 25343)])
noncomputable def o2531 (P : Params) : Obj := (tu [])
noncomputable def o2532 (P : Params) : Obj := (Obj.mk Value.none none (Data.func (FuncData.mk (Str.ofString "__rshift__") (Str.ofString "IPAddress.__rshift__") (fA (inC (st 75) 27)) (FuncBody.stmts (fB (inC (st 75) 27))) (fS (inC (st 75) 27)) 0 [] Value.none Value.none Value.none Value.none none Value.none Value.none 0)) #[])
noncomputable def o2533 (P : Params) : Obj := (fo "code" [(vs "__rshift__" 25339), (vs "IPAddress.__rshift__" 25340), (vs "/claim/cut.py" 25341), (vi 677 0), (vi 2 0), (vi 0 0), (vi 0 0), (vi 3 0), (vr 2528), (Value.bool true), (vi 181 0), (vr 2529), Value.none, (vr 2530), (vr 2531), (vr 2532), (vi 25344 0), (vi 677 0), (vs "/claim/cut.py" 25345)])
noncomputable def o2534 (P : Params) : Obj := (Obj.mk (Value.type "function") none (Data.func (FuncData.mk (Str.ofString "__rshift__") (Str.ofString "IPAddress.__rshift__") (fA (inC (st 75) 27)) (FuncBody.stmts (fB (inC (st 75) 27))) (fS (inC (st 75) 27)) 3 [] Value.none Value.none Value.none (vs "netaddr.ip" 24963) none (vr 2533) Value.none 0)) #[])
noncomputable def o2535 (P : Params) : Obj := (tu [])
noncomputable def o2536 (P : Params) : Obj := (Obj.mk Value.none none (Data.fields (List.toArray [])) #[])
noncomputable def o2537 (P : Params) : Obj := (tu [(vs "self" 25350)])
noncomputable def o2538 (P : Params) : Obj := (tu [])
noncomputable def o2539 (P : Params) : Obj := (Obj.mk Value.none none (Data.func (FuncData.mk (Str.ofString "__bool__") (Str.ofString "IPAddress.__bool__") (fA (inC (st 75) 28)) (FuncBody.stmts (fB (inC (st 75) 28))) (fS (inC (st 75) 28)) 0 [] Value.none Value.none Value.none Value.none none Value.none Value.none 0)) #[])
noncomputable def o2540 (P : Params) : Obj := (fo "code" [(vs "__bool__" 25347), (vs "IPAddress.__bool__" 25348), (vs "/claim/cut.py" 25349), (vi 680 0), (vi 1 0), (vi 0 0), (vi 0 0), (vi 3 0), (vr 2535), (Value.bool true), (vi 181 0), (vr 2536), Value.none, (vr 2537), (vr 2538), (vr 2539), (vi 25351 0), (vi 680 0), (vs "/claim/cut.py" 25352)])
noncomputable def o2541 (P : Params) : Obj := (Obj.mk (Value.type "function") none (Data.func (FuncData.mk (Str.ofString "__bool__") (Str.ofString "IPAddress.__bool__") (fA (inC (st 75) 28)) (FuncBody.stmts (fB (inC (st 75) 28))) (fS (inC (st 75) 28)) 3 [] Value.none Value.none Value.none (vs "netaddr.ip" 24963) none (vr 2540) Value.none 0)) #[])
noncomputable def o2542 (P : Params) : Obj := (tu [])
noncomputable def o2543 (P : Params) : Obj := (Obj.mk Value.none none (Data.fields (List.toArray [])) #[])
noncomputable def o2544 (P : Params) : Obj := (tu [(vs "self" 25357)])
noncomputable def o2545 (P : Params) : Obj := (tu [])
noncomputable def o2546 (P : Params) : Obj := (Obj.mk Value.none none (Data.func (FuncData.mk (Str.ofString "__str__") (Str.ofString "IPAddress.__str__") (fA (inC (st 75) 29)) (FuncBody.stmts (fB (inC (st 75) 29))) (fS (inC (st 79) 8)) 0 [] Value.none Value.none Value.none Value.none none Value.none Value.none 0)) #[])
noncomputable def o2547 (P : Params) : Obj := (fo "code" [(vs "__str__" 25354), (vs "IPAddress.__str__" 25355), (vs "/claim/cut.py" 25356), (vi 683 0), (vi 1 0), (vi 0 0), (vi 0 0), (vi 3 0), (vr 2542), (Value.bool true), (vi 181 0), (vr 2543), Value.none, (vr 2544), (vr 2545), (vr 2546), (vi 25358 0), (vi 683 0), (vs "/claim/cut.py" 25359)])
noncomputable def o2548 (P : Params) : Obj := (Obj.mk (Value.type "function") none (Data.func (FuncData.mk (Str.ofString "__str__") (Str.ofString "IPAddress.__str__") (fA (inC (st 75) 29)) (FuncBody.stmts (fB (inC (st 75) 29))) (fS (inC (st 79) 8)) 3 [] Value.none Value.none Value.none (vs "netaddr.ip" 24963) none (vr 2547) Value.none 0)) #[])
noncomputable def o2549 (P : Params) : Obj := (tu [])
noncomputable def o2550 (P : Params) : Obj := (Obj.mk Value.none none (Data.fields (List.toArray [])) #[])
noncomputable def o2551 (P : Params) : Obj := (tu [(vs "self" 25364)])
noncomputable def o2552 (P : Params) : Obj := (tu [])
noncomputable def o2553 (P : Params) : Obj := (Obj.mk Value.none none (Data.func (FuncData.mk (Str.ofString "__repr__") (Str.ofString "IPAddress.__repr__") (fA (inC (st 75) 30)) (FuncBody.stmts (fB (inC (st 75) 30))) (fS (inC (st 79) 8)) 0 [] Value.none Value.none Value.none Value.none none Value.none Value.none 0)) #[])
noncomputable def o2554 (P : Params) : Obj := (fo "code" [(vs "__repr__" 25361), (vs "IPAddress.__repr__" 25362), (vs "/claim/cut.py" 25363), (vi 686 0), (vi 1 0), (vi 0 0), (vi 0 0), (vi 3 0), (vr 2549), (Value.bool true), (vi 181 0), (vr 2550), Value.none, (vr 2551), (vr 2552), (vr 2553), (vi 25365 0), (vi 686 0), (vs "/claim/cut.py" 25366)])
noncomputable def o2555 (P : Params) : Obj := (Obj.mk (Value.type "function") none (Data.func (FuncData.mk (Str.ofString "__repr__") (Str.ofString "IPAddress.__repr__") (fA (inC (st 75) 30)) (FuncBody.stmts (fB (inC (st 75) 30))) (fS (inC (st 79) 8)) 3 [] Value.none Value.none Value.none (vs "netaddr.ip" 24963) none (vr 2554) Value.none 0)) #[])
noncomputable def o2556 (P : Params) : Obj := (tu [])
noncomputable def o2557 (P : Params) : Obj := (Obj.mk Value.none none (Data.fields (List.toArray [])) #[])
noncomputable def o2558 (P : Params) : Obj := (tu [(vs "self" 25371)])
noncomputable def o2559 (P : Params) : Obj := (tu [])
noncomputable def o2560 (P : Params) : Obj := (Obj.mk Value.none none (Data.func (FuncData.mk (Str.ofString "to_canonical") (Str.ofString "IPAddress.to_canonical") (fA (inC (st 75) 31)) (FuncBody.stmts (fB (inC (st 75) 31))) (fS (inC (st 79) 6)) 0 [] Value.none Value.none Value.none Value.none none Value.none Value.none 0)) #[])
noncomputable def o2561 (P : Params) : Obj := (fo "code" [(vs "to_canonical" 25368), (vs "IPAddress.to_canonical" 25369), (vs "/claim/cut.py" 25370), (vi 689 0), (vi 1 0), (vi 0 0), (vi 0 0), (vi 3 0), (vr 2556), (Value.bool true), (vi 181 0), (vr 2557), Value.none, (vr 2558), (vr 2559), (vr 2560), (vi 25372 0), (vi 689 0), (vs "/claim/cut.py" 25373)])
noncomputable def o2562 (P : Params) : Obj := (Obj.mk (Value.type "function") none (Data.func (FuncData.mk (Str.ofString "to_canonical") (Str.ofString "IPAddress.to_canonical") (fA (inC (st 75) 31)) (FuncBody.stmts (fB (inC (st 75) 31))) (fS (inC (st 79) 6)) 3 [] Value.none Value.none Value.none (vs "netaddr.ip" 24963) none (vr 2561) Value.none 0)) #[])
noncomputable def o2563 (P : Params) : Obj := (tu [(vs "_module" 25375), (vs "_value" 25376)])
noncomputable def o2564 (P : Params) : Obj := (di [(de P "__module__" 25112 (vs "netaddr.ip" 24963)), (de P "__firstlineno__" 25116 (vi 504 25115)), (de P "__init__" 25129 (vr 2338)), (de P "netmask_bits" 25139 (vr 2345)), (de P "is_hostmask" 25147 (vr 2352)), (de P "is_netmask" 25155 (vr 2359)), (de P "__iadd__" 25164 (vr 2366)), (de P "__isub__" 25173 (vr 2373)), (de P "__add__" 25182 (vr 2380)), (de P "__radd__" 25190 (vr 2387)), (de P "__sub__" 25199 (vr 2394)), (de P "__rsub__" 25208 (vr 2401)), (de P "key" 25215 (vr 2408)), (de P "sort_key" 25222 (vr 2415)), (de P "__int__" 25229 (vr 2422)), (de P "__index__" 25236 (vr 2429)), (de P "__bytes__" 25243 (vr 2436)), (de P "bits" 25251 (vr 2444)), (de P "packed" 25259 (vr 2452)), (de P "words" 25267 (vr 2460)), (de P "bin" 25275 (vr 2468)), (de P "reverse_dns" 25283 (vr 2476)), (de P "ipv4" 25290 (vr 2483)), (de P "ipv6" 25298 (vr 2491)), (de P "format" 25306 (vr 2499)), (de P "__or__" 25314 (vr 2506)), (de P "__and__" 25322 (vr 2513)), (de P "__xor__" 25330 (vr 2520)), (de P "__lshift__" 25338 (vr 2527)), (de P "__rshift__" 25346 (vr 2534)), (de P "__bool__" 25353 (vr 2541)), (de P "__str__" 25360 (vr 2548)), (de P "__repr__" 25367 (vr 2555)), (de P "to_canonical" 25374 (vr 2562)), (de P "__static_attributes__" 25377 (vr 2563)), (de P "__doc__" 25379 Value.none)] 3)
noncomputable def o2565 (P : Params) : Obj := (Obj.mk (Value.type "type") none (Data.cls (ClassData.mk (Str.ofString "IPAddress") [(vr 2317)] [(vr 2565), (vr 2317), (Value.type "object")] 2564 (Str.ofString "IPAddress") true [] [] false none false)) (List.toArray [(some (vr 2322)), none, (some (vs "IPAddress" 25105)), (some (vs "IPAddress" 25113)), (some (Value.builtin "object.__new__")), (some (Value.bool true))]))
noncomputable def o2566 (P : Params) : Obj := (fo "super" [(vr 2565), (vr 2565), (vr 2565)])
noncomputable def o2567 (P : Params) : Obj := (fo "builtin_function_or_method" [(Value.builtin "object.__init_subclass__"), (vr 2565)])
noncomputable def o2568 (P : Params) : Obj := (tu [(vr 2317)])
noncomputable def o2569 (P : Params) : Obj := (fo "builtin_function_or_method" [(Value.builtin "type.__prepare__"), (Value.type "type")])
noncomputable def o2570 (P : Params) : Obj := (di [(de P "__module__" 25389 (vs "netaddr.ip" 24963)), (de P "__qualname__" 25391 (vs "IPListMixin" 25390)), (de P "__firstlineno__" 25393 (vi 691 25392)), (de P "__iter__" 25402 (vr 2581)), (de P "size" 25410 (vr 2589)), (de P "__len__" 25418 (vr 2596)), (de P "__getitem__" 25427 (vr 2603)), (de P "__bool__" 25434 (vr 2610)), (de P "__static_attributes__" 25435 (vr 2611))] 9)
noncomputable def o2571 (P : Params) : Obj := (tu [])
noncomputable def o2572 (P : Params) : Obj := (Obj.mk Value.none none (Data.fields (List.toArray [(vi 693 0), (vi 4 0), (vr 2580), (vi 699 0), (vi 4 0), (vr 2587), (vi 702 0), (vi 4 0), (vr 2595), (vi 708 0), (vi 4 0), (vr 2602), (vi 722 0), (vi 4 0), (vr 2609)])) #[])
noncomputable def o2573 (P : Params) : Obj := (fo "code" [(vs "IPListMixin" 25384), (vs "IPListMixin" 25385), (vs "/claim/cut.py" 25386), (vi 691 0), (vi 0 0), (vi 0 0), (vi 0 0), (vi 0 0), (vr 2571), (Value.bool false), (vi 181 0), (vr 2572), Value.none, Value.none, Value.none, Value.none, (vi 25387 0), (vi 691 0), (vs "/claim/cut.py" 25388)])
noncomputable def o2574 (P : Params) : Obj := (Obj.mk (Value.type "frame") none Data.plain (List.toArray [(some (vr 2573)), (some (vr 3)), (some (vr 2570)), none, (some (vs "netaddr.ip" 24963)), none, (some (vr 0))]))
noncomputable def o2575 (P : Params) : Obj := (tu [])
noncomputable def o2576 (P : Params) : Obj := (Obj.mk Value.none none (Data.fields (List.toArray [])) #[])
noncomputable def o2577 (P : Params) : Obj := (tu [(vs "self" 25397), (vs "start_ip" 25398), (vs "end_ip" 25399)])
noncomputable def o2578 (P : Params) : Obj := (tu [])
noncomputable def o2579 (P : Params) : Obj := (Obj.mk Value.none none (Data.func (FuncData.mk (Str.ofString "__iter__") (Str.ofString "IPListMixin.__iter__") (fA (inC (st 76) 0)) (FuncBody.stmts (fB (inC (st 76) 0))) (fS (inC (st 76) 0)) 0 [] Value.none Value.none Value.none Value.none none Value.none Value.none 0)) #[])
noncomputable def o2580 (P : Params) : Obj := (fo "code" [(vs "__iter__" 25394), (vs "IPListMixin.__iter__" 25395), (vs "/claim/cut.py" 25396), (vi 693 0), (vi 1 0), (vi 0 0), (vi 0 0), (vi 3 0), (vr 2575), (Value.bool true), (vi 181 0), (vr 2576), Value.none, (vr 2577), (vr 2578), (vr 2579), (vi 25400 0), (vi 693 0), (vs "/claim/cut.py" 25401)])
noncomputable def o2581 (P : Params) : Obj := (Obj.mk (Value.type "function") none (Data.func (FuncData.mk (Str.ofString "__iter__") (Str.ofString "IPListMixin.__iter__") (fA (inC (st 76) 0)) (FuncBody.stmts (fB (inC (st 76) 0))) (fS (inC (st 76) 0)) 3 [] Value.none Value.none Value.none (vs "netaddr.ip" 24963) none (vr 2580) Value.none 0)) #[])
noncomputable def o2582 (P : Params) : Obj := (tu [])
noncomputable def o2583 (P : Params) : Obj := (Obj.mk Value.none none (Data.fields (List.toArray [])) #[])
noncomputable def o2584 (P : Params) : Obj := (tu [(vs "self" 25406)])
noncomputable def o2585 (P : Params) : Obj := (tu [])
noncomputable def o2586 (P : Params) : Obj := (Obj.mk Value.none none (Data.func (FuncData.mk (Str.ofString "size") (Str.ofString "IPListMixin.size") (fA (inC (st 76) 1)) (FuncBody.stmts (fB (inC (st 76) 1))) (fS (inC (st 76) 1)) 0 [] Value.none Value.none Value.none Value.none none Value.none Value.none 0)) #[])
noncomputable def o2587 (P : Params) : Obj := (fo "code" [(vs "size" 25403), (vs "IPListMixin.size" 25404), (vs "/claim/cut.py" 25405), (vi 698 0), (vi 1 0), (vi 0 0), (vi 0 0), (vi 3 0), (vr 2582), (Value.bool true), (vi 181 0), (vr 2583), Value.none, (vr 2584), (vr 2585), (vr 2586), (vi 25407 0), (vi 698 0), (vs "/claim/cut.py" 25408)])
noncomputable def o2588 (P : Params) : Obj := (Obj.mk (Value.type "function") none (Data.func (FuncData.mk (Str.ofString "size") (Str.ofString "IPListMixin.size") (fA (inC (st 76) 1)) (FuncBody.stmts (fB (inC (st 76) 1))) (fS (inC (st 76) 1)) 3 [] Value.none Value.none Value.none (vs "netaddr.ip" 24963) none (vr 2587) Value.none 0)) #[])
noncomputable def o2589 (P : Params) : Obj := (fo "property" [(vr 2588), Value.none, Value.none, Value.none, (vs "size" 25410), (Value.bool false)])
noncomputable def o2590 (P : Params) : Obj := (tu [])
noncomputable def o2591 (P : Params) : Obj := (Obj.mk Value.none none (Data.fields (List.toArray [])) #[])
noncomputable def o2592 (P : Params) : Obj := (tu [(vs "self" 25414), (vs "size" 25415)])
noncomputable def o2593 (P : Params) : Obj := (tu [])
noncomputable def o2594 (P : Params) : Obj := (Obj.mk Value.none none (Data.func (FuncData.mk (Str.ofString "__len__") (Str.ofString "IPListMixin.__len__") (fA (inC (st 76) 2)) (FuncBody.stmts (fB (inC (st 76) 2))) (fS (inC (st 76) 2)) 0 [] Value.none Value.none Value.none Value.none none Value.none Value.none 0)) #[])
noncomputable def o2595 (P : Params) : Obj := (fo "code" [(vs "__len__" 25411), (vs "IPListMixin.__len__" 25412), (vs "/claim/cut.py" 25413), (vi 702 0), (vi 1 0), (vi 0 0), (vi 0 0), (vi 3 0), (vr 2590), (Value.bool true), (vi 181 0), (vr 2591), Value.none, (vr 2592), (vr 2593), (vr 2594), (vi 25416 0), (vi 702 0), (vs "/claim/cut.py" 25417)])
noncomputable def o2596 (P : Params) : Obj := (Obj.mk (Value.type "function") none (Data.func (FuncData.mk (Str.ofString "__len__") (Str.ofString "IPListMixin.__len__") (fA (inC (st 76) 2)) (FuncBody.stmts (fB (inC (st 76) 2))) (fS (inC (st 76) 2)) 3 [] Value.none Value.none Value.none (vs "netaddr.ip" 24963) none (vr 2595) Value.none 0)) #[])
noncomputable def o2597 (P : Params) : Obj := (tu [])
noncomputable def o2598 (P : Params) : Obj := (Obj.mk Value.none none (Data.fields (List.toArray [])) #[])
noncomputable def o2599 (P : Params) : Obj := (tu [(vs "self" 25422), (vs "index" 25423), (vs "item" 25424)])
noncomputable def o2600 (P : Params) : Obj := (tu [])
noncomputable def o2601 (P : Params) : Obj := (Obj.mk Value.none none (Data.func (FuncData.mk (Str.ofString "__getitem__") (Str.ofString "IPListMixin.__getitem__") (fA (inC (st 76) 3)) (FuncBody.stmts (fB (inC (st 76) 3))) (fS (inC (st 76) 3)) 0 [] Value.none Value.none Value.none Value.none none Value.none Value.none 0)) #[])
noncomputable def o2602 (P : Params) : Obj := (fo "code" [(vs "__getitem__" 25419), (vs "IPListMixin.__getitem__" 25420), (vs "/claim/cut.py" 25421), (vi 708 0), (vi 2 0), (vi 0 0), (vi 0 0), (vi 3 0), (vr 2597), (Value.bool true), (vi 181 0), (vr 2598), Value.none, (vr 2599), (vr 2600), (vr 2601), (vi 25425 0), (vi 708 0), (vs "/claim/cut.py" 25426)])
noncomputable def o2603 (P : Params) : Obj := (Obj.mk (Value.type "function") none (Data.func (FuncData.mk (Str.ofString "__getitem__") (Str.ofString "IPListMixin.__getitem__") (fA (inC (st 76) 3)) (FuncBody.stmts (fB (inC (st 76) 3))) (fS (inC (st 76) 3)) 3 [] Value.none Value.none Value.none (vs "netaddr.ip" 24963) none (vr 2602) Value.none 0)) #[])
noncomputable def o2604 (P : Params) : Obj := (tu [])
noncomputable def o2605 (P : Params) : Obj := (Obj.mk Value.none none (Data.fields (List.toArray [])) #[])
noncomputable def o2606 (P : Params) : Obj := (tu [(vs "self" 25431)])
noncomputable def o2607 (P : Params) : Obj := (tu [])
noncomputable def o2608 (P : Params) : Obj := (Obj.mk Value.none none (Data.func (FuncData.mk (Str.ofString "__bool__") (Str.ofString "IPListMixin.__bool__") (fA (inC (st 76) 4)) (FuncBody.stmts (fB (inC (st 76) 4))) (fS (inC (st 79) 8)) 0 [] Value.none Value.none Value.none Value.none none Value.none Value.none 0)) #[])
noncomputable def o2609 (P : Params) : Obj := (fo "code" [(vs "__bool__" 25428), (vs "IPListMixin.__bool__" 25429), (vs "/claim/cut.py" 25430), (vi 722 0), (vi 1 0), (vi 0 0), (vi 0 0), (vi 3 0), (vr 2604), (Value.bool true), (vi 181 0), (vr 2605), Value.none, (vr 2606), (vr 2607), (vr 2608), (vi 25432 0), (vi 722 0), (vs "/claim/cut.py" 25433)])
noncomputable def o2610 (P : Params) : Obj := (Obj.mk (Value.type "function") none (Data.func (FuncData.mk (Str.ofString "__bool__") (Str.ofString "IPListMixin.__bool__") (fA (inC (st 76) 4)) (FuncBody.stmts (fB (inC (st 76) 4))) (fS (inC (st 79) 8)) 3 [] Value.none Value.none Value.none (vs "netaddr.ip" 24963) none (vr 2609) Value.none 0)) #[])
noncomputable def o2611 (P : Params) : Obj := (tu [])
noncomputable def o2612 (P : Params) : Obj := (di [(de P "__module__" 25389 (vs "netaddr.ip" 24963)), (de P "__firstlineno__" 25393 (vi 691 25392)), (de P "__iter__" 25402 (vr 2581)), (de P "size" 25410 (vr 2589)), (de P "__len__" 25418 (vr 2596)), (de P "__getitem__" 25427 (vr 2603)), (de P "__bool__" 25434 (vr 2610)), (de P "__static_attributes__" 25435 (vr 2611)), (de P "__doc__" 25436 Value.none)] 2)
noncomputable def o2613 (P : Params) : Obj := (Obj.mk (Value.type "type") none (Data.cls (ClassData.mk (Str.ofString "IPListMixin") [(vr 2317)] [(vr 2613), (vr 2317), (Value.type "object")] 2612 (Str.ofString "IPListMixin") true [] [(vr 2868), (vr 2946)] false none false)) (List.toArray [(some (vr 2568)), none, (some (vs "IPListMixin" 25382)), (some (vs "IPListMixin" 25390)), (some (Value.builtin "object.__new__")), (some (Value.bool true))]))
noncomputable def o2614 (P : Params) : Obj := (fo "super" [(vr 2613), (vr 2613), (vr 2613)])
noncomputable def o2615 (P : Params) : Obj := (fo "builtin_function_or_method" [(Value.builtin "object.__init_subclass__"), (vr 2613)])
noncomputable def o2616 (P : Params) : Obj := (tu [(vi 0 25439)])
noncomputable def o2617 (P : Params) : Obj := (di [(de P "expand_partial" 25440 (Value.bool false))] 1)
noncomputable def o2618 (P : Params) : Obj := (tu [])
noncomputable def o2619 (P : Params) : Obj := (Obj.mk Value.none none (Data.fields (List.toArray [])) #[])
noncomputable def o2620 (P : Params) : Obj := (tu [(vs "module" 25444), (vs "addr" 25445), (vs "flags" 25446), (vs "expand_partial" 25447), (vs "value" 25448), (vs "prefixlen" 25449), (vs "val1" 25450), (vs "val2" 25451), (vs "ip" 25452), (vs "mask" 25453), (vs "netmask" 25454)])
noncomputable def o2621 (P : Params) : Obj := (tu [])
noncomputable def o2622 (P : Params) : Obj := (Obj.mk Value.none none (Data.func (FuncData.mk (Str.ofString "parse_ip_network") (Str.ofString "parse_ip_network") (fA (st 77)) (FuncBody.stmts (fB (st 77))) (fS (st 77)) 0 [] Value.none Value.none Value.none Value.none none Value.none Value.none 0)) #[])
noncomputable def o2623 (P : Params) : Obj := (fo "code" [(vs "parse_ip_network" 25441), (vs "parse_ip_network" 25442), (vs "/claim/cut.py" 25443), (vi 724 0), (vi 3 0), (vi 0 0), (vi 1 0), (vi 3 0), (vr 2618), (Value.bool true), (vi 181 0), (vr 2619), Value.none, (vr 2620), (vr 2621), (vr 2622), (vi 25455 0), (vi 724 0), (vs "/claim/cut.py" 25456)])
noncomputable def o2624 (P : Params) : Obj := by
  refine (fun (_ : st 77 = .FunctionDef ?n ?a ?b ?d ?r ?t ?s ?u ?v ?p) => (Obj.mk (Value.type "function") none (Data.func (FuncData.mk (Str.ofString "parse_ip_network") (Str.ofString "parse_ip_network") ?a (FuncBody.stmts ?b) ?s 3 [] (vr 2616) (vr 2617) Value.none (vs "netaddr.ip" 24963) none (vr 2623) Value.none 0)) #[])) ?e
  case e => rfl
noncomputable def o2625 (P : Params) : Obj := (tu [(vr 2613)])
noncomputable def o2626 (P : Params) : Obj := (fo "builtin_function_or_method" [(Value.builtin "type.__prepare__"), (Value.type "type")])
noncomputable def o2627 (P : Params) : Obj := (di [(de P "__module__" 25465 (vs "netaddr.ip" 24963)), (de P "__qualname__" 25467 (vs "IPNetwork" 25466)), (de P "__firstlineno__" 25469 (vi 764 25468)), (de P "__init__" 25487 (vr 2642)), (de P "_set_prefixlen" 25495 (vr 2649)), (de P "prefixlen" 25503 (vr 2666)), (de P "ip" 25521 (vr 2674)), (de P "network" 25529 (vr 2682)), (de P "broadcast" 25537 (vr 2690)), (de P "first" 25545 (vr 2698)), (de P "last" 25554 (vr 2706)), (de P "netmask" 25563 (vr 2723)), (de P "_netmask_int" 25582 (vr 2731)), (de P "hostmask" 25591 (vr 2739)), (de P "_hostmask_int" 25599 (vr 2747)), (de P "cidr" 25607 (vr 2755)), (de P "__iadd__" 25616 (vr 2762)), (de P "__isub__" 25625 (vr 2769)), (de P "__contains__" 25636 (vr 2776)), (de P "key" 25643 (vr 2783)), (de P "sort_key" 25653 (vr 2790)), (de P "ipv4" 25660 (vr 2797)), (de P "ipv6" 25668 (vr 2805)), (de P "previous" 25677 (vr 2813)), (de P "next" 25686 (vr 2821)), (de P "supernet" 25695 (vr 2829)), (de P "subnet" 25710 (vr 2837)), (de P "iter_hosts" 25717 (vr 2844)), (de P "_usable_range" 25724 (vr 2851)), (de P "__str__" 25732 (vr 2858)), (de P "__repr__" 25739 (vr 2865)), (de P "__static_attributes__" 25744 (vr 2866)), (de P "__classcell__" 25745 (vr 2628))] 33)
noncomputable def o2628 (P : Params) : Obj := (Obj.mk (Value.type "cell") none (Data.cell (some (vr 2868))) #[])
noncomputable def o2629 (P : Params) : Obj := (tu [])
noncomputable def o2630 (P : Params) : Obj := (Obj.mk Value.none none (Data.fields (List.toArray [(vi 766 0), (vi 4 0), (vr 2641), (vi 806 0), (vi 4 0), (vr 2648), (vi 814 0), (vi 4 0), (vr 2655), (vi 818 0), (vi 4 0), (vr 2664), (vi 822 0), (vi 4 0), (vr 2672), (vi 826 0), (vi 4 0), (vr 2680), (vi 830 0), (vi 4 0), (vr 2688), (vi 834 0), (vi 4 0), (vr 2696), (vi 838 0), (vi 4 0), (vr 2704), (vi 843 0), (vi 4 0), (vr 2712), (vi 848 0), (vi 4 0), (vr 2721), (vi 857 0), (vi 4 0), (vr 2729), (vi 861 0), (vi 4 0), (vr 2737), (vi 866 0), (vi 4 0), (vr 2745), (vi 870 0), (vi 4 0), (vr 2753), (vi 873 0), (vi 4 0), (vr 2761), (vi 882 0), (vi 4 0), (vr 2768), (vi 891 0), (vi 4 0), (vr 2775), (vi 906 0), (vi 4 0), (vr 2782), (vi 909 0), (vi 4 0), (vr 2789), (vi 915 0), (vi 4 0), (vr 2796), (vi 918 0), (vi 4 0), (vr 2804), (vi 921 0), (vi 4 0), (vr 2812), (vi 924 0), (vi 4 0), (vr 2820), (vi 927 0), (vi 4 0), (vr 2828), (vi 930 0), (vi 4 0), (vr 2836), (vi 950 0), (vi 4 0), (vr 2843), (vi 953 0), (vi 4 0), (vr 2850), (vi 956 0), (vi 4 0), (vr 2857), (vi 960 0), (vi 4 0), (vr 2864)])) #[])
noncomputable def o2631 (P : Params) : Obj := (fo "code" [(vs "IPNetwork" 25460), (vs "IPNetwork" 25461), (vs "/claim/cut.py" 25462), (vi 764 0), (vi 0 0), (vi 0 0), (vi 0 0), (vi 0 0), (vr 2629), (Value.bool false), (vi 181 0), (vr 2630), Value.none, Value.none, Value.none, Value.none, (vi 25463 0), (vi 764 0), (vs "/claim/cut.py" 25464)])
noncomputable def o2632 (P : Params) : Obj := (Obj.mk (Value.type "frame") none Data.plain (List.toArray [(some (vr 2631)), (some (vr 3)), (some (vr 2627)), none, (some (vs "netaddr.ip" 24963)), none, (some (vr 0))]))
noncomputable def o2633 (P : Params) : Obj := (tu [Value.none, (vi 0 25470)])
noncomputable def o2634 (P : Params) : Obj := (di [(de P "expand_partial" 25471 (Value.bool false))] 1)
noncomputable def o2635 (P : Params) : Obj := (tu [(vr 2628)])
noncomputable def o2636 (P : Params) : Obj := (tu [(vs "__class__" 25475)])
noncomputable def o2637 (P : Params) : Obj := (Obj.mk Value.none none (Data.fields (List.toArray [])) #[])
noncomputable def o2638 (P : Params) : Obj := (tu [(vs "self" 25476), (vs "addr" 25477), (vs "version" 25478), (vs "flags" 25479), (vs "expand_partial" 25480), (vs "value" 25481), (vs "prefixlen" 25482), (vs "module" 25483), (vs "netmask" 25484)])
noncomputable def o2639 (P : Params) : Obj := (tu [])
noncomputable def o2640 (P : Params) : Obj := (Obj.mk Value.none none (Data.func (FuncData.mk (Str.ofString "__init__") (Str.ofString "IPNetwork.__init__") (fA (inC (st 78) 0)) (FuncBody.stmts (fB (inC (st 78) 0))) (fS (inC (st 78) 0)) 0 [] Value.none Value.none Value.none Value.none none Value.none Value.none 0)) #[])
noncomputable def o2641 (P : Params) : Obj := (fo "code" [(vs "__init__" 25472), (vs "IPNetwork.__init__" 25473), (vs "/claim/cut.py" 25474), (vi 766 0), (vi 4 0), (vi 0 0), (vi 1 0), (vi 3 0), (vr 2636), (Value.bool true), (vi 181 0), (vr 2637), Value.none, (vr 2638), (vr 2639), (vr 2640), (vi 25485 0), (vi 766 0), (vs "/claim/cut.py" 25486)])
noncomputable def o2642 (P : Params) : Obj := by
  refine (fun (_ : inC (st 78) 0 = .FunctionDef ?n ?a ?b ?d ?r ?t ?s ?u ?v ?p) => (Obj.mk (Value.type "function") none (Data.func (FuncData.mk (Str.ofString "__init__") (Str.ofString "IPNetwork.__init__") ?a (FuncBody.stmts ?b) ?s 3 [(Prod.mk (Str.ofString "__class__") 2628)] (vr 2633) (vr 2634) Value.none (vs "netaddr.ip" 24963) none (vr 2641) (vr 2635) 0)) #[])) ?e
  case e => rfl
noncomputable def o2643 (P : Params) : Obj := (tu [])
noncomputable def o2644 (P : Params) : Obj := (Obj.mk Value.none none (Data.fields (List.toArray [])) #[])
noncomputable def o2645 (P : Params) : Obj := (tu [(vs "self" 25491), (vs "value" 25492)])
noncomputable def o2646 (P : Params) : Obj := (tu [])
noncomputable def o2647 (P : Params) : Obj := (Obj.mk Value.none none (Data.func (FuncData.mk (Str.ofString "_set_prefixlen") (Str.ofString "IPNetwork._set_prefixlen") (fA (inC (st 78) 1)) (FuncBody.stmts (fB (inC (st 78) 1))) (fS (inC (st 78) 1)) 0 [] Value.none Value.none Value.none Value.none none Value.none Value.none 0)) #[])
noncomputable def o2648 (P : Params) : Obj := (fo "code" [(vs "_set_prefixlen" 25488), (vs "IPNetwork._set_prefixlen" 25489), (vs "/claim/cut.py" 25490), (vi 806 0), (vi 2 0), (vi 0 0), (vi 0 0), (vi 3 0), (vr 2643), (Value.bool true), (vi 181 0), (vr 2644), Value.none, (vr 2645), (vr 2646), (vr 2647), (vi 25493 0), (vi 806 0), (vs "/claim/cut.py" 25494)])
noncomputable def o2649 (P : Params) : Obj := (Obj.mk (Value.type "function") none (Data.func (FuncData.mk (Str.ofString "_set_prefixlen") (Str.ofString "IPNetwork._set_prefixlen") (fA (inC (st 78) 1)) (FuncBody.stmts (fB (inC (st 78) 1))) (fS (inC (st 78) 1)) 3 [] Value.none Value.none Value.none (vs "netaddr.ip" 24963) none (vr 2648) Value.none 0)) #[])
noncomputable def o2650 (P : Params) : Obj := (tu [])
noncomputable def o2651 (P : Params) : Obj := (Obj.mk Value.none none (Data.fields (List.toArray [])) #[])
noncomputable def o2652 (P : Params) : Obj := (tu [(vs "self" 25499)])
noncomputable def o2653 (P : Params) : Obj := (tu [])
noncomputable def o2654 (P : Params) : Obj := (Obj.mk Value.none none (Data.func (FuncData.mk (Str.ofString "prefixlen") (Str.ofString "IPNetwork.prefixlen") (fA (inC (st 78) 2)) (FuncBody.stmts (fB (inC (st 78) 2))) (fS (inC (st 79) 8)) 0 [] Value.none Value.none Value.none Value.none none Value.none Value.none 0)) #[])
noncomputable def o2655 (P : Params) : Obj := (fo "code" [(vs "prefixlen" 25496), (vs "IPNetwork.prefixlen" 25497), (vs "/claim/cut.py" 25498), (vi 813 0), (vi 1 0), (vi 0 0), (vi 0 0), (vi 3 0), (vr 2650), (Value.bool true), (vi 181 0), (vr 2651), Value.none, (vr 2652), (vr 2653), (vr 2654), (vi 25500 0), (vi 813 0), (vs "/claim/cut.py" 25501)])
noncomputable def o2656 (P : Params) : Obj := by
  refine (fun (_ : inC (st 78) 2 = .FunctionDef ?n ?a ?b ?d ?r ?t ?s ?u ?v ?p) => (Obj.mk (Value.type "function") none (Data.func (FuncData.mk (Str.ofString "prefixlen") (Str.ofString "IPNetwork.prefixlen") ?a (FuncBody.stmts ?b) ?s 3 [] Value.none Value.none Value.none (vs "netaddr.ip" 24963) none (vr 2655) Value.none 0)) #[])) ?e
  case e => rfl
noncomputable def o2657 (P : Params) : Obj := (fo "property" [(vr 2656), Value.none, Value.none, Value.none, (vi 0 0), (Value.bool false)])
noncomputable def o2658 (P : Params) : Obj := (fo "builtin_function_or_method" [(Value.builtin "property.setter"), (vr 2657)])
noncomputable def o2659 (P : Params) : Obj := (tu [])
noncomputable def o2660 (P : Params) : Obj := (Obj.mk Value.none none (Data.fields (List.toArray [])) #[])
noncomputable def o2661 (P : Params) : Obj := (tu [(vs "self" 25508), (vs "value" 25509)])
noncomputable def o2662 (P : Params) : Obj := (tu [])
noncomputable def o2663 (P : Params) : Obj := (Obj.mk Value.none none (Data.func (FuncData.mk (Str.ofString "prefixlen") (Str.ofString "IPNetwork.prefixlen") (fA (inC (st 78) 3)) (FuncBody.stmts (fB (inC (st 78) 3))) (fS (inC (st 78) 3)) 0 [] Value.none Value.none Value.none Value.none none Value.none Value.none 0)) #[])
noncomputable def o2664 (P : Params) : Obj := (fo "code" [(vs "prefixlen" 25505), (vs "IPNetwork.prefixlen" 25506), (vs "/claim/cut.py" 25507), (vi 817 0), (vi 2 0), (vi 0 0), (vi 0 0), (vi 3 0), (vr 2659), (Value.bool true), (vi 181 0), (vr 2660), Value.none, (vr 2661), (vr 2662), (vr 2663), (vi 25510 0), (vi 817 0), (vs "/claim/cut.py" 25511)])
noncomputable def o2665 (P : Params) : Obj := by
  refine (fun (_ : inC (st 78) 3 = .FunctionDef ?n ?a ?b ?d ?r ?t ?s ?u ?v ?p) => (Obj.mk (Value.type "function") none (Data.func (FuncData.mk (Str.ofString "prefixlen") (Str.ofString "IPNetwork.prefixlen") ?a (FuncBody.stmts ?b) ?s 3 [] Value.none Value.none Value.none (vs "netaddr.ip" 24963) none (vr 2664) Value.none 0)) #[])) ?e
  case e => rfl
noncomputable def o2666 (P : Params) : Obj := (fo "property" [(vr 2656), (vr 2665), Value.none, Value.none, (vs "prefixlen" 25503), (Value.bool false)])
noncomputable def o2667 (P : Params) : Obj := (tu [])
noncomputable def o2668 (P : Params) : Obj := (Obj.mk Value.none none (Data.fields (List.toArray [])) #[])
noncomputable def o2669 (P : Params) : Obj := (tu [(vs "self" 25517)])
noncomputable def o2670 (P : Params) : Obj := (tu [])
noncomputable def o2671 (P : Params) : Obj := (Obj.mk Value.none none (Data.func (FuncData.mk (Str.ofString "ip") (Str.ofString "IPNetwork.ip") (fA (inC (st 78) 4)) (FuncBody.stmts (fB (inC (st 78) 4))) (fS (inC (st 78) 5)) 0 [] Value.none Value.none Value.none Value.none none Value.none Value.none 0)) #[])
noncomputable def o2672 (P : Params) : Obj := (fo "code" [(vs "ip" 25514), (vs "IPNetwork.ip" 25515), (vs "/claim/cut.py" 25516), (vi 821 0), (vi 1 0), (vi 0 0), (vi 0 0), (vi 3 0), (vr 2667), (Value.bool true), (vi 181 0), (vr 2668), Value.none, (vr 2669), (vr 2670), (vr 2671), (vi 25518 0), (vi 821 0), (vs "/claim/cut.py" 25519)])
noncomputable def o2673 (P : Params) : Obj := (Obj.mk (Value.type "function") none (Data.func (FuncData.mk (Str.ofString "ip") (Str.ofString "IPNetwork.ip") (fA (inC (st 78) 4)) (FuncBody.stmts (fB (inC (st 78) 4))) (fS (inC (st 78) 5)) 3 [] Value.none Value.none Value.none (vs "netaddr.ip" 24963) none (vr 2672) Value.none 0)) #[])
noncomputable def o2674 (P : Params) : Obj := (fo "property" [(vr 2673), Value.none, Value.none, Value.none, (vs "ip" 25521), (Value.bool false)])
noncomputable def o2675 (P : Params) : Obj := (tu [])
noncomputable def o2676 (P : Params) : Obj := (Obj.mk Value.none none (Data.fields (List.toArray [])) #[])
noncomputable def o2677 (P : Params) : Obj := (tu [(vs "self" 25525)])
noncomputable def o2678 (P : Params) : Obj := (tu [])
noncomputable def o2679 (P : Params) : Obj := (Obj.mk Value.none none (Data.func (FuncData.mk (Str.ofString "network") (Str.ofString "IPNetwork.network") (fA (inC (st 78) 5)) (FuncBody.stmts (fB (inC (st 78) 5))) (fS (inC (st 78) 5)) 0 [] Value.none Value.none Value.none Value.none none Value.none Value.none 0)) #[])
noncomputable def o2680 (P : Params) : Obj := (fo "code" [(vs "network" 25522), (vs "IPNetwork.network" 25523), (vs "/claim/cut.py" 25524), (vi 825 0), (vi 1 0), (vi 0 0), (vi 0 0), (vi 3 0), (vr 2675), (Value.bool true), (vi 181 0), (vr 2676), Value.none, (vr 2677), (vr 2678), (vr 2679), (vi 25526 0), (vi 825 0), (vs "/claim/cut.py" 25527)])
noncomputable def o2681 (P : Params) : Obj := (Obj.mk (Value.type "function") none (Data.func (FuncData.mk (Str.ofString "network") (Str.ofString "IPNetwork.network") (fA (inC (st 78) 5)) (FuncBody.stmts (fB (inC (st 78) 5))) (fS (inC (st 78) 5)) 3 [] Value.none Value.none Value.none (vs "netaddr.ip" 24963) none (vr 2680) Value.none 0)) #[])
noncomputable def o2682 (P : Params) : Obj := (fo "property" [(vr 2681), Value.none, Value.none, Value.none, (vs "network" 25529), (Value.bool false)])
noncomputable def o2683 (P : Params) : Obj := (tu [])
noncomputable def o2684 (P : Params) : Obj := (Obj.mk Value.none none (Data.fields (List.toArray [])) #[])
noncomputable def o2685 (P : Params) : Obj := (tu [(vs "self" 25533)])
noncomputable def o2686 (P : Params) : Obj := (tu [])
noncomputable def o2687 (P : Params) : Obj := (Obj.mk Value.none none (Data.func (FuncData.mk (Str.ofString "broadcast") (Str.ofString "IPNetwork.broadcast") (fA (inC (st 78) 6)) (FuncBody.stmts (fB (inC (st 78) 6))) (fS (inC (st 79) 6)) 0 [] Value.none Value.none Value.none Value.none none Value.none Value.none 0)) #[])
noncomputable def o2688 (P : Params) : Obj := (fo "code" [(vs "broadcast" 25530), (vs "IPNetwork.broadcast" 25531), (vs "/claim/cut.py" 25532), (vi 829 0), (vi 1 0), (vi 0 0), (vi 0 0), (vi 3 0), (vr 2683), (Value.bool true), (vi 181 0), (vr 2684), Value.none, (vr 2685), (vr 2686), (vr 2687), (vi 25534 0), (vi 829 0), (vs "/claim/cut.py" 25535)])
noncomputable def o2689 (P : Params) : Obj := (Obj.mk (Value.type "function") none (Data.func (FuncData.mk (Str.ofString "broadcast") (Str.ofString "IPNetwork.broadcast") (fA (inC (st 78) 6)) (FuncBody.stmts (fB (inC (st 78) 6))) (fS (inC (st 79) 6)) 3 [] Value.none Value.none Value.none (vs "netaddr.ip" 24963) none (vr 2688) Value.none 0)) #[])
noncomputable def o2690 (P : Params) : Obj := (fo "property" [(vr 2689), Value.none, Value.none, Value.none, (vs "broadcast" 25537), (Value.bool false)])
noncomputable def o2691 (P : Params) : Obj := (tu [])
noncomputable def o2692 (P : Params) : Obj := (Obj.mk Value.none none (Data.fields (List.toArray [])) #[])
noncomputable def o2693 (P : Params) : Obj := (tu [(vs "self" 25541)])
noncomputable def o2694 (P : Params) : Obj := (tu [])
noncomputable def o2695 (P : Params) : Obj := (Obj.mk Value.none none (Data.func (FuncData.mk (Str.ofString "first") (Str.ofString "IPNetwork.first") (fA (inC (st 78) 7)) (FuncBody.stmts (fB (inC (st 78) 7))) (fS (inC (st 79) 8)) 0 [] Value.none Value.none Value.none Value.none none Value.none Value.none 0)) #[])
noncomputable def o2696 (P : Params) : Obj := (fo "code" [(vs "first" 25538), (vs "IPNetwork.first" 25539), (vs "/claim/cut.py" 25540), (vi 833 0), (vi 1 0), (vi 0 0), (vi 0 0), (vi 3 0), (vr 2691), (Value.bool true), (vi 181 0), (vr 2692), Value.none, (vr 2693), (vr 2694), (vr 2695), (vi 25542 0), (vi 833 0), (vs "/claim/cut.py" 25543)])
noncomputable def o2697 (P : Params) : Obj := by
  refine (fun (_ : inC (st 78) 7 = .FunctionDef ?n ?a ?b ?d ?r ?t ?s ?u ?v ?p) => (Obj.mk (Value.type "function") none (Data.func (FuncData.mk (Str.ofString "first") (Str.ofString "IPNetwork.first") ?a (FuncBody.stmts ?b) ?s 3 [] Value.none Value.none Value.none (vs "netaddr.ip" 24963) none (vr 2696) Value.none 0)) #[])) ?e
  case e => rfl
noncomputable def o2698 (P : Params) : Obj := (fo "property" [(vr 2697), Value.none, Value.none, Value.none, (vs "first" 25545), (Value.bool false)])
noncomputable def o2699 (P : Params) : Obj := (tu [])
noncomputable def o2700 (P : Params) : Obj := (Obj.mk Value.none none (Data.fields (List.toArray [])) #[])
noncomputable def o2701 (P : Params) : Obj := (tu [(vs "self" 25549), (vs "hostmask" 25550)])
noncomputable def o2702 (P : Params) : Obj := (tu [])
noncomputable def o2703 (P : Params) : Obj := (Obj.mk Value.none none (Data.func (FuncData.mk (Str.ofString "last") (Str.ofString "IPNetwork.last") (fA (inC (st 78) 8)) (FuncBody.stmts (fB (inC (st 78) 8))) (fS (inC (st 78) 8)) 0 [] Value.none Value.none Value.none Value.none none Value.none Value.none 0)) #[])
noncomputable def o2704 (P : Params) : Obj := (fo "code" [(vs "last" 25546), (vs "IPNetwork.last" 25547), (vs "/claim/cut.py" 25548), (vi 837 0), (vi 1 0), (vi 0 0), (vi 0 0), (vi 3 0), (vr 2699), (Value.bool true), (vi 181 0), (vr 2700), Value.none, (vr 2701), (vr 2702), (vr 2703), (vi 25551 0), (vi 837 0), (vs "/claim/cut.py" 25552)])
noncomputable def o2705 (P : Params) : Obj := by
  refine (fun (_ : inC (st 78) 8 = .FunctionDef ?n ?a ?b ?d ?r ?t ?s ?u ?v ?p) => (Obj.mk (Value.type "function") none (Data.func (FuncData.mk (Str.ofString "last") (Str.ofString "IPNetwork.last") ?a (FuncBody.stmts ?b) ?s 3 [] Value.none Value.none Value.none (vs "netaddr.ip" 24963) none (vr 2704) Value.none 0)) #[])) ?e
  case e => rfl
noncomputable def o2706 (P : Params) : Obj := (fo "property" [(vr 2705), Value.none, Value.none, Value.none, (vs "last" 25554), (Value.bool false)])
noncomputable def o2707 (P : Params) : Obj := (tu [])
noncomputable def o2708 (P : Params) : Obj := (Obj.mk Value.none none (Data.fields (List.toArray [])) #[])
noncomputable def o2709 (P : Params) : Obj := (tu [(vs "self" 25558), (vs "netmask" 25559)])
noncomputable def o2710 (P : Params) : Obj := (tu [])
noncomputable def o2711 (P : Params) : Obj := (Obj.mk Value.none none (Data.func (FuncData.mk (Str.ofString "netmask") (Str.ofString "IPNetwork.netmask") (fA (inC (st 78) 9)) (FuncBody.stmts (fB (inC (st 78) 9))) (fS (inC (st 78) 9)) 0 [] Value.none Value.none Value.none Value.none none Value.none Value.none 0)) #[])
noncomputable def o2712 (P : Params) : Obj := (fo "code" [(vs "netmask" 25555), (vs "IPNetwork.netmask" 25556), (vs "/claim/cut.py" 25557), (vi 842 0), (vi 1 0), (vi 0 0), (vi 0 0), (vi 3 0), (vr 2707), (Value.bool true), (vi 181 0), (vr 2708), Value.none, (vr 2709), (vr 2710), (vr 2711), (vi 25560 0), (vi 842 0), (vs "/claim/cut.py" 25561)])
noncomputable def o2713 (P : Params) : Obj := (Obj.mk (Value.type "function") none (Data.func (FuncData.mk (Str.ofString "netmask") (Str.ofString "IPNetwork.netmask") (fA (inC (st 78) 9)) (FuncBody.stmts (fB (inC (st 78) 9))) (fS (inC (st 78) 9)) 3 [] Value.none Value.none Value.none (vs "netaddr.ip" 24963) none (vr 2712) Value.none 0)) #[])
noncomputable def o2714 (P : Params) : Obj := (fo "property" [(vr 2713), Value.none, Value.none, Value.none, (vi 0 0), (Value.bool false)])
noncomputable def o2715 (P : Params) : Obj := (fo "builtin_function_or_method" [(Value.builtin "property.setter"), (vr 2714)])
noncomputable def o2716 (P : Params) : Obj := (tu [])
noncomputable def o2717 (P : Params) : Obj := (Obj.mk Value.none none (Data.fields (List.toArray [])) #[])
noncomputable def o2718 (P : Params) : Obj := (tu [(vs "self" 25568), (vs "value" 25569), (vs "ip" 25570)])
noncomputable def o2719 (P : Params) : Obj := (tu [])
noncomputable def o2720 (P : Params) : Obj := (Obj.mk Value.none none (Data.func (FuncData.mk (Str.ofString "netmask") (Str.ofString "IPNetwork.netmask") (fA (inC (st 78) 10)) (FuncBody.stmts (fB (inC (st 78) 10))) (fS (inC (st 78) 10)) 0 [] Value.none Value.none Value.none Value.none none Value.none Value.none 0)) #[])
noncomputable def o2721 (P : Params) : Obj := (fo "code" [(vs "netmask" 25565), (vs "IPNetwork.netmask" 25566), (vs "/claim/cut.py" 25567), (vi 847 0), (vi 2 0), (vi 0 0), (vi 0 0), (vi 3 0), (vr 2716), (Value.bool true), (vi 181 0), (vr 2717), Value.none, (vr 2718), (vr 2719), (vr 2720), (vi 25571 0), (vi 847 0), (vs "/claim/cut.py" 25572)])
noncomputable def o2722 (P : Params) : Obj := (Obj.mk (Value.type "function") none (Data.func (FuncData.mk (Str.ofString "netmask") (Str.ofString "IPNetwork.netmask") (fA (inC (st 78) 10)) (FuncBody.stmts (fB (inC (st 78) 10))) (fS (inC (st 78) 10)) 3 [] Value.none Value.none Value.none (vs "netaddr.ip" 24963) none (vr 2721) Value.none 0)) #[])
noncomputable def o2723 (P : Params) : Obj := (fo "property" [(vr 2713), (vr 2722), Value.none, Value.none, (vs "netmask" 25563), (Value.bool false)])
noncomputable def o2724 (P : Params) : Obj := (tu [])
noncomputable def o2725 (P : Params) : Obj := (Obj.mk Value.none none (Data.fields (List.toArray [])) #[])
noncomputable def o2726 (P : Params) : Obj := (tu [(vs "self" 25578)])
noncomputable def o2727 (P : Params) : Obj := (tu [])
noncomputable def o2728 (P : Params) : Obj := (Obj.mk Value.none none (Data.func (FuncData.mk (Str.ofString "_netmask_int") (Str.ofString "IPNetwork._netmask_int") (fA (inC (st 78) 11)) (FuncBody.stmts (fB (inC (st 78) 11))) (fS (inC (st 79) 8)) 0 [] Value.none Value.none Value.none Value.none none Value.none Value.none 0)) #[])
noncomputable def o2729 (P : Params) : Obj := (fo "code" [(vs "_netmask_int" 25575), (vs "IPNetwork._netmask_int" 25576), (vs "/claim/cut.py" 25577), (vi 856 0), (vi 1 0), (vi 0 0), (vi 0 0), (vi 3 0), (vr 2724), (Value.bool true), (vi 181 0), (vr 2725), Value.none, (vr 2726), (vr 2727), (vr 2728), (vi 25579 0), (vi 856 0), (vs "/claim/cut.py" 25580)])
noncomputable def o2730 (P : Params) : Obj := by
  refine (fun (_ : inC (st 78) 11 = .FunctionDef ?n ?a ?b ?d ?r ?t ?s ?u ?v ?p) => (Obj.mk (Value.type "function") none (Data.func (FuncData.mk (Str.ofString "_netmask_int") (Str.ofString "IPNetwork._netmask_int") ?a (FuncBody.stmts ?b) ?s 3 [] Value.none Value.none Value.none (vs "netaddr.ip" 24963) none (vr 2729) Value.none 0)) #[])) ?e
  case e => rfl
noncomputable def o2731 (P : Params) : Obj := (fo "property" [(vr 2730), Value.none, Value.none, Value.none, (vs "_netmask_int" 25582), (Value.bool false)])
noncomputable def o2732 (P : Params) : Obj := (tu [])
noncomputable def o2733 (P : Params) : Obj := (Obj.mk Value.none none (Data.fields (List.toArray [])) #[])
noncomputable def o2734 (P : Params) : Obj := (tu [(vs "self" 25586), (vs "hostmask" 25587)])
noncomputable def o2735 (P : Params) : Obj := (tu [])
noncomputable def o2736 (P : Params) : Obj := (Obj.mk Value.none none (Data.func (FuncData.mk (Str.ofString "hostmask") (Str.ofString "IPNetwork.hostmask") (fA (inC (st 78) 12)) (FuncBody.stmts (fB (inC (st 78) 12))) (fS (inC (st 78) 12)) 0 [] Value.none Value.none Value.none Value.none none Value.none Value.none 0)) #[])
noncomputable def o2737 (P : Params) : Obj := (fo "code" [(vs "hostmask" 25583), (vs "IPNetwork.hostmask" 25584), (vs "/claim/cut.py" 25585), (vi 860 0), (vi 1 0), (vi 0 0), (vi 0 0), (vi 3 0), (vr 2732), (Value.bool true), (vi 181 0), (vr 2733), Value.none, (vr 2734), (vr 2735), (vr 2736), (vi 25588 0), (vi 860 0), (vs "/claim/cut.py" 25589)])
noncomputable def o2738 (P : Params) : Obj := (Obj.mk (Value.type "function") none (Data.func (FuncData.mk (Str.ofString "hostmask") (Str.ofString "IPNetwork.hostmask") (fA (inC (st 78) 12)) (FuncBody.stmts (fB (inC (st 78) 12))) (fS (inC (st 78) 12)) 3 [] Value.none Value.none Value.none (vs "netaddr.ip" 24963) none (vr 2737) Value.none 0)) #[])
noncomputable def o2739 (P : Params) : Obj := (fo "property" [(vr 2738), Value.none, Value.none, Value.none, (vs "hostmask" 25591), (Value.bool false)])
noncomputable def o2740 (P : Params) : Obj := (tu [])
noncomputable def o2741 (P : Params) : Obj := (Obj.mk Value.none none (Data.fields (List.toArray [])) #[])
noncomputable def o2742 (P : Params) : Obj := (tu [(vs "self" 25595)])
noncomputable def o2743 (P : Params) : Obj := (tu [])
noncomputable def o2744 (P : Params) : Obj := (Obj.mk Value.none none (Data.func (FuncData.mk (Str.ofString "_hostmask_int") (Str.ofString "IPNetwork._hostmask_int") (fA (inC (st 78) 13)) (FuncBody.stmts (fB (inC (st 78) 13))) (fS (inC (st 79) 8)) 0 [] Value.none Value.none Value.none Value.none none Value.none Value.none 0)) #[])
noncomputable def o2745 (P : Params) : Obj := (fo "code" [(vs "_hostmask_int" 25592), (vs "IPNetwork._hostmask_int" 25593), (vs "/claim/cut.py" 25594), (vi 865 0), (vi 1 0), (vi 0 0), (vi 0 0), (vi 3 0), (vr 2740), (Value.bool true), (vi 181 0), (vr 2741), Value.none, (vr 2742), (vr 2743), (vr 2744), (vi 25596 0), (vi 865 0), (vs "/claim/cut.py" 25597)])
noncomputable def o2746 (P : Params) : Obj := by
  refine (fun (_ : inC (st 78) 13 = .FunctionDef ?n ?a ?b ?d ?r ?t ?s ?u ?v ?p) => (Obj.mk (Value.type "function") none (Data.func (FuncData.mk (Str.ofString "_hostmask_int") (Str.ofString "IPNetwork._hostmask_int") ?a (FuncBody.stmts ?b) ?s 3 [] Value.none Value.none Value.none (vs "netaddr.ip" 24963) none (vr 2745) Value.none 0)) #[])) ?e
  case e => rfl
noncomputable def o2747 (P : Params) : Obj := (fo "property" [(vr 2746), Value.none, Value.none, Value.none, (vs "_hostmask_int" 25599), (Value.bool false)])
noncomputable def o2748 (P : Params) : Obj := (tu [])
noncomputable def o2749 (P : Params) : Obj := (Obj.mk Value.none none (Data.fields (List.toArray [])) #[])
noncomputable def o2750 (P : Params) : Obj := (tu [(vs "self" 25603)])
noncomputable def o2751 (P : Params) : Obj := (tu [])
noncomputable def o2752 (P : Params) : Obj := (Obj.mk Value.none none (Data.func (FuncData.mk (Str.ofString "cidr") (Str.ofString "IPNetwork.cidr") (fA (inC (st 78) 14)) (FuncBody.stmts (fB (inC (st 78) 14))) (fS (inC (st 78) 14)) 0 [] Value.none Value.none Value.none Value.none none Value.none Value.none 0)) #[])
noncomputable def o2753 (P : Params) : Obj := (fo "code" [(vs "cidr" 25600), (vs "IPNetwork.cidr" 25601), (vs "/claim/cut.py" 25602), (vi 869 0), (vi 1 0), (vi 0 0), (vi 0 0), (vi 3 0), (vr 2748), (Value.bool true), (vi 181 0), (vr 2749), Value.none, (vr 2750), (vr 2751), (vr 2752), (vi 25604 0), (vi 869 0), (vs "/claim/cut.py" 25605)])
noncomputable def o2754 (P : Params) : Obj := by
  refine (fun (_ : inC (st 78) 14 = .FunctionDef ?n ?a ?b ?d ?r ?t ?s ?u ?v ?p) => (Obj.mk (Value.type "function") none (Data.func (FuncData.mk (Str.ofString "cidr") (Str.ofString "IPNetwork.cidr") ?a (FuncBody.stmts ?b) ?s 3 [] Value.none Value.none Value.none (vs "netaddr.ip" 24963) none (vr 2753) Value.none 0)) #[])) ?e
  case e => rfl
noncomputable def o2755 (P : Params) : Obj := (fo "property" [(vr 2754), Value.none, Value.none, Value.none, (vs "cidr" 25607), (Value.bool false)])
noncomputable def o2756 (P : Params) : Obj := (tu [])
noncomputable def o2757 (P : Params) : Obj := (Obj.mk Value.none none (Data.fields (List.toArray [])) #[])
noncomputable def o2758 (P : Params) : Obj := (tu [(vs "self" 25611), (vs "num" 25612), (vs "new_value" 25613)])
noncomputable def o2759 (P : Params) : Obj := (tu [])
noncomputable def o2760 (P : Params) : Obj := (Obj.mk Value.none none (Data.func (FuncData.mk (Str.ofString "__iadd__") (Str.ofString "IPNetwork.__iadd__") (fA (inC (st 78) 15)) (FuncBody.stmts (fB (inC (st 78) 15))) (fS (inC (st 78) 16)) 0 [] Value.none Value.none Value.none Value.none none Value.none Value.none 0)) #[])
noncomputable def o2761 (P : Params) : Obj := (fo "code" [(vs "__iadd__" 25608), (vs "IPNetwork.__iadd__" 25609), (vs "/claim/cut.py" 25610), (vi 873 0), (vi 2 0), (vi 0 0), (vi 0 0), (vi 3 0), (vr 2756), (Value.bool true), (vi 181 0), (vr 2757), Value.none, (vr 2758), (vr 2759), (vr 2760), (vi 25614 0), (vi 873 0), (vs "/claim/cut.py" 25615)])
noncomputable def o2762 (P : Params) : Obj := (Obj.mk (Value.type "function") none (Data.func (FuncData.mk (Str.ofString "__iadd__") (Str.ofString "IPNetwork.__iadd__") (fA (inC (st 78) 15)) (FuncBody.stmts (fB (inC (st 78) 15))) (fS (inC (st 78) 16)) 3 [] Value.none Value.none Value.none (vs "netaddr.ip" 24963) none (vr 2761) Value.none 0)) #[])
noncomputable def o2763 (P : Params) : Obj := (tu [])
noncomputable def o2764 (P : Params) : Obj := (Obj.mk Value.none none (Data.fields (List.toArray [])) #[])
noncomputable def o2765 (P : Params) : Obj := (tu [(vs "self" 25620), (vs "num" 25621), (vs "new_value" 25622)])
noncomputable def o2766 (P : Params) : Obj := (tu [])
noncomputable def o2767 (P : Params) : Obj := (Obj.mk Value.none none (Data.func (FuncData.mk (Str.ofString "__isub__") (Str.ofString "IPNetwork.__isub__") (fA (inC (st 78) 16)) (FuncBody.stmts (fB (inC (st 78) 16))) (fS (inC (st 78) 16)) 0 [] Value.none Value.none Value.none Value.none none Value.none Value.none 0)) #[])
noncomputable def o2768 (P : Params) : Obj := (fo "code" [(vs "__isub__" 25617), (vs "IPNetwork.__isub__" 25618), (vs "/claim/cut.py" 25619), (vi 882 0), (vi 2 0), (vi 0 0), (vi 0 0), (vi 3 0), (vr 2763), (Value.bool true), (vi 181 0), (vr 2764), Value.none, (vr 2765), (vr 2766), (vr 2767), (vi 25623 0), (vi 882 0), (vs "/claim/cut.py" 25624)])
noncomputable def o2769 (P : Params) : Obj := (Obj.mk (Value.type "function") none (Data.func (FuncData.mk (Str.ofString "__isub__") (Str.ofString "IPNetwork.__isub__") (fA (inC (st 78) 16)) (FuncBody.stmts (fB (inC (st 78) 16))) (fS (inC (st 78) 16)) 3 [] Value.none Value.none Value.none (vs "netaddr.ip" 24963) none (vr 2768) Value.none 0)) #[])
noncomputable def o2770 (P : Params) : Obj := (tu [])
noncomputable def o2771 (P : Params) : Obj := (Obj.mk Value.none none (Data.fields (List.toArray [])) #[])
noncomputable def o2772 (P : Params) : Obj := (tu [(vs "self" 25629), (vs "other" 25630), (vs "shiftwidth" 25631), (vs "self_net" 25632), (vs "other_net" 25633)])
noncomputable def o2773 (P : Params) : Obj := (tu [])
noncomputable def o2774 (P : Params) : Obj := (Obj.mk Value.none none (Data.func (FuncData.mk (Str.ofString "__contains__") (Str.ofString "IPNetwork.__contains__") (fA (inC (st 78) 17)) (FuncBody.stmts (fB (inC (st 78) 17))) (fS (inC (st 78) 17)) 0 [] Value.none Value.none Value.none Value.none none Value.none Value.none 0)) #[])
noncomputable def o2775 (P : Params) : Obj := (fo "code" [(vs "__contains__" 25626), (vs "IPNetwork.__contains__" 25627), (vs "/claim/cut.py" 25628), (vi 891 0), (vi 2 0), (vi 0 0), (vi 0 0), (vi 3 0), (vr 2770), (Value.bool true), (vi 181 0), (vr 2771), Value.none, (vr 2772), (vr 2773), (vr 2774), (vi 25634 0), (vi 891 0), (vs "/claim/cut.py" 25635)])
noncomputable def o2776 (P : Params) : Obj := (Obj.mk (Value.type "function") none (Data.func (FuncData.mk (Str.ofString "__contains__") (Str.ofString "IPNetwork.__contains__") (fA (inC (st 78) 17)) (FuncBody.stmts (fB (inC (st 78) 17))) (fS (inC (st 78) 17)) 3 [] Value.none Value.none Value.none (vs "netaddr.ip" 24963) none (vr 2775) Value.none 0)) #[])
noncomputable def o2777 (P : Params) : Obj := (tu [])
noncomputable def o2778 (P : Params) : Obj := (Obj.mk Value.none none (Data.fields (List.toArray [])) #[])
noncomputable def o2779 (P : Params) : Obj := (tu [(vs "self" 25640)])
noncomputable def o2780 (P : Params) : Obj := (tu [])
noncomputable def o2781 (P : Params) : Obj := (Obj.mk Value.none none (Data.func (FuncData.mk (Str.ofString "key") (Str.ofString "IPNetwork.key") (fA (inC (st 78) 18)) (FuncBody.stmts (fB (inC (st 78) 18))) (fS (inC (st 79) 8)) 0 [] Value.none Value.none Value.none Value.none none Value.none Value.none 0)) #[])
noncomputable def o2782 (P : Params) : Obj := (fo "code" [(vs "key" 25637), (vs "IPNetwork.key" 25638), (vs "/claim/cut.py" 25639), (vi 906 0), (vi 1 0), (vi 0 0), (vi 0 0), (vi 3 0), (vr 2777), (Value.bool true), (vi 181 0), (vr 2778), Value.none, (vr 2779), (vr 2780), (vr 2781), (vi 25641 0), (vi 906 0), (vs "/claim/cut.py" 25642)])
noncomputable def o2783 (P : Params) : Obj := (Obj.mk (Value.type "function") none (Data.func (FuncData.mk (Str.ofString "key") (Str.ofString "IPNetwork.key") (fA (inC (st 78) 18)) (FuncBody.stmts (fB (inC (st 78) 18))) (fS (inC (st 79) 8)) 3 [] Value.none Value.none Value.none (vs "netaddr.ip" 24963) none (vr 2782) Value.none 0)) #[])
noncomputable def o2784 (P : Params) : Obj := (tu [])
noncomputable def o2785 (P : Params) : Obj := (Obj.mk Value.none none (Data.fields (List.toArray [])) #[])
noncomputable def o2786 (P : Params) : Obj := (tu [(vs "self" 25647), (vs "net_size_bits" 25648), (vs "first" 25649), (vs "host_bits" 25650)])
noncomputable def o2787 (P : Params) : Obj := (tu [])
noncomputable def o2788 (P : Params) : Obj := (Obj.mk Value.none none (Data.func (FuncData.mk (Str.ofString "sort_key") (Str.ofString "IPNetwork.sort_key") (fA (inC (st 78) 19)) (FuncBody.stmts (fB (inC (st 78) 19))) (fS (inC (st 78) 19)) 0 [] Value.none Value.none Value.none Value.none none Value.none Value.none 0)) #[])
noncomputable def o2789 (P : Params) : Obj := (fo "code" [(vs "sort_key" 25644), (vs "IPNetwork.sort_key" 25645), (vs "/claim/cut.py" 25646), (vi 909 0), (vi 1 0), (vi 0 0), (vi 0 0), (vi 3 0), (vr 2784), (Value.bool true), (vi 181 0), (vr 2785), Value.none, (vr 2786), (vr 2787), (vr 2788), (vi 25651 0), (vi 909 0), (vs "/claim/cut.py" 25652)])
noncomputable def o2790 (P : Params) : Obj := (Obj.mk (Value.type "function") none (Data.func (FuncData.mk (Str.ofString "sort_key") (Str.ofString "IPNetwork.sort_key") (fA (inC (st 78) 19)) (FuncBody.stmts (fB (inC (st 78) 19))) (fS (inC (st 78) 19)) 3 [] Value.none Value.none Value.none (vs "netaddr.ip" 24963) none (vr 2789) Value.none 0)) #[])
noncomputable def o2791 (P : Params) : Obj := (tu [])
noncomputable def o2792 (P : Params) : Obj := (Obj.mk Value.none none (Data.fields (List.toArray [])) #[])
noncomputable def o2793 (P : Params) : Obj := (tu [(vs "self" 25657)])
noncomputable def o2794 (P : Params) : Obj := (tu [])
noncomputable def o2795 (P : Params) : Obj := (Obj.mk Value.none none (Data.func (FuncData.mk (Str.ofString "ipv4") (Str.ofString "IPNetwork.ipv4") (fA (inC (st 78) 20)) (FuncBody.stmts (fB (inC (st 78) 20))) (fS (inC (st 79) 6)) 0 [] Value.none Value.none Value.none Value.none none Value.none Value.none 0)) #[])
noncomputable def o2796 (P : Params) : Obj := (fo "code" [(vs "ipv4" 25654), (vs "IPNetwork.ipv4" 25655), (vs "/claim/cut.py" 25656), (vi 915 0), (vi 1 0), (vi 0 0), (vi 0 0), (vi 3 0), (vr 2791), (Value.bool true), (vi 181 0), (vr 2792), Value.none, (vr 2793), (vr 2794), (vr 2795), (vi 25658 0), (vi 915 0), (vs "/claim/cut.py" 25659)])
noncomputable def o2797 (P : Params) : Obj := (Obj.mk (Value.type "function") none (Data.func (FuncData.mk (Str.ofString "ipv4") (Str.ofString "IPNetwork.ipv4") (fA (inC (st 78) 20)) (FuncBody.stmts (fB (inC (st 78) 20))) (fS (inC (st 79) 6)) 3 [] Value.none Value.none Value.none (vs "netaddr.ip" 24963) none (vr 2796) Value.none 0)) #[])
noncomputable def o2798 (P : Params) : Obj := (tu [(Value.bool false)])
noncomputable def o2799 (P : Params) : Obj := (tu [])
noncomputable def o2800 (P : Params) : Obj := (Obj.mk Value.none none (Data.fields (List.toArray [])) #[])
noncomputable def o2801 (P : Params) : Obj := (tu [(vs "self" 25664), (vs "ipv4_compatible" 25665)])
noncomputable def o2802 (P : Params) : Obj := (tu [])
noncomputable def o2803 (P : Params) : Obj := (Obj.mk Value.none none (Data.func (FuncData.mk (Str.ofString "ipv6") (Str.ofString "IPNetwork.ipv6") (fA (inC (st 78) 21)) (FuncBody.stmts (fB (inC (st 78) 21))) (fS (inC (st 78) 21)) 0 [] Value.none Value.none Value.none Value.none none Value.none Value.none 0)) #[])
noncomputable def o2804 (P : Params) : Obj := (fo "code" [(vs "ipv6" 25661), (vs "IPNetwork.ipv6" 25662), (vs "/claim/cut.py" 25663), (vi 918 0), (vi 2 0), (vi 0 0), (vi 0 0), (vi 3 0), (vr 2799), (Value.bool true), (vi 181 0), (vr 2800), Value.none, (vr 2801), (vr 2802), (vr 2803), (vi 25666 0), (vi 918 0), (vs "/claim/cut.py" 25667)])
noncomputable def o2805 (P : Params) : Obj := (Obj.mk (Value.type "function") none (Data.func (FuncData.mk (Str.ofString "ipv6") (Str.ofString "IPNetwork.ipv6") (fA (inC (st 78) 21)) (FuncBody.stmts (fB (inC (st 78) 21))) (fS (inC (st 78) 21)) 3 [] (vr 2798) Value.none Value.none (vs "netaddr.ip" 24963) none (vr 2804) Value.none 0)) #[])
noncomputable def o2806 (P : Params) : Obj := (tu [(vi 1 25669)])
noncomputable def o2807 (P : Params) : Obj := (tu [])
noncomputable def o2808 (P : Params) : Obj := (Obj.mk Value.none none (Data.fields (List.toArray [])) #[])
noncomputable def o2809 (P : Params) : Obj := (tu [(vs "self" 25673), (vs "step" 25674)])
noncomputable def o2810 (P : Params) : Obj := (tu [])
noncomputable def o2811 (P : Params) : Obj := (Obj.mk Value.none none (Data.func (FuncData.mk (Str.ofString "previous") (Str.ofString "IPNetwork.previous") (fA (inC (st 78) 22)) (FuncBody.stmts (fB (inC (st 78) 22))) (fS (inC (st 78) 23)) 0 [] Value.none Value.none Value.none Value.none none Value.none Value.none 0)) #[])
noncomputable def o2812 (P : Params) : Obj := (fo "code" [(vs "previous" 25670), (vs "IPNetwork.previous" 25671), (vs "/claim/cut.py" 25672), (vi 921 0), (vi 2 0), (vi 0 0), (vi 0 0), (vi 3 0), (vr 2807), (Value.bool true), (vi 181 0), (vr 2808), Value.none, (vr 2809), (vr 2810), (vr 2811), (vi 25675 0), (vi 921 0), (vs "/claim/cut.py" 25676)])
noncomputable def o2813 (P : Params) : Obj := (Obj.mk (Value.type "function") none (Data.func (FuncData.mk (Str.ofString "previous") (Str.ofString "IPNetwork.previous") (fA (inC (st 78) 22)) (FuncBody.stmts (fB (inC (st 78) 22))) (fS (inC (st 78) 23)) 3 [] (vr 2806) Value.none Value.none (vs "netaddr.ip" 24963) none (vr 2812) Value.none 0)) #[])
noncomputable def o2814 (P : Params) : Obj := (tu [(vi 1 25678)])
noncomputable def o2815 (P : Params) : Obj := (tu [])
noncomputable def o2816 (P : Params) : Obj := (Obj.mk Value.none none (Data.fields (List.toArray [])) #[])
noncomputable def o2817 (P : Params) : Obj := (tu [(vs "self" 25682), (vs "step" 25683)])
noncomputable def o2818 (P : Params) : Obj := (tu [])
noncomputable def o2819 (P : Params) : Obj := (Obj.mk Value.none none (Data.func (FuncData.mk (Str.ofString "next") (Str.ofString "IPNetwork.next") (fA (inC (st 78) 23)) (FuncBody.stmts (fB (inC (st 78) 23))) (fS (inC (st 78) 23)) 0 [] Value.none Value.none Value.none Value.none none Value.none Value.none 0)) #[])
noncomputable def o2820 (P : Params) : Obj := (fo "code" [(vs "next" 25679), (vs "IPNetwork.next" 25680), (vs "/claim/cut.py" 25681), (vi 924 0), (vi 2 0), (vi 0 0), (vi 0 0), (vi 3 0), (vr 2815), (Value.bool true), (vi 181 0), (vr 2816), Value.none, (vr 2817), (vr 2818), (vr 2819), (vi 25684 0), (vi 924 0), (vs "/claim/cut.py" 25685)])
noncomputable def o2821 (P : Params) : Obj := (Obj.mk (Value.type "function") none (Data.func (FuncData.mk (Str.ofString "next") (Str.ofString "IPNetwork.next") (fA (inC (st 78) 23)) (FuncBody.stmts (fB (inC (st 78) 23))) (fS (inC (st 78) 23)) 3 [] (vr 2814) Value.none Value.none (vs "netaddr.ip" 24963) none (vr 2820) Value.none 0)) #[])
noncomputable def o2822 (P : Params) : Obj := (tu [(vi 0 25687)])
noncomputable def o2823 (P : Params) : Obj := (tu [])
noncomputable def o2824 (P : Params) : Obj := (Obj.mk Value.none none (Data.fields (List.toArray [])) #[])
noncomputable def o2825 (P : Params) : Obj := (tu [(vs "self" 25691), (vs "prefixlen" 25692)])
noncomputable def o2826 (P : Params) : Obj := (tu [])
noncomputable def o2827 (P : Params) : Obj := (Obj.mk Value.none none (Data.func (FuncData.mk (Str.ofString "supernet") (Str.ofString "IPNetwork.supernet") (fA (inC (st 78) 24)) (FuncBody.stmts (fB (inC (st 78) 24))) (fS (inC (st 78) 24)) 0 [] Value.none Value.none Value.none Value.none none Value.none Value.none 0)) #[])
noncomputable def o2828 (P : Params) : Obj := (fo "code" [(vs "supernet" 25688), (vs "IPNetwork.supernet" 25689), (vs "/claim/cut.py" 25690), (vi 927 0), (vi 2 0), (vi 0 0), (vi 0 0), (vi 3 0), (vr 2823), (Value.bool true), (vi 181 0), (vr 2824), Value.none, (vr 2825), (vr 2826), (vr 2827), (vi 25693 0), (vi 927 0), (vs "/claim/cut.py" 25694)])
noncomputable def o2829 (P : Params) : Obj := (Obj.mk (Value.type "function") none (Data.func (FuncData.mk (Str.ofString "supernet") (Str.ofString "IPNetwork.supernet") (fA (inC (st 78) 24)) (FuncBody.stmts (fB (inC (st 78) 24))) (fS (inC (st 78) 24)) 3 [] (vr 2822) Value.none Value.none (vs "netaddr.ip" 24963) none (vr 2828) Value.none 0)) #[])
noncomputable def o2830 (P : Params) : Obj := (tu [Value.none, Value.none])
noncomputable def o2831 (P : Params) : Obj := (tu [])
noncomputable def o2832 (P : Params) : Obj := (Obj.mk Value.none none (Data.fields (List.toArray [])) #[])
noncomputable def o2833 (P : Params) : Obj := (tu [(vs "self" 25699), (vs "prefixlen" 25700), (vs "count" 25701), (vs "fmt" 25702), (vs "width" 25703), (vs "max_subnets" 25704), (vs "base_subnet" 25705), (vs "i" 25706), (vs "subnet" 25707)])
noncomputable def o2834 (P : Params) : Obj := (tu [])
noncomputable def o2835 (P : Params) : Obj := (Obj.mk Value.none none (Data.func (FuncData.mk (Str.ofString "subnet") (Str.ofString "IPNetwork.subnet") (fA (inC (st 78) 25)) (FuncBody.stmts (fB (inC (st 78) 25))) (fS (inC (st 78) 25)) 0 [] Value.none Value.none Value.none Value.none none Value.none Value.none 0)) #[])
noncomputable def o2836 (P : Params) : Obj := (fo "code" [(vs "subnet" 25696), (vs "IPNetwork.subnet" 25697), (vs "/claim/cut.py" 25698), (vi 930 0), (vi 4 0), (vi 0 0), (vi 0 0), (vi 35 0), (vr 2831), (Value.bool true), (vi 181 0), (vr 2832), Value.none, (vr 2833), (vr 2834), (vr 2835), (vi 25708 0), (vi 930 0), (vs "/claim/cut.py" 25709)])
noncomputable def o2837 (P : Params) : Obj := (Obj.mk (Value.type "function") none (Data.func (FuncData.mk (Str.ofString "subnet") (Str.ofString "IPNetwork.subnet") (fA (inC (st 78) 25)) (FuncBody.stmts (fB (inC (st 78) 25))) (fS (inC (st 78) 25)) 3 [] (vr 2830) Value.none Value.none (vs "netaddr.ip" 24963) none (vr 2836) Value.none 0)) #[])
noncomputable def o2838 (P : Params) : Obj := (tu [])
noncomputable def o2839 (P : Params) : Obj := (Obj.mk Value.none none (Data.fields (List.toArray [])) #[])
noncomputable def o2840 (P : Params) : Obj := (tu [(vs "self" 25714)])
noncomputable def o2841 (P : Params) : Obj := (tu [])
noncomputable def o2842 (P : Params) : Obj := (Obj.mk Value.none none (Data.func (FuncData.mk (Str.ofString "iter_hosts") (Str.ofString "IPNetwork.iter_hosts") (fA (inC (st 78) 26)) (FuncBody.stmts (fB (inC (st 78) 26))) (fS (inC (st 79) 6)) 0 [] Value.none Value.none Value.none Value.none none Value.none Value.none 0)) #[])
noncomputable def o2843 (P : Params) : Obj := (fo "code" [(vs "iter_hosts" 25711), (vs "IPNetwork.iter_hosts" 25712), (vs "/claim/cut.py" 25713), (vi 950 0), (vi 1 0), (vi 0 0), (vi 0 0), (vi 3 0), (vr 2838), (Value.bool true), (vi 181 0), (vr 2839), Value.none, (vr 2840), (vr 2841), (vr 2842), (vi 25715 0), (vi 950 0), (vs "/claim/cut.py" 25716)])
noncomputable def o2844 (P : Params) : Obj := (Obj.mk (Value.type "function") none (Data.func (FuncData.mk (Str.ofString "iter_hosts") (Str.ofString "IPNetwork.iter_hosts") (fA (inC (st 78) 26)) (FuncBody.stmts (fB (inC (st 78) 26))) (fS (inC (st 79) 6)) 3 [] Value.none Value.none Value.none (vs "netaddr.ip" 24963) none (vr 2843) Value.none 0)) #[])
noncomputable def o2845 (P : Params) : Obj := (tu [])
noncomputable def o2846 (P : Params) : Obj := (Obj.mk Value.none none (Data.fields (List.toArray [])) #[])
noncomputable def o2847 (P : Params) : Obj := (tu [(vs "self" 25721)])
noncomputable def o2848 (P : Params) : Obj := (tu [])
noncomputable def o2849 (P : Params) : Obj := (Obj.mk Value.none none (Data.func (FuncData.mk (Str.ofString "_usable_range") (Str.ofString "IPNetwork._usable_range") (fA (inC (st 78) 27)) (FuncBody.stmts (fB (inC (st 78) 27))) (fS (inC (st 79) 6)) 0 [] Value.none Value.none Value.none Value.none none Value.none Value.none 0)) #[])
noncomputable def o2850 (P : Params) : Obj := (fo "code" [(vs "_usable_range" 25718), (vs "IPNetwork._usable_range" 25719), (vs "/claim/cut.py" 25720), (vi 953 0), (vi 1 0), (vi 0 0), (vi 0 0), (vi 3 0), (vr 2845), (Value.bool true), (vi 181 0), (vr 2846), Value.none, (vr 2847), (vr 2848), (vr 2849), (vi 25722 0), (vi 953 0), (vs "/claim/cut.py" 25723)])
noncomputable def o2851 (P : Params) : Obj := (Obj.mk (Value.type "function") none (Data.func (FuncData.mk (Str.ofString "_usable_range") (Str.ofString "IPNetwork._usable_range") (fA (inC (st 78) 27)) (FuncBody.stmts (fB (inC (st 78) 27))) (fS (inC (st 79) 6)) 3 [] Value.none Value.none Value.none (vs "netaddr.ip" 24963) none (vr 2850) Value.none 0)) #[])
noncomputable def o2852 (P : Params) : Obj := (tu [])
noncomputable def o2853 (P : Params) : Obj := (Obj.mk Value.none none (Data.fields (List.toArray [])) #[])
noncomputable def o2854 (P : Params) : Obj := (tu [(vs "self" 25728), (vs "addr" 25729)])
noncomputable def o2855 (P : Params) : Obj := (tu [])
noncomputable def o2856 (P : Params) : Obj := (Obj.mk Value.none none (Data.func (FuncData.mk (Str.ofString "__str__") (Str.ofString "IPNetwork.__str__") (fA (inC (st 78) 28)) (FuncBody.stmts (fB (inC (st 78) 28))) (fS (inC (st 78) 28)) 0 [] Value.none Value.none Value.none Value.none none Value.none Value.none 0)) #[])
noncomputable def o2857 (P : Params) : Obj := (fo "code" [(vs "__str__" 25725), (vs "IPNetwork.__str__" 25726), (vs "/claim/cut.py" 25727), (vi 956 0), (vi 1 0), (vi 0 0), (vi 0 0), (vi 3 0), (vr 2852), (Value.bool true), (vi 181 0), (vr 2853), Value.none, (vr 2854), (vr 2855), (vr 2856), (vi 25730 0), (vi 956 0), (vs "/claim/cut.py" 25731)])
noncomputable def o2858 (P : Params) : Obj := (Obj.mk (Value.type "function") none (Data.func (FuncData.mk (Str.ofString "__str__") (Str.ofString "IPNetwork.__str__") (fA (inC (st 78) 28)) (FuncBody.stmts (fB (inC (st 78) 28))) (fS (inC (st 78) 28)) 3 [] Value.none Value.none Value.none (vs "netaddr.ip" 24963) none (vr 2857) Value.none 0)) #[])
noncomputable def o2859 (P : Params) : Obj := (tu [])
noncomputable def o2860 (P : Params) : Obj := (Obj.mk Value.none none (Data.fields (List.toArray [])) #[])
noncomputable def o2861 (P : Params) : Obj := (tu [(vs "self" 25736)])
noncomputable def o2862 (P : Params) : Obj := (tu [])
noncomputable def o2863 (P : Params) : Obj := (Obj.mk Value.none none (Data.func (FuncData.mk (Str.ofString "__repr__") (Str.ofString "IPNetwork.__repr__") (fA (inC (st 78) 29)) (FuncBody.stmts (fB (inC (st 78) 29))) (fS (inC (st 79) 8)) 0 [] Value.none Value.none Value.none Value.none none Value.none Value.none 0)) #[])
noncomputable def o2864 (P : Params) : Obj := (fo "code" [(vs "__repr__" 25733), (vs "IPNetwork.__repr__" 25734), (vs "/claim/cut.py" 25735), (vi 960 0), (vi 1 0), (vi 0 0), (vi 0 0), (vi 3 0), (vr 2859), (Value.bool true), (vi 181 0), (vr 2860), Value.none, (vr 2861), (vr 2862), (vr 2863), (vi 25737 0), (vi 960 0), (vs "/claim/cut.py" 25738)])
noncomputable def o2865 (P : Params) : Obj := (Obj.mk (Value.type "function") none (Data.func (FuncData.mk (Str.ofString "__repr__") (Str.ofString "IPNetwork.__repr__") (fA (inC (st 78) 29)) (FuncBody.stmts (fB (inC (st 78) 29))) (fS (inC (st 79) 8)) 3 [] Value.none Value.none Value.none (vs "netaddr.ip" 24963) none (vr 2864) Value.none 0)) #[])
noncomputable def o2866 (P : Params) : Obj := (tu [(vs "_module" 25740), (vs "_prefixlen" 25741), (vs "_value" 25742), (vs "prefixlen" 25743)])
noncomputable def o2867 (P : Params) : Obj := (di [(de P "__module__" 25465 (vs "netaddr.ip" 24963)), (de P "__firstlineno__" 25469 (vi 764 25468)), (de P "__init__" 25487 (vr 2642)), (de P "_set_prefixlen" 25495 (vr 2649)), (de P "prefixlen" 25503 (vr 2666)), (de P "ip" 25521 (vr 2674)), (de P "network" 25529 (vr 2682)), (de P "broadcast" 25537 (vr 2690)), (de P "first" 25545 (vr 2698)), (de P "last" 25554 (vr 2706)), (de P "netmask" 25563 (vr 2723)), (de P "_netmask_int" 25582 (vr 2731)), (de P "hostmask" 25591 (vr 2739)), (de P "_hostmask_int" 25599 (vr 2747)), (de P "cidr" 25607 (vr 2755)), (de P "__iadd__" 25616 (vr 2762)), (de P "__isub__" 25625 (vr 2769)), (de P "__contains__" 25636 (vr 2776)), (de P "key" 25643 (vr 2783)), (de P "sort_key" 25653 (vr 2790)), (de P "ipv4" 25660 (vr 2797)), (de P "ipv6" 25668 (vr 2805)), (de P "previous" 25677 (vr 2813)), (de P "next" 25686 (vr 2821)), (de P "supernet" 25695 (vr 2829)), (de P "subnet" 25710 (vr 2837)), (de P "iter_hosts" 25717 (vr 2844)), (de P "_usable_range" 25724 (vr 2851)), (de P "__str__" 25732 (vr 2858)), (de P "__repr__" 25739 (vr 2865)), (de P "__static_attributes__" 25744 (vr 2866)), (de P "__doc__" 25746 Value.none)] 3)
noncomputable def o2868 (P : Params) : Obj := (Obj.mk (Value.type "type") none (Data.cls (ClassData.mk (Str.ofString "IPNetwork") [(vr 2613)] [(vr 2868), (vr 2613), (vr 2317), (Value.type "object")] 2867 (Str.ofString "IPNetwork") true [] [] false none false)) (List.toArray [(some (vr 2625)), none, (some (vs "IPNetwork" 25458)), (some (vs "IPNetwork" 25466)), (some (Value.builtin "object.__new__")), (some (Value.bool true))]))
noncomputable def o2869 (P : Params) : Obj := (fo "super" [(vr 2868), (vr 2868), (vr 2868)])
noncomputable def o2870 (P : Params) : Obj := (fo "builtin_function_or_method" [(Value.builtin "object.__init_subclass__"), (vr 2868)])
noncomputable def o2871 (P : Params) : Obj := (tu [(vr 2613)])
noncomputable def o2872 (P : Params) : Obj := (fo "builtin_function_or_method" [(Value.builtin "type.__prepare__"), (Value.type "type")])
noncomputable def o2873 (P : Params) : Obj := (di [(de P "__module__" 25756 (vs "netaddr.ip" 24963)), (de P "__qualname__" 25758 (vs "IPRange" 25757)), (de P "__firstlineno__" 25760 (vi 962 25759)), (de P "__init__" 25771 (vr 2885)), (de P "__contains__" 25782 (vr 2892)), (de P "first" 25790 (vr 2900)), (de P "last" 25798 (vr 2908)), (de P "key" 25805 (vr 2915)), (de P "sort_key" 25813 (vr 2922)), (de P "cidrs" 25820 (vr 2929)), (de P "__str__" 25827 (vr 2936)), (de P "__repr__" 25834 (vr 2943)), (de P "__static_attributes__" 25838 (vr 2944))] 13)
noncomputable def o2874 (P : Params) : Obj := (tu [])
noncomputable def o2875 (P : Params) : Obj := (Obj.mk Value.none none (Data.fields (List.toArray [(vi 964 0), (vi 4 0), (vr 2884), (vi 971 0), (vi 4 0), (vr 2891), (vi 987 0), (vi 4 0), (vr 2898), (vi 991 0), (vi 4 0), (vr 2906), (vi 994 0), (vi 4 0), (vr 2914), (vi 997 0), (vi 4 0), (vr 2921), (vi 1001 0), (vi 4 0), (vr 2928), (vi 1004 0), (vi 4 0), (vr 2935), (vi 1007 0), (vi 4 0), (vr 2942)])) #[])
noncomputable def o2876 (P : Params) : Obj := (fo "code" [(vs "IPRange" 25751), (vs "IPRange" 25752), (vs "/claim/cut.py" 25753), (vi 962 0), (vi 0 0), (vi 0 0), (vi 0 0), (vi 0 0), (vr 2874), (Value.bool false), (vi 181 0), (vr 2875), Value.none, Value.none, Value.none, Value.none, (vi 25754 0), (vi 962 0), (vs "/claim/cut.py" 25755)])
noncomputable def o2877 (P : Params) : Obj := (Obj.mk (Value.type "frame") none Data.plain (List.toArray [(some (vr 2876)), (some (vr 3)), (some (vr 2873)), none, (some (vs "netaddr.ip" 24963)), none, (some (vr 0))]))
noncomputable def o2878 (P : Params) : Obj := (tu [(vi 0 25761)])
noncomputable def o2879 (P : Params) : Obj := (tu [])
noncomputable def o2880 (P : Params) : Obj := (Obj.mk Value.none none (Data.fields (List.toArray [])) #[])
noncomputable def o2881 (P : Params) : Obj := (tu [(vs "self" 25765), (vs "start" 25766), (vs "end" 25767), (vs "flags" 25768)])
noncomputable def o2882 (P : Params) : Obj := (tu [])
noncomputable def o2883 (P : Params) : Obj := (Obj.mk Value.none none (Data.func (FuncData.mk (Str.ofString "__init__") (Str.ofString "IPRange.__init__") (fA (inC (st 79) 0)) (FuncBody.stmts (fB (inC (st 79) 0))) (fS (inC (st 79) 0)) 0 [] Value.none Value.none Value.none Value.none none Value.none Value.none 0)) #[])
noncomputable def o2884 (P : Params) : Obj := (fo "code" [(vs "__init__" 25762), (vs "IPRange.__init__" 25763), (vs "/claim/cut.py" 25764), (vi 964 0), (vi 4 0), (vi 0 0), (vi 0 0), (vi 3 0), (vr 2879), (Value.bool true), (vi 181 0), (vr 2880), Value.none, (vr 2881), (vr 2882), (vr 2883), (vi 25769 0), (vi 964 0), (vs "/claim/cut.py" 25770)])
noncomputable def o2885 (P : Params) : Obj := (Obj.mk (Value.type "function") none (Data.func (FuncData.mk (Str.ofString "__init__") (Str.ofString "IPRange.__init__") (fA (inC (st 79) 0)) (FuncBody.stmts (fB (inC (st 79) 0))) (fS (inC (st 79) 0)) 3 [] (vr 2878) Value.none Value.none (vs "netaddr.ip" 24963) none (vr 2884) Value.none 0)) #[])
noncomputable def o2886 (P : Params) : Obj := (tu [])
noncomputable def o2887 (P : Params) : Obj := (Obj.mk Value.none none (Data.fields (List.toArray [])) #[])
noncomputable def o2888 (P : Params) : Obj := (tu [(vs "self" 25775), (vs "other" 25776), (vs "shiftwidth" 25777), (vs "other_start" 25778), (vs "other_end" 25779)])
noncomputable def o2889 (P : Params) : Obj := (tu [])
noncomputable def o2890 (P : Params) : Obj := (Obj.mk Value.none none (Data.func (FuncData.mk (Str.ofString "__contains__") (Str.ofString "IPRange.__contains__") (fA (inC (st 79) 1)) (FuncBody.stmts (fB (inC (st 79) 1))) (fS (inC (st 79) 1)) 0 [] Value.none Value.none Value.none Value.none none Value.none Value.none 0)) #[])
noncomputable def o2891 (P : Params) : Obj := (fo "code" [(vs "__contains__" 25772), (vs "IPRange.__contains__" 25773), (vs "/claim/cut.py" 25774), (vi 971 0), (vi 2 0), (vi 0 0), (vi 0 0), (vi 3 0), (vr 2886), (Value.bool true), (vi 181 0), (vr 2887), Value.none, (vr 2888), (vr 2889), (vr 2890), (vi 25780 0), (vi 971 0), (vs "/claim/cut.py" 25781)])
noncomputable def o2892 (P : Params) : Obj := (Obj.mk (Value.type "function") none (Data.func (FuncData.mk (Str.ofString "__contains__") (Str.ofString "IPRange.__contains__") (fA (inC (st 79) 1)) (FuncBody.stmts (fB (inC (st 79) 1))) (fS (inC (st 79) 1)) 3 [] Value.none Value.none Value.none (vs "netaddr.ip" 24963) none (vr 2891) Value.none 0)) #[])
noncomputable def o2893 (P : Params) : Obj := (tu [])
noncomputable def o2894 (P : Params) : Obj := (Obj.mk Value.none none (Data.fields (List.toArray [])) #[])
noncomputable def o2895 (P : Params) : Obj := (tu [(vs "self" 25786)])
noncomputable def o2896 (P : Params) : Obj := (tu [])
noncomputable def o2897 (P : Params) : Obj := (Obj.mk Value.none none (Data.func (FuncData.mk (Str.ofString "first") (Str.ofString "IPRange.first") (fA (inC (st 79) 2)) (FuncBody.stmts (fB (inC (st 79) 2))) (fS (inC (st 79) 8)) 0 [] Value.none Value.none Value.none Value.none none Value.none Value.none 0)) #[])
noncomputable def o2898 (P : Params) : Obj := (fo "code" [(vs "first" 25783), (vs "IPRange.first" 25784), (vs "/claim/cut.py" 25785), (vi 986 0), (vi 1 0), (vi 0 0), (vi 0 0), (vi 3 0), (vr 2893), (Value.bool true), (vi 181 0), (vr 2894), Value.none, (vr 2895), (vr 2896), (vr 2897), (vi 25787 0), (vi 986 0), (vs "/claim/cut.py" 25788)])
noncomputable def o2899 (P : Params) : Obj := (Obj.mk (Value.type "function") none (Data.func (FuncData.mk (Str.ofString "first") (Str.ofString "IPRange.first") (fA (inC (st 79) 2)) (FuncBody.stmts (fB (inC (st 79) 2))) (fS (inC (st 79) 8)) 3 [] Value.none Value.none Value.none (vs "netaddr.ip" 24963) none (vr 2898) Value.none 0)) #[])
noncomputable def o2900 (P : Params) : Obj := (fo "property" [(vr 2899), Value.none, Value.none, Value.none, (vs "first" 25790), (Value.bool false)])
noncomputable def o2901 (P : Params) : Obj := (tu [])
noncomputable def o2902 (P : Params) : Obj := (Obj.mk Value.none none (Data.fields (List.toArray [])) #[])
noncomputable def o2903 (P : Params) : Obj := (tu [(vs "self" 25794)])
noncomputable def o2904 (P : Params) : Obj := (tu [])
noncomputable def o2905 (P : Params) : Obj := (Obj.mk Value.none none (Data.func (FuncData.mk (Str.ofString "last") (Str.ofString "IPRange.last") (fA (inC (st 79) 3)) (FuncBody.stmts (fB (inC (st 79) 3))) (fS (inC (st 79) 8)) 0 [] Value.none Value.none Value.none Value.none none Value.none Value.none 0)) #[])
noncomputable def o2906 (P : Params) : Obj := (fo "code" [(vs "last" 25791), (vs "IPRange.last" 25792), (vs "/claim/cut.py" 25793), (vi 990 0), (vi 1 0), (vi 0 0), (vi 0 0), (vi 3 0), (vr 2901), (Value.bool true), (vi 181 0), (vr 2902), Value.none, (vr 2903), (vr 2904), (vr 2905), (vi 25795 0), (vi 990 0), (vs "/claim/cut.py" 25796)])
noncomputable def o2907 (P : Params) : Obj := (Obj.mk (Value.type "function") none (Data.func (FuncData.mk (Str.ofString "last") (Str.ofString "IPRange.last") (fA (inC (st 79) 3)) (FuncBody.stmts (fB (inC (st 79) 3))) (fS (inC (st 79) 8)) 3 [] Value.none Value.none Value.none (vs "netaddr.ip" 24963) none (vr 2906) Value.none 0)) #[])
noncomputable def o2908 (P : Params) : Obj := (fo "property" [(vr 2907), Value.none, Value.none, Value.none, (vs "last" 25798), (Value.bool false)])
noncomputable def o2909 (P : Params) : Obj := (tu [])
noncomputable def o2910 (P : Params) : Obj := (Obj.mk Value.none none (Data.fields (List.toArray [])) #[])
noncomputable def o2911 (P : Params) : Obj := (tu [(vs "self" 25802)])
noncomputable def o2912 (P : Params) : Obj := (tu [])
noncomputable def o2913 (P : Params) : Obj := (Obj.mk Value.none none (Data.func (FuncData.mk (Str.ofString "key") (Str.ofString "IPRange.key") (fA (inC (st 79) 4)) (FuncBody.stmts (fB (inC (st 79) 4))) (fS (inC (st 79) 8)) 0 [] Value.none Value.none Value.none Value.none none Value.none Value.none 0)) #[])
noncomputable def o2914 (P : Params) : Obj := (fo "code" [(vs "key" 25799), (vs "IPRange.key" 25800), (vs "/claim/cut.py" 25801), (vi 994 0), (vi 1 0), (vi 0 0), (vi 0 0), (vi 3 0), (vr 2909), (Value.bool true), (vi 181 0), (vr 2910), Value.none, (vr 2911), (vr 2912), (vr 2913), (vi 25803 0), (vi 994 0), (vs "/claim/cut.py" 25804)])
noncomputable def o2915 (P : Params) : Obj := (Obj.mk (Value.type "function") none (Data.func (FuncData.mk (Str.ofString "key") (Str.ofString "IPRange.key") (fA (inC (st 79) 4)) (FuncBody.stmts (fB (inC (st 79) 4))) (fS (inC (st 79) 8)) 3 [] Value.none Value.none Value.none (vs "netaddr.ip" 24963) none (vr 2914) Value.none 0)) #[])
noncomputable def o2916 (P : Params) : Obj := (tu [])
noncomputable def o2917 (P : Params) : Obj := (Obj.mk Value.none none (Data.fields (List.toArray [])) #[])
noncomputable def o2918 (P : Params) : Obj := (tu [(vs "self" 25809), (vs "skey" 25810)])
noncomputable def o2919 (P : Params) : Obj := (tu [])
noncomputable def o2920 (P : Params) : Obj := (Obj.mk Value.none none (Data.func (FuncData.mk (Str.ofString "sort_key") (Str.ofString "IPRange.sort_key") (fA (inC (st 79) 5)) (FuncBody.stmts (fB (inC (st 79) 5))) (fS (inC (st 79) 5)) 0 [] Value.none Value.none Value.none Value.none none Value.none Value.none 0)) #[])
noncomputable def o2921 (P : Params) : Obj := (fo "code" [(vs "sort_key" 25806), (vs "IPRange.sort_key" 25807), (vs "/claim/cut.py" 25808), (vi 997 0), (vi 1 0), (vi 0 0), (vi 0 0), (vi 3 0), (vr 2916), (Value.bool true), (vi 181 0), (vr 2917), Value.none, (vr 2918), (vr 2919), (vr 2920), (vi 25811 0), (vi 997 0), (vs "/claim/cut.py" 25812)])
noncomputable def o2922 (P : Params) : Obj := (Obj.mk (Value.type "function") none (Data.func (FuncData.mk (Str.ofString "sort_key") (Str.ofString "IPRange.sort_key") (fA (inC (st 79) 5)) (FuncBody.stmts (fB (inC (st 79) 5))) (fS (inC (st 79) 5)) 3 [] Value.none Value.none Value.none (vs "netaddr.ip" 24963) none (vr 2921) Value.none 0)) #[])
noncomputable def o2923 (P : Params) : Obj := (tu [])
noncomputable def o2924 (P : Params) : Obj := (Obj.mk Value.none none (Data.fields (List.toArray [])) #[])
noncomputable def o2925 (P : Params) : Obj := (tu [(vs "self" 25817)])
noncomputable def o2926 (P : Params) : Obj := (tu [])
noncomputable def o2927 (P : Params) : Obj := (Obj.mk Value.none none (Data.func (FuncData.mk (Str.ofString "cidrs") (Str.ofString "IPRange.cidrs") (fA (inC (st 79) 6)) (FuncBody.stmts (fB (inC (st 79) 6))) (fS (inC (st 79) 6)) 0 [] Value.none Value.none Value.none Value.none none Value.none Value.none 0)) #[])
noncomputable def o2928 (P : Params) : Obj := (fo "code" [(vs "cidrs" 25814), (vs "IPRange.cidrs" 25815), (vs "/claim/cut.py" 25816), (vi 1001 0), (vi 1 0), (vi 0 0), (vi 0 0), (vi 3 0), (vr 2923), (Value.bool true), (vi 181 0), (vr 2924), Value.none, (vr 2925), (vr 2926), (vr 2927), (vi 25818 0), (vi 1001 0), (vs "/claim/cut.py" 25819)])
noncomputable def o2929 (P : Params) : Obj := (Obj.mk (Value.type "function") none (Data.func (FuncData.mk (Str.ofString "cidrs") (Str.ofString "IPRange.cidrs") (fA (inC (st 79) 6)) (FuncBody.stmts (fB (inC (st 79) 6))) (fS (inC (st 79) 6)) 3 [] Value.none Value.none Value.none (vs "netaddr.ip" 24963) none (vr 2928) Value.none 0)) #[])
noncomputable def o2930 (P : Params) : Obj := (tu [])
noncomputable def o2931 (P : Params) : Obj := (Obj.mk Value.none none (Data.fields (List.toArray [])) #[])
noncomputable def o2932 (P : Params) : Obj := (tu [(vs "self" 25824)])
noncomputable def o2933 (P : Params) : Obj := (tu [])
noncomputable def o2934 (P : Params) : Obj := (Obj.mk Value.none none (Data.func (FuncData.mk (Str.ofString "__str__") (Str.ofString "IPRange.__str__") (fA (inC (st 79) 7)) (FuncBody.stmts (fB (inC (st 79) 7))) (fS (inC (st 79) 8)) 0 [] Value.none Value.none Value.none Value.none none Value.none Value.none 0)) #[])
noncomputable def o2935 (P : Params) : Obj := (fo "code" [(vs "__str__" 25821), (vs "IPRange.__str__" 25822), (vs "/claim/cut.py" 25823), (vi 1004 0), (vi 1 0), (vi 0 0), (vi 0 0), (vi 3 0), (vr 2930), (Value.bool true), (vi 181 0), (vr 2931), Value.none, (vr 2932), (vr 2933), (vr 2934), (vi 25825 0), (vi 1004 0), (vs "/claim/cut.py" 25826)])
noncomputable def o2936 (P : Params) : Obj := (Obj.mk (Value.type "function") none (Data.func (FuncData.mk (Str.ofString "__str__") (Str.ofString "IPRange.__str__") (fA (inC (st 79) 7)) (FuncBody.stmts (fB (inC (st 79) 7))) (fS (inC (st 79) 8)) 3 [] Value.none Value.none Value.none (vs "netaddr.ip" 24963) none (vr 2935) Value.none 0)) #[])
noncomputable def o2937 (P : Params) : Obj := (tu [])
noncomputable def o2938 (P : Params) : Obj := (Obj.mk Value.none none (Data.fields (List.toArray [])) #[])
noncomputable def o2939 (P : Params) : Obj := (tu [(vs "self" 25831)])
noncomputable def o2940 (P : Params) : Obj := (tu [])
noncomputable def o2941 (P : Params) : Obj := (Obj.mk Value.none none (Data.func (FuncData.mk (Str.ofString "__repr__") (Str.ofString "IPRange.__repr__") (fA (inC (st 79) 8)) (FuncBody.stmts (fB (inC (st 79) 8))) (fS (inC (st 79) 8)) 0 [] Value.none Value.none Value.none Value.none none Value.none Value.none 0)) #[])
noncomputable def o2942 (P : Params) : Obj := (fo "code" [(vs "__repr__" 25828), (vs "IPRange.__repr__" 25829), (vs "/claim/cut.py" 25830), (vi 1007 0), (vi 1 0), (vi 0 0), (vi 0 0), (vi 3 0), (vr 2937), (Value.bool true), (vi 181 0), (vr 2938), Value.none, (vr 2939), (vr 2940), (vr 2941), (vi 25832 0), (vi 1007 0), (vs "/claim/cut.py" 25833)])
noncomputable def o2943 (P : Params) : Obj := (Obj.mk (Value.type "function") none (Data.func (FuncData.mk (Str.ofString "__repr__") (Str.ofString "IPRange.__repr__") (fA (inC (st 79) 8)) (FuncBody.stmts (fB (inC (st 79) 8))) (fS (inC (st 79) 8)) 3 [] Value.none Value.none Value.none (vs "netaddr.ip" 24963) none (vr 2942) Value.none 0)) #[])
noncomputable def o2944 (P : Params) : Obj := (tu [(vs "_end" 25835), (vs "_module" 25836), (vs "_start" 25837)])
noncomputable def o2945 (P : Params) : Obj := (di [(de P "__module__" 25756 (vs "netaddr.ip" 24963)), (de P "__firstlineno__" 25760 (vi 962 25759)), (de P "__init__" 25771 (vr 2885)), (de P "__contains__" 25782 (vr 2892)), (de P "first" 25790 (vr 2900)), (de P "last" 25798 (vr 2908)), (de P "key" 25805 (vr 2915)), (de P "sort_key" 25813 (vr 2922)), (de P "cidrs" 25820 (vr 2929)), (de P "__str__" 25827 (vr 2936)), (de P "__repr__" 25834 (vr 2943)), (de P "__static_attributes__" 25838 (vr 2944)), (de P "__doc__" 25839 Value.none)] 2)
noncomputable def o2946 (P : Params) : Obj := (Obj.mk (Value.type "type") none (Data.cls (ClassData.mk (Str.ofString "IPRange") [(vr 2613)] [(vr 2946), (vr 2613), (vr 2317), (Value.type "object")] 2945 (Str.ofString "IPRange") true [] [] false none false)) (List.toArray [(some (vr 2871)), none, (some (vs "IPRange" 25749)), (some (vs "IPRange" 25757)), (some (Value.builtin "object.__new__")), (some (Value.bool true))]))
noncomputable def o2947 (P : Params) : Obj := (fo "super" [(vr 2946), (vr 2946), (vr 2946)])
noncomputable def o2948 (P : Params) : Obj := (fo "builtin_function_or_method" [(Value.builtin "object.__init_subclass__"), (vr 2946)])
noncomputable def o2949 (P : Params) : Obj := (tu [])
noncomputable def o2950 (P : Params) : Obj := (Obj.mk Value.none none (Data.fields (List.toArray [])) #[])
noncomputable def o2951 (P : Params) : Obj := (tu [(vs "target" 25845), (vs "exclude" 25846), (vs "left" 25847), (vs "_" 25848), (vs "right" 25849)])
noncomputable def o2952 (P : Params) : Obj := (tu [])
noncomputable def o2953 (P : Params) : Obj := (Obj.mk Value.none none (Data.func (FuncData.mk (Str.ofString "cidr_exclude") (Str.ofString "cidr_exclude") (fA (st 80)) (FuncBody.stmts (fB (st 80))) (fS (st 80)) 0 [] Value.none Value.none Value.none Value.none none Value.none Value.none 0)) #[])
noncomputable def o2954 (P : Params) : Obj := (fo "code" [(vs "cidr_exclude" 25842), (vs "cidr_exclude" 25843), (vs "/claim/cut.py" 25844), (vi 1009 0), (vi 2 0), (vi 0 0), (vi 0 0), (vi 3 0), (vr 2949), (Value.bool true), (vi 181 0), (vr 2950), Value.none, (vr 2951), (vr 2952), (vr 2953), (vi 25850 0), (vi 1009 0), (vs "/claim/cut.py" 25851)])
noncomputable def o2955 (P : Params) : Obj := by
  refine (fun (_ : st 80 = .FunctionDef ?n ?a ?b ?d ?r ?t ?s ?u ?v ?p) => (Obj.mk (Value.type "function") none (Data.func (FuncData.mk (Str.ofString "cidr_exclude") (Str.ofString "cidr_exclude") ?a (FuncBody.stmts ?b) ?s 3 [] Value.none Value.none Value.none (vs "netaddr.ip" 24963) none (vr 2954) Value.none 0)) #[])) ?e
  case e => rfl
noncomputable def o2956 (P : Params) : Obj := (tu [])
noncomputable def o2957 (P : Params) : Obj := (Obj.mk Value.none none (Data.fields (List.toArray [])) #[])
noncomputable def o2958 (P : Params) : Obj := (tu [(vs "target" 25856), (vs "exclude" 25857), (vs "left" 25858), (vs "right" 25859), (vs "new_prefixlen" 25860), (vs "target_module_width" 25861), (vs "target_first" 25862), (vs "version" 25863), (vs "i_lower" 25864), (vs "i_upper" 25865), (vs "matched" 25866)])
noncomputable def o2959 (P : Params) : Obj := (tu [])
noncomputable def o2960 (P : Params) : Obj := (Obj.mk Value.none none (Data.func (FuncData.mk (Str.ofString "cidr_partition") (Str.ofString "cidr_partition") (fA (st 81)) (FuncBody.stmts (fB (st 81))) (fS (st 81)) 0 [] Value.none Value.none Value.none Value.none none Value.none Value.none 0)) #[])
noncomputable def o2961 (P : Params) : Obj := (fo "code" [(vs "cidr_partition" 25853), (vs "cidr_partition" 25854), (vs "/claim/cut.py" 25855), (vi 1012 0), (vi 2 0), (vi 0 0), (vi 0 0), (vi 3 0), (vr 2956), (Value.bool true), (vi 181 0), (vr 2957), Value.none, (vr 2958), (vr 2959), (vr 2960), (vi 25867 0), (vi 1012 0), (vs "/claim/cut.py" 25868)])
noncomputable def o2962 (P : Params) : Obj := by
  refine (fun (_ : st 81 = .FunctionDef ?n ?a ?b ?d ?r ?t ?s ?u ?v ?p) => (Obj.mk (Value.type "function") none (Data.func (FuncData.mk (Str.ofString "cidr_partition") (Str.ofString "cidr_partition") ?a (FuncBody.stmts ?b) ?s 3 [] Value.none Value.none Value.none (vs "netaddr.ip" 24963) none (vr 2961) Value.none 0)) #[])) ?e
  case e => rfl
noncomputable def o2963 (P : Params) : Obj := (tu [(vi 1 25870)])
noncomputable def o2964 (P : Params) : Obj := (tu [])
noncomputable def o2965 (P : Params) : Obj := (Obj.mk Value.none none (Data.fields (List.toArray [])) #[])
noncomputable def o2966 (P : Params) : Obj := (tu [(vs "start" 25874), (vs "end" 25875), (vs "step" 25876), (vs "version" 25877), (vs "stop" 25878), (vs "negative_step" 25879), (vs "index" 25880)])
noncomputable def o2967 (P : Params) : Obj := (tu [])
noncomputable def o2968 (P : Params) : Obj := (Obj.mk Value.none none (Data.func (FuncData.mk (Str.ofString "iter_iprange") (Str.ofString "iter_iprange") (fA (st 82)) (FuncBody.stmts (fB (st 82))) (fS (st 82)) 0 [] Value.none Value.none Value.none Value.none none Value.none Value.none 0)) #[])
noncomputable def o2969 (P : Params) : Obj := (fo "code" [(vs "iter_iprange" 25871), (vs "iter_iprange" 25872), (vs "/claim/cut.py" 25873), (vi 1042 0), (vi 3 0), (vi 0 0), (vi 0 0), (vi 35 0), (vr 2964), (Value.bool true), (vi 181 0), (vr 2965), Value.none, (vr 2966), (vr 2967), (vr 2968), (vi 25881 0), (vi 1042 0), (vs "/claim/cut.py" 25882)])
noncomputable def o2970 (P : Params) : Obj := (Obj.mk (Value.type "function") none (Data.func (FuncData.mk (Str.ofString "iter_iprange") (Str.ofString "iter_iprange") (fA (st 82)) (FuncBody.stmts (fB (st 82))) (fS (st 82)) 3 [] (vr 2963) Value.none Value.none (vs "netaddr.ip" 24963) none (vr 2969) Value.none 0)) #[])
noncomputable def o2971 (P : Params) : Obj := (tu [])
noncomputable def o2972 (P : Params) : Obj := (Obj.mk Value.none none (Data.fields (List.toArray [])) #[])
noncomputable def o2973 (P : Params) : Obj := (tu [(vs "kind" 25889), (vs "low" 25890), (vs "high" 25891), (vs "found" 25892), (vs "size" 25893)])
noncomputable def o2974 (P : Params) : Obj := (tu [])
noncomputable def o2975 (P : Params) : Obj := (Obj.mk Value.none none (Data.func (FuncData.mk (Str.ofString "_law_blocks") (Str.ofString "_law_blocks") (fA (st 84)) (FuncBody.stmts (fB (st 84))) (fS (st 84)) 0 [] Value.none Value.none Value.none Value.none none Value.none Value.none 0)) #[])
noncomputable def o2976 (P : Params) : Obj := (fo "code" [(vs "_law_blocks" 25886), (vs "_law_blocks" 25887), (vs "/claim/cut.py" 25888), (vi 1066 0), (vi 3 0), (vi 0 0), (vi 0 0), (vi 3 0), (vr 2971), (Value.bool true), (vi 181 0), (vr 2972), Value.none, (vr 2973), (vr 2974), (vr 2975), (vi 25894 0), (vi 1066 0), (vs "/claim/cut.py" 25895)])
noncomputable def o2977 (P : Params) : Obj := by
  refine (fun (_ : st 84 = .FunctionDef ?n ?a ?b ?d ?r ?t ?s ?u ?v ?p) => (Obj.mk (Value.type "function") none (Data.func (FuncData.mk (Str.ofString "_law_blocks") (Str.ofString "_law_blocks") ?a (FuncBody.stmts ?b) ?s 3 [] Value.none Value.none Value.none (vs "law_az0025_01" 25884) none (vr 2976) Value.none 0)) #[])) ?e
  case e => rfl
noncomputable def o2978 (P : Params) : Obj := (tu [])
noncomputable def o2979 (P : Params) : Obj := (Obj.mk Value.none none (Data.fields (List.toArray [])) #[])
noncomputable def o2980 (P : Params) : Obj := (Obj.mk Value.none none (Data.func (FuncData.mk (Str.ofString "_law_told") (Str.ofString "_law_told") (fA (st 85)) (FuncBody.stmts (fB (st 85))) (fS (st 85)) 0 [] Value.none Value.none Value.none Value.none none Value.none Value.none 0)) #[])
noncomputable def o2981 (P : Params) : Obj := (fo "code" [(vs "_law_told" 25897), (vs "_law_told" 25898), (vs "/claim/cut.py" 25899), (vi 1075 0), (vi 1 0), (vi 0 0), (vi 0 0), (vi 3 0), (vr 2978), (Value.bool true), (vi 181 0), (vr 2979), Value.none, Value.none, Value.none, (vr 2980), (vi 25900 0), (vi 1075 0), (vs "/claim/cut.py" 25901)])
noncomputable def o2982 (P : Params) : Obj := by
  refine (fun (_ : st 85 = .FunctionDef ?n ?a ?b ?d ?r ?t ?s ?u ?v ?p) => (Obj.mk (Value.type "function") none (Data.func (FuncData.mk (Str.ofString "_law_told") (Str.ofString "_law_told") ?a (FuncBody.stmts ?b) ?s 3 [] Value.none Value.none Value.none (vs "law_az0025_01" 25884) none (vr 2981) Value.none 0)) #[])) ?e
  case e => rfl
noncomputable def o2983 (P : Params) : Obj := (tu [])
noncomputable def o2984 (P : Params) : Obj := (Obj.mk Value.none none (Data.fields (List.toArray [])) #[])
noncomputable def o2985 (P : Params) : Obj := (tu [(vs "script" 25906), (vs "a" 25907), (vs "b" 25908), (vs "c" 25909), (vs "d" 25910), (vs "e" 25911), (vs "g" 25912), (vs "kind" 25913), (vs "bits" 25914), (vs "top" 25915), (vs "spread" 25916), (vs "prefix" 25917), (vs "start" 25918), (vs "target" 25919), (vs "size" 25920), (vs "low" 25921), (vs "high" 25922), (vs "other" 25923), (vs "place" 25924), (vs "exclude" 25925), (vs "length" 25926), (vs "first" 25927), (vs "last" 25928), (vs "below" 25929), (vs "within" 25930), (vs "above" 25931), (vs "left" 25932), (vs "middle" 25933), (vs "right" 25934)])
noncomputable def o2986 (P : Params) : Obj := (tu [])
noncomputable def o2987 (P : Params) : Obj := (Obj.mk Value.none none (Data.func (FuncData.mk (Str.ofString "law") (Str.ofString "law") (fA (st 86)) (FuncBody.stmts (fB (st 86))) (fS (st 86)) 0 [] Value.none Value.none Value.none Value.none none Value.none Value.none 0)) #[])
noncomputable def o2988 (P : Params) : Obj := (fo "code" [(vs "law" 25903), (vs "law" 25904), (vs "/claim/cut.py" 25905), (vi 1077 0), (vi 1 0), (vi 0 0), (vi 0 0), (vi 3 0), (vr 2983), (Value.bool true), (vi 181 0), (vr 2984), Value.none, (vr 2985), (vr 2986), (vr 2987), (vi 25935 0), (vi 1077 0), (vs "/claim/cut.py" 25936)])
noncomputable def o2989 (P : Params) : Obj := by
  refine (fun (_ : st 86 = .FunctionDef ?n ?a ?b ?d ?r ?t ?s ?u ?v ?p) => (Obj.mk (Value.type "function") none (Data.func (FuncData.mk (Str.ofString "law") (Str.ofString "law") ?a (FuncBody.stmts ?b) ?s 3 [] Value.none Value.none Value.none (vs "law_az0025_01" 25884) none (vr 2988) Value.none 0)) #[])) ?e
  case e => rfl
@[reducible] def lf (o : Obj) : BT := .node o .nil .nil
/-- the heap at the end, what the table of bits left lying: g -/
noncomputable def base (g : Nat → Obj) (P : Params) : BT := (.node (o0 P) (.node (o1 P) (.node (o3 P) (.node (o7 P) (.node (o15 P) (.node (o31 P) (.node (g 63) (.node (g 127) (.node (g 255) (.node (g 511) (.node (g 1023) (lf (o2047 P)) .nil) (.node (o1535 P) (lf (o2559 P)) .nil)) (.node (g 767) (.node (g 1279) (lf (o2303 P)) .nil) (.node (o1791 P) (lf (o2815 P)) .nil))) (.node (g 383) (.node (g 639) (.node (g 1151) (lf (o2175 P)) .nil) (.node (o1663 P) (lf (o2687 P)) .nil)) (.node (g 895) (.node (o1407 P) (lf (o2431 P)) .nil) (.node (o1919 P) (lf (o2943 P)) .nil)))) (.node (g 191) (.node (g 319) (.node (g 575) (.node (g 1087) (lf (o2111 P)) .nil) (.node (o1599 P) (lf (o2623 P)) .nil)) (.node (g 831) (.node (o1343 P) (lf (o2367 P)) .nil) (.node (o1855 P) (lf (o2879 P)) .nil))) (.node (g 447) (.node (g 703) (.node (g 1215) (lf (o2239 P)) .nil) (.node (o1727 P) (lf (o2751 P)) .nil)) (.node (g 959) (.node (o1471 P) (lf (o2495 P)) .nil) (lf (o1983 P)))))) (.node (g 95) (.node (g 159) (.node (g 287) (.node (g 543) (.node (g 1055) (lf (o2079 P)) .nil) (.node (o1567 P) (lf (o2591 P)) .nil)) (.node (g 799) (.node (g 1311) (lf (o2335 P)) .nil) (.node (o1823 P) (lf (o2847 P)) .nil))) (.node (g 415) (.node (g 671) (.node (g 1183) (lf (o2207 P)) .nil) (.node (o1695 P) (lf (o2719 P)) .nil)) (.node (g 927) (.node (o1439 P) (lf (o2463 P)) .nil) (.node (o1951 P) (lf (o2975 P)) .nil)))) (.node (g 223) (.node (g 351) (.node (g 607) (.node (g 1119) (lf (o2143 P)) .nil) (.node (o1631 P) (lf (o2655 P)) .nil)) (.node (g 863) (.node (o1375 P) (lf (o2399 P)) .nil) (.node (o1887 P) (lf (o2911 P)) .nil))) (.node (g 479) (.node (g 735) (.node (g 1247) (lf (o2271 P)) .nil) (.node (o1759 P) (lf (o2783 P)) .nil)) (.node (g 991) (.node (o1503 P) (lf (o2527 P)) .nil) (lf (o2015 P))))))) (.node (g 47) (.node (g 79) (.node (g 143) (.node (g 271) (.node (g 527) (.node (g 1039) (lf (o2063 P)) .nil) (.node (o1551 P) (lf (o2575 P)) .nil)) (.node (g 783) (.node (g 1295) (lf (o2319 P)) .nil) (.node (o1807 P) (lf (o2831 P)) .nil))) (.node (g 399) (.node (g 655) (.node (g 1167) (lf (o2191 P)) .nil) (.node (o1679 P) (lf (o2703 P)) .nil)) (.node (g 911) (.node (o1423 P) (lf (o2447 P)) .nil) (.node (o1935 P) (lf (o2959 P)) .nil)))) (.node (g 207) (.node (g 335) (.node (g 591) (.node (g 1103) (lf (o2127 P)) .nil) (.node (o1615 P) (lf (o2639 P)) .nil)) (.node (g 847) (.node (o1359 P) (lf (o2383 P)) .nil) (.node (o1871 P) (lf (o2895 P)) .nil))) (.node (g 463) (.node (g 719) (.node (g 1231) (lf (o2255 P)) .nil) (.node (o1743 P) (lf (o2767 P)) .nil)) (.node (g 975) (.node (o1487 P) (lf (o2511 P)) .nil) (lf (o1999 P)))))) (.node (g 111) (.node (g 175) (.node (g 303) (.node (g 559) (.node (g 1071) (lf (o2095 P)) .nil) (.node (o1583 P) (lf (o2607 P)) .nil)) (.node (g 815) (.node (g 1327) (lf (o2351 P)) .nil) (.node (o1839 P) (lf (o2863 P)) .nil))) (.node (g 431) (.node (g 687) (.node (g 1199) (lf (o2223 P)) .nil) (.node (o1711 P) (lf (o2735 P)) .nil)) (.node (g 943) (.node (o1455 P) (lf (o2479 P)) .nil) (lf (o1967 P))))) (.node (g 239) (.node (g 367) (.node (g 623) (.node (g 1135) (lf (o2159 P)) .nil) (.node (o1647 P) (lf (o2671 P)) .nil)) (.node (g 879) (.node (o1391 P) (lf (o2415 P)) .nil) (.node (o1903 P) (lf (o2927 P)) .nil))) (.node (g 495) (.node (g 751) (.node (g 1263) (lf (o2287 P)) .nil) (.node (o1775 P) (lf (o2799 P)) .nil)) (.node (g 1007) (.node (o1519 P) (lf (o2543 P)) .nil) (lf (o2031 P)))))))) (.node (o23 P) (.node (o39 P) (.node (g 71) (.node (g 135) (.node (g 263) (.node (g 519) (.node (g 1031) (lf (o2055 P)) .nil) (.node (o1543 P) (lf (o2567 P)) .nil)) (.node (g 775) (.node (g 1287) (lf (o2311 P)) .nil) (.node (o1799 P) (lf (o2823 P)) .nil))) (.node (g 391) (.node (g 647) (.node (g 1159) (lf (o2183 P)) .nil) (.node (o1671 P) (lf (o2695 P)) .nil)) (.node (g 903) (.node (o1415 P) (lf (o2439 P)) .nil) (.node (o1927 P) (lf (o2951 P)) .nil)))) (.node (g 199) (.node (g 327) (.node (g 583) (.node (g 1095) (lf (o2119 P)) .nil) (.node (o1607 P) (lf (o2631 P)) .nil)) (.node (g 839) (.node (o1351 P) (lf (o2375 P)) .nil) (.node (o1863 P) (lf (o2887 P)) .nil))) (.node (g 455) (.node (g 711) (.node (g 1223) (lf (o2247 P)) .nil) (.node (o1735 P) (lf (o2759 P)) .nil)) (.node (g 967) (.node (o1479 P) (lf (o2503 P)) .nil) (lf (o1991 P)))))) (.node (g 103) (.node (g 167) (.node (g 295) (.node (g 551) (.node (g 1063) (lf (o2087 P)) .nil) (.node (o1575 P) (lf (o2599 P)) .nil)) (.node (g 807) (.node (g 1319) (lf (o2343 P)) .nil) (.node (o1831 P) (lf (o2855 P)) .nil))) (.node (g 423) (.node (g 679) (.node (g 1191) (lf (o2215 P)) .nil) (.node (o1703 P) (lf (o2727 P)) .nil)) (.node (g 935) (.node (o1447 P) (lf (o2471 P)) .nil) (.node (o1959 P) (lf (o2983 P)) .nil)))) (.node (g 231) (.node (g 359) (.node (g 615) (.node (g 1127) (lf (o2151 P)) .nil) (.node (o1639 P) (lf (o2663 P)) .nil)) (.node (g 871) (.node (o1383 P) (lf (o2407 P)) .nil) (.node (o1895 P) (lf (o2919 P)) .nil))) (.node (g 487) (.node (g 743) (.node (g 1255) (lf (o2279 P)) .nil) (.node (o1767 P) (lf (o2791 P)) .nil)) (.node (g 999) (.node (o1511 P) (lf (o2535 P)) .nil) (lf (o2023 P))))))) (.node (g 55) (.node (g 87) (.node (g 151) (.node (g 279) (.node (g 535) (.node (g 1047) (lf (o2071 P)) .nil) (.node (o1559 P) (lf (o2583 P)) .nil)) (.node (g 791) (.node (g 1303) (lf (o2327 P)) .nil) (.node (o1815 P) (lf (o2839 P)) .nil))) (.node (g 407) (.node (g 663) (.node (g 1175) (lf (o2199 P)) .nil) (.node (o1687 P) (lf (o2711 P)) .nil)) (.node (g 919) (.node (o1431 P) (lf (o2455 P)) .nil) (.node (o1943 P) (lf (o2967 P)) .nil)))) (.node (g 215) (.node (g 343) (.node (g 599) (.node (g 1111) (lf (o2135 P)) .nil) (.node (o1623 P) (lf (o2647 P)) .nil)) (.node (g 855) (.node (o1367 P) (lf (o2391 P)) .nil) (.node (o1879 P) (lf (o2903 P)) .nil))) (.node (g 471) (.node (g 727) (.node (g 1239) (lf (o2263 P)) .nil) (.node (o1751 P) (lf (o2775 P)) .nil)) (.node (g 983) (.node (o1495 P) (lf (o2519 P)) .nil) (lf (o2007 P)))))) (.node (g 119) (.node (g 183) (.node (g 311) (.node (g 567) (.node (g 1079) (lf (o2103 P)) .nil) (.node (o1591 P) (lf (o2615 P)) .nil)) (.node (g 823) (.node (o1335 P) (lf (o2359 P)) .nil) (.node (o1847 P) (lf (o2871 P)) .nil))) (.node (g 439) (.node (g 695) (.node (g 1207) (lf (o2231 P)) .nil) (.node (o1719 P) (lf (o2743 P)) .nil)) (.node (g 951) (.node (o1463 P) (lf (o2487 P)) .nil) (lf (o1975 P))))) (.node (g 247) (.node (g 375) (.node (g 631) (.node (g 1143) (lf (o2167 P)) .nil) (.node (o1655 P) (lf (o2679 P)) .nil)) (.node (g 887) (.node (o1399 P) (lf (o2423 P)) .nil) (.node (o1911 P) (lf (o2935 P)) .nil))) (.node (g 503) (.node (g 759) (.node (g 1271) (lf (o2295 P)) .nil) (.node (o1783 P) (lf (o2807 P)) .nil)) (.node (g 1015) (.node (o1527 P) (lf (o2551 P)) .nil) (lf (o2039 P))))))))) (.node (o11 P) (.node (o19 P) (.node (o35 P) (.node (g 67) (.node (g 131) (.node (g 259) (.node (g 515) (.node (g 1027) (lf (o2051 P)) .nil) (.node (o1539 P) (lf (o2563 P)) .nil)) (.node (g 771) (.node (g 1283) (lf (o2307 P)) .nil) (.node (o1795 P) (lf (o2819 P)) .nil))) (.node (g 387) (.node (g 643) (.node (g 1155) (lf (o2179 P)) .nil) (.node (o1667 P) (lf (o2691 P)) .nil)) (.node (g 899) (.node (o1411 P) (lf (o2435 P)) .nil) (.node (o1923 P) (lf (o2947 P)) .nil)))) (.node (g 195) (.node (g 323) (.node (g 579) (.node (g 1091) (lf (o2115 P)) .nil) (.node (o1603 P) (lf (o2627 P)) .nil)) (.node (g 835) (.node (o1347 P) (lf (o2371 P)) .nil) (.node (o1859 P) (lf (o2883 P)) .nil))) (.node (g 451) (.node (g 707) (.node (g 1219) (lf (o2243 P)) .nil) (.node (o1731 P) (lf (o2755 P)) .nil)) (.node (g 963) (.node (o1475 P) (lf (o2499 P)) .nil) (lf (o1987 P)))))) (.node (g 99) (.node (g 163) (.node (g 291) (.node (g 547) (.node (g 1059) (lf (o2083 P)) .nil) (.node (o1571 P) (lf (o2595 P)) .nil)) (.node (g 803) (.node (g 1315) (lf (o2339 P)) .nil) (.node (o1827 P) (lf (o2851 P)) .nil))) (.node (g 419) (.node (g 675) (.node (g 1187) (lf (o2211 P)) .nil) (.node (o1699 P) (lf (o2723 P)) .nil)) (.node (g 931) (.node (o1443 P) (lf (o2467 P)) .nil) (.node (o1955 P) (lf (o2979 P)) .nil)))) (.node (g 227) (.node (g 355) (.node (g 611) (.node (g 1123) (lf (o2147 P)) .nil) (.node (o1635 P) (lf (o2659 P)) .nil)) (.node (g 867) (.node (o1379 P) (lf (o2403 P)) .nil) (.node (o1891 P) (lf (o2915 P)) .nil))) (.node (g 483) (.node (g 739) (.node (g 1251) (lf (o2275 P)) .nil) (.node (o1763 P) (lf (o2787 P)) .nil)) (.node (g 995) (.node (o1507 P) (lf (o2531 P)) .nil) (lf (o2019 P))))))) (.node (g 51) (.node (g 83) (.node (g 147) (.node (g 275) (.node (g 531) (.node (g 1043) (lf (o2067 P)) .nil) (.node (o1555 P) (lf (o2579 P)) .nil)) (.node (g 787) (.node (g 1299) (lf (o2323 P)) .nil) (.node (o1811 P) (lf (o2835 P)) .nil))) (.node (g 403) (.node (g 659) (.node (g 1171) (lf (o2195 P)) .nil) (.node (o1683 P) (lf (o2707 P)) .nil)) (.node (g 915) (.node (o1427 P) (lf (o2451 P)) .nil) (.node (o1939 P) (lf (o2963 P)) .nil)))) (.node (g 211) (.node (g 339) (.node (g 595) (.node (g 1107) (lf (o2131 P)) .nil) (.node (o1619 P) (lf (o2643 P)) .nil)) (.node (g 851) (.node (o1363 P) (lf (o2387 P)) .nil) (.node (o1875 P) (lf (o2899 P)) .nil))) (.node (g 467) (.node (g 723) (.node (g 1235) (lf (o2259 P)) .nil) (.node (o1747 P) (lf (o2771 P)) .nil)) (.node (g 979) (.node (o1491 P) (lf (o2515 P)) .nil) (lf (o2003 P)))))) (.node (g 115) (.node (g 179) (.node (g 307) (.node (g 563) (.node (g 1075) (lf (o2099 P)) .nil) (.node (o1587 P) (lf (o2611 P)) .nil)) (.node (g 819) (.node (o1331 P) (lf (o2355 P)) .nil) (.node (o1843 P) (lf (o2867 P)) .nil))) (.node (g 435) (.node (g 691) (.node (g 1203) (lf (o2227 P)) .nil) (.node (o1715 P) (lf (o2739 P)) .nil)) (.node (g 947) (.node (o1459 P) (lf (o2483 P)) .nil) (lf (o1971 P))))) (.node (g 243) (.node (g 371) (.node (g 627) (.node (g 1139) (lf (o2163 P)) .nil) (.node (o1651 P) (lf (o2675 P)) .nil)) (.node (g 883) (.node (o1395 P) (lf (o2419 P)) .nil) (.node (o1907 P) (lf (o2931 P)) .nil))) (.node (g 499) (.node (g 755) (.node (g 1267) (lf (o2291 P)) .nil) (.node (o1779 P) (lf (o2803 P)) .nil)) (.node (g 1011) (.node (o1523 P) (lf (o2547 P)) .nil) (lf (o2035 P)))))))) (.node (o27 P) (.node (g 43) (.node (g 75) (.node (g 139) (.node (g 267) (.node (g 523) (.node (g 1035) (lf (o2059 P)) .nil) (.node (o1547 P) (lf (o2571 P)) .nil)) (.node (g 779) (.node (g 1291) (lf (o2315 P)) .nil) (.node (o1803 P) (lf (o2827 P)) .nil))) (.node (g 395) (.node (g 651) (.node (g 1163) (lf (o2187 P)) .nil) (.node (o1675 P) (lf (o2699 P)) .nil)) (.node (g 907) (.node (o1419 P) (lf (o2443 P)) .nil) (.node (o1931 P) (lf (o2955 P)) .nil)))) (.node (g 203) (.node (g 331) (.node (g 587) (.node (g 1099) (lf (o2123 P)) .nil) (.node (o1611 P) (lf (o2635 P)) .nil)) (.node (g 843) (.node (o1355 P) (lf (o2379 P)) .nil) (.node (o1867 P) (lf (o2891 P)) .nil))) (.node (g 459) (.node (g 715) (.node (g 1227) (lf (o2251 P)) .nil) (.node (o1739 P) (lf (o2763 P)) .nil)) (.node (g 971) (.node (o1483 P) (lf (o2507 P)) .nil) (lf (o1995 P)))))) (.node (g 107) (.node (g 171) (.node (g 299) (.node (g 555) (.node (g 1067) (lf (o2091 P)) .nil) (.node (o1579 P) (lf (o2603 P)) .nil)) (.node (g 811) (.node (g 1323) (lf (o2347 P)) .nil) (.node (o1835 P) (lf (o2859 P)) .nil))) (.node (g 427) (.node (g 683) (.node (g 1195) (lf (o2219 P)) .nil) (.node (o1707 P) (lf (o2731 P)) .nil)) (.node (g 939) (.node (o1451 P) (lf (o2475 P)) .nil) (.node (o1963 P) (lf (o2987 P)) .nil)))) (.node (g 235) (.node (g 363) (.node (g 619) (.node (g 1131) (lf (o2155 P)) .nil) (.node (o1643 P) (lf (o2667 P)) .nil)) (.node (g 875) (.node (o1387 P) (lf (o2411 P)) .nil) (.node (o1899 P) (lf (o2923 P)) .nil))) (.node (g 491) (.node (g 747) (.node (g 1259) (lf (o2283 P)) .nil) (.node (o1771 P) (lf (o2795 P)) .nil)) (.node (g 1003) (.node (o1515 P) (lf (o2539 P)) .nil) (lf (o2027 P))))))) (.node (g 59) (.node (g 91) (.node (g 155) (.node (g 283) (.node (g 539) (.node (g 1051) (lf (o2075 P)) .nil) (.node (o1563 P) (lf (o2587 P)) .nil)) (.node (g 795) (.node (g 1307) (lf (o2331 P)) .nil) (.node (o1819 P) (lf (o2843 P)) .nil))) (.node (g 411) (.node (g 667) (.node (g 1179) (lf (o2203 P)) .nil) (.node (o1691 P) (lf (o2715 P)) .nil)) (.node (g 923) (.node (o1435 P) (lf (o2459 P)) .nil) (.node (o1947 P) (lf (o2971 P)) .nil)))) (.node (g 219) (.node (g 347) (.node (g 603) (.node (g 1115) (lf (o2139 P)) .nil) (.node (o1627 P) (lf (o2651 P)) .nil)) (.node (g 859) (.node (o1371 P) (lf (o2395 P)) .nil) (.node (o1883 P) (lf (o2907 P)) .nil))) (.node (g 475) (.node (g 731) (.node (g 1243) (lf (o2267 P)) .nil) (.node (o1755 P) (lf (o2779 P)) .nil)) (.node (g 987) (.node (o1499 P) (lf (o2523 P)) .nil) (lf (o2011 P)))))) (.node (g 123) (.node (g 187) (.node (g 315) (.node (g 571) (.node (g 1083) (lf (o2107 P)) .nil) (.node (o1595 P) (lf (o2619 P)) .nil)) (.node (g 827) (.node (o1339 P) (lf (o2363 P)) .nil) (.node (o1851 P) (lf (o2875 P)) .nil))) (.node (g 443) (.node (g 699) (.node (g 1211) (lf (o2235 P)) .nil) (.node (o1723 P) (lf (o2747 P)) .nil)) (.node (g 955) (.node (o1467 P) (lf (o2491 P)) .nil) (lf (o1979 P))))) (.node (g 251) (.node (g 379) (.node (g 635) (.node (g 1147) (lf (o2171 P)) .nil) (.node (o1659 P) (lf (o2683 P)) .nil)) (.node (g 891) (.node (o1403 P) (lf (o2427 P)) .nil) (.node (o1915 P) (lf (o2939 P)) .nil))) (.node (g 507) (.node (g 763) (.node (g 1275) (lf (o2299 P)) .nil) (.node (o1787 P) (lf (o2811 P)) .nil)) (.node (g 1019) (.node (o1531 P) (lf (o2555 P)) .nil) (lf (o2043 P)))))))))) (.node (o5 P) (.node (o9 P) (.node (o17 P) (.node (o33 P) (.node (g 65) (.node (g 129) (.node (g 257) (.node (g 513) (.node (g 1025) (lf (o2049 P)) .nil) (.node (o1537 P) (lf (o2561 P)) .nil)) (.node (g 769) (.node (g 1281) (lf (o2305 P)) .nil) (.node (o1793 P) (lf (o2817 P)) .nil))) (.node (g 385) (.node (g 641) (.node (g 1153) (lf (o2177 P)) .nil) (.node (o1665 P) (lf (o2689 P)) .nil)) (.node (g 897) (.node (o1409 P) (lf (o2433 P)) .nil) (.node (o1921 P) (lf (o2945 P)) .nil)))) (.node (g 193) (.node (g 321) (.node (g 577) (.node (g 1089) (lf (o2113 P)) .nil) (.node (o1601 P) (lf (o2625 P)) .nil)) (.node (g 833) (.node (o1345 P) (lf (o2369 P)) .nil) (.node (o1857 P) (lf (o2881 P)) .nil))) (.node (g 449) (.node (g 705) (.node (g 1217) (lf (o2241 P)) .nil) (.node (o1729 P) (lf (o2753 P)) .nil)) (.node (g 961) (.node (o1473 P) (lf (o2497 P)) .nil) (lf (o1985 P)))))) (.node (g 97) (.node (g 161) (.node (g 289) (.node (g 545) (.node (g 1057) (lf (o2081 P)) .nil) (.node (o1569 P) (lf (o2593 P)) .nil)) (.node (g 801) (.node (g 1313) (lf (o2337 P)) .nil) (.node (o1825 P) (lf (o2849 P)) .nil))) (.node (g 417) (.node (g 673) (.node (g 1185) (lf (o2209 P)) .nil) (.node (o1697 P) (lf (o2721 P)) .nil)) (.node (g 929) (.node (o1441 P) (lf (o2465 P)) .nil) (.node (o1953 P) (lf (o2977 P)) .nil)))) (.node (g 225) (.node (g 353) (.node (g 609) (.node (g 1121) (lf (o2145 P)) .nil) (.node (o1633 P) (lf (o2657 P)) .nil)) (.node (g 865) (.node (o1377 P) (lf (o2401 P)) .nil) (.node (o1889 P) (lf (o2913 P)) .nil))) (.node (g 481) (.node (g 737) (.node (g 1249) (lf (o2273 P)) .nil) (.node (o1761 P) (lf (o2785 P)) .nil)) (.node (g 993) (.node (o1505 P) (lf (o2529 P)) .nil) (lf (o2017 P))))))) (.node (g 49) (.node (g 81) (.node (g 145) (.node (g 273) (.node (g 529) (.node (g 1041) (lf (o2065 P)) .nil) (.node (o1553 P) (lf (o2577 P)) .nil)) (.node (g 785) (.node (g 1297) (lf (o2321 P)) .nil) (.node (o1809 P) (lf (o2833 P)) .nil))) (.node (g 401) (.node (g 657) (.node (g 1169) (lf (o2193 P)) .nil) (.node (o1681 P) (lf (o2705 P)) .nil)) (.node (g 913) (.node (o1425 P) (lf (o2449 P)) .nil) (.node (o1937 P) (lf (o2961 P)) .nil)))) (.node (g 209) (.node (g 337) (.node (g 593) (.node (g 1105) (lf (o2129 P)) .nil) (.node (o1617 P) (lf (o2641 P)) .nil)) (.node (g 849) (.node (o1361 P) (lf (o2385 P)) .nil) (.node (o1873 P) (lf (o2897 P)) .nil))) (.node (g 465) (.node (g 721) (.node (g 1233) (lf (o2257 P)) .nil) (.node (o1745 P) (lf (o2769 P)) .nil)) (.node (g 977) (.node (o1489 P) (lf (o2513 P)) .nil) (lf (o2001 P)))))) (.node (g 113) (.node (g 177) (.node (g 305) (.node (g 561) (.node (g 1073) (lf (o2097 P)) .nil) (.node (o1585 P) (lf (o2609 P)) .nil)) (.node (g 817) (.node (o1329 P) (lf (o2353 P)) .nil) (.node (o1841 P) (lf (o2865 P)) .nil))) (.node (g 433) (.node (g 689) (.node (g 1201) (lf (o2225 P)) .nil) (.node (o1713 P) (lf (o2737 P)) .nil)) (.node (g 945) (.node (o1457 P) (lf (o2481 P)) .nil) (lf (o1969 P))))) (.node (g 241) (.node (g 369) (.node (g 625) (.node (g 1137) (lf (o2161 P)) .nil) (.node (o1649 P) (lf (o2673 P)) .nil)) (.node (g 881) (.node (o1393 P) (lf (o2417 P)) .nil) (.node (o1905 P) (lf (o2929 P)) .nil))) (.node (g 497) (.node (g 753) (.node (g 1265) (lf (o2289 P)) .nil) (.node (o1777 P) (lf (o2801 P)) .nil)) (.node (g 1009) (.node (o1521 P) (lf (o2545 P)) .nil) (lf (o2033 P)))))))) (.node (o25 P) (.node (o41 P) (.node (g 73) (.node (g 137) (.node (g 265) (.node (g 521) (.node (g 1033) (lf (o2057 P)) .nil) (.node (o1545 P) (lf (o2569 P)) .nil)) (.node (g 777) (.node (g 1289) (lf (o2313 P)) .nil) (.node (o1801 P) (lf (o2825 P)) .nil))) (.node (g 393) (.node (g 649) (.node (g 1161) (lf (o2185 P)) .nil) (.node (o1673 P) (lf (o2697 P)) .nil)) (.node (g 905) (.node (o1417 P) (lf (o2441 P)) .nil) (.node (o1929 P) (lf (o2953 P)) .nil)))) (.node (g 201) (.node (g 329) (.node (g 585) (.node (g 1097) (lf (o2121 P)) .nil) (.node (o1609 P) (lf (o2633 P)) .nil)) (.node (g 841) (.node (o1353 P) (lf (o2377 P)) .nil) (.node (o1865 P) (lf (o2889 P)) .nil))) (.node (g 457) (.node (g 713) (.node (g 1225) (lf (o2249 P)) .nil) (.node (o1737 P) (lf (o2761 P)) .nil)) (.node (g 969) (.node (o1481 P) (lf (o2505 P)) .nil) (lf (o1993 P)))))) (.node (g 105) (.node (g 169) (.node (g 297) (.node (g 553) (.node (g 1065) (lf (o2089 P)) .nil) (.node (o1577 P) (lf (o2601 P)) .nil)) (.node (g 809) (.node (g 1321) (lf (o2345 P)) .nil) (.node (o1833 P) (lf (o2857 P)) .nil))) (.node (g 425) (.node (g 681) (.node (g 1193) (lf (o2217 P)) .nil) (.node (o1705 P) (lf (o2729 P)) .nil)) (.node (g 937) (.node (o1449 P) (lf (o2473 P)) .nil) (.node (o1961 P) (lf (o2985 P)) .nil)))) (.node (g 233) (.node (g 361) (.node (g 617) (.node (g 1129) (lf (o2153 P)) .nil) (.node (o1641 P) (lf (o2665 P)) .nil)) (.node (g 873) (.node (o1385 P) (lf (o2409 P)) .nil) (.node (o1897 P) (lf (o2921 P)) .nil))) (.node (g 489) (.node (g 745) (.node (g 1257) (lf (o2281 P)) .nil) (.node (o1769 P) (lf (o2793 P)) .nil)) (.node (g 1001) (.node (o1513 P) (lf (o2537 P)) .nil) (lf (o2025 P))))))) (.node (g 57) (.node (g 89) (.node (g 153) (.node (g 281) (.node (g 537) (.node (g 1049) (lf (o2073 P)) .nil) (.node (o1561 P) (lf (o2585 P)) .nil)) (.node (g 793) (.node (g 1305) (lf (o2329 P)) .nil) (.node (o1817 P) (lf (o2841 P)) .nil))) (.node (g 409) (.node (g 665) (.node (g 1177) (lf (o2201 P)) .nil) (.node (o1689 P) (lf (o2713 P)) .nil)) (.node (g 921) (.node (o1433 P) (lf (o2457 P)) .nil) (.node (o1945 P) (lf (o2969 P)) .nil)))) (.node (g 217) (.node (g 345) (.node (g 601) (.node (g 1113) (lf (o2137 P)) .nil) (.node (o1625 P) (lf (o2649 P)) .nil)) (.node (g 857) (.node (o1369 P) (lf (o2393 P)) .nil) (.node (o1881 P) (lf (o2905 P)) .nil))) (.node (g 473) (.node (g 729) (.node (g 1241) (lf (o2265 P)) .nil) (.node (o1753 P) (lf (o2777 P)) .nil)) (.node (g 985) (.node (o1497 P) (lf (o2521 P)) .nil) (lf (o2009 P)))))) (.node (g 121) (.node (g 185) (.node (g 313) (.node (g 569) (.node (g 1081) (lf (o2105 P)) .nil) (.node (o1593 P) (lf (o2617 P)) .nil)) (.node (g 825) (.node (o1337 P) (lf (o2361 P)) .nil) (.node (o1849 P) (lf (o2873 P)) .nil))) (.node (g 441) (.node (g 697) (.node (g 1209) (lf (o2233 P)) .nil) (.node (o1721 P) (lf (o2745 P)) .nil)) (.node (g 953) (.node (o1465 P) (lf (o2489 P)) .nil) (lf (o1977 P))))) (.node (g 249) (.node (g 377) (.node (g 633) (.node (g 1145) (lf (o2169 P)) .nil) (.node (o1657 P) (lf (o2681 P)) .nil)) (.node (g 889) (.node (o1401 P) (lf (o2425 P)) .nil) (.node (o1913 P) (lf (o2937 P)) .nil))) (.node (g 505) (.node (g 761) (.node (g 1273) (lf (o2297 P)) .nil) (.node (o1785 P) (lf (o2809 P)) .nil)) (.node (g 1017) (.node (o1529 P) (lf (o2553 P)) .nil) (lf (o2041 P))))))))) (.node (o13 P) (.node (o21 P) (.node (o37 P) (.node (g 69) (.node (g 133) (.node (g 261) (.node (g 517) (.node (g 1029) (lf (o2053 P)) .nil) (.node (o1541 P) (lf (o2565 P)) .nil)) (.node (g 773) (.node (g 1285) (lf (o2309 P)) .nil) (.node (o1797 P) (lf (o2821 P)) .nil))) (.node (g 389) (.node (g 645) (.node (g 1157) (lf (o2181 P)) .nil) (.node (o1669 P) (lf (o2693 P)) .nil)) (.node (g 901) (.node (o1413 P) (lf (o2437 P)) .nil) (.node (o1925 P) (lf (o2949 P)) .nil)))) (.node (g 197) (.node (g 325) (.node (g 581) (.node (g 1093) (lf (o2117 P)) .nil) (.node (o1605 P) (lf (o2629 P)) .nil)) (.node (g 837) (.node (o1349 P) (lf (o2373 P)) .nil) (.node (o1861 P) (lf (o2885 P)) .nil))) (.node (g 453) (.node (g 709) (.node (g 1221) (lf (o2245 P)) .nil) (.node (o1733 P) (lf (o2757 P)) .nil)) (.node (g 965) (.node (o1477 P) (lf (o2501 P)) .nil) (lf (o1989 P)))))) (.node (g 101) (.node (g 165) (.node (g 293) (.node (g 549) (.node (g 1061) (lf (o2085 P)) .nil) (.node (o1573 P) (lf (o2597 P)) .nil)) (.node (g 805) (.node (g 1317) (lf (o2341 P)) .nil) (.node (o1829 P) (lf (o2853 P)) .nil))) (.node (g 421) (.node (g 677) (.node (g 1189) (lf (o2213 P)) .nil) (.node (o1701 P) (lf (o2725 P)) .nil)) (.node (g 933) (.node (o1445 P) (lf (o2469 P)) .nil) (.node (o1957 P) (lf (o2981 P)) .nil)))) (.node (g 229) (.node (g 357) (.node (g 613) (.node (g 1125) (lf (o2149 P)) .nil) (.node (o1637 P) (lf (o2661 P)) .nil)) (.node (g 869) (.node (o1381 P) (lf (o2405 P)) .nil) (.node (o1893 P) (lf (o2917 P)) .nil))) (.node (g 485) (.node (g 741) (.node (g 1253) (lf (o2277 P)) .nil) (.node (o1765 P) (lf (o2789 P)) .nil)) (.node (g 997) (.node (o1509 P) (lf (o2533 P)) .nil) (lf (o2021 P))))))) (.node (g 53) (.node (g 85) (.node (g 149) (.node (g 277) (.node (g 533) (.node (g 1045) (lf (o2069 P)) .nil) (.node (o1557 P) (lf (o2581 P)) .nil)) (.node (g 789) (.node (g 1301) (lf (o2325 P)) .nil) (.node (o1813 P) (lf (o2837 P)) .nil))) (.node (g 405) (.node (g 661) (.node (g 1173) (lf (o2197 P)) .nil) (.node (o1685 P) (lf (o2709 P)) .nil)) (.node (g 917) (.node (o1429 P) (lf (o2453 P)) .nil) (.node (o1941 P) (lf (o2965 P)) .nil)))) (.node (g 213) (.node (g 341) (.node (g 597) (.node (g 1109) (lf (o2133 P)) .nil) (.node (o1621 P) (lf (o2645 P)) .nil)) (.node (g 853) (.node (o1365 P) (lf (o2389 P)) .nil) (.node (o1877 P) (lf (o2901 P)) .nil))) (.node (g 469) (.node (g 725) (.node (g 1237) (lf (o2261 P)) .nil) (.node (o1749 P) (lf (o2773 P)) .nil)) (.node (g 981) (.node (o1493 P) (lf (o2517 P)) .nil) (lf (o2005 P)))))) (.node (g 117) (.node (g 181) (.node (g 309) (.node (g 565) (.node (g 1077) (lf (o2101 P)) .nil) (.node (o1589 P) (lf (o2613 P)) .nil)) (.node (g 821) (.node (o1333 P) (lf (o2357 P)) .nil) (.node (o1845 P) (lf (o2869 P)) .nil))) (.node (g 437) (.node (g 693) (.node (g 1205) (lf (o2229 P)) .nil) (.node (o1717 P) (lf (o2741 P)) .nil)) (.node (g 949) (.node (o1461 P) (lf (o2485 P)) .nil) (lf (o1973 P))))) (.node (g 245) (.node (g 373) (.node (g 629) (.node (g 1141) (lf (o2165 P)) .nil) (.node (o1653 P) (lf (o2677 P)) .nil)) (.node (g 885) (.node (o1397 P) (lf (o2421 P)) .nil) (.node (o1909 P) (lf (o2933 P)) .nil))) (.node (g 501) (.node (g 757) (.node (g 1269) (lf (o2293 P)) .nil) (.node (o1781 P) (lf (o2805 P)) .nil)) (.node (g 1013) (.node (o1525 P) (lf (o2549 P)) .nil) (lf (o2037 P)))))))) (.node (o29 P) (.node (g 45) (.node (g 77) (.node (g 141) (.node (g 269) (.node (g 525) (.node (g 1037) (lf (o2061 P)) .nil) (.node (o1549 P) (lf (o2573 P)) .nil)) (.node (g 781) (.node (g 1293) (lf (o2317 P)) .nil) (.node (o1805 P) (lf (o2829 P)) .nil))) (.node (g 397) (.node (g 653) (.node (g 1165) (lf (o2189 P)) .nil) (.node (o1677 P) (lf (o2701 P)) .nil)) (.node (g 909) (.node (o1421 P) (lf (o2445 P)) .nil) (.node (o1933 P) (lf (o2957 P)) .nil)))) (.node (g 205) (.node (g 333) (.node (g 589) (.node (g 1101) (lf (o2125 P)) .nil) (.node (o1613 P) (lf (o2637 P)) .nil)) (.node (g 845) (.node (o1357 P) (lf (o2381 P)) .nil) (.node (o1869 P) (lf (o2893 P)) .nil))) (.node (g 461) (.node (g 717) (.node (g 1229) (lf (o2253 P)) .nil) (.node (o1741 P) (lf (o2765 P)) .nil)) (.node (g 973) (.node (o1485 P) (lf (o2509 P)) .nil) (lf (o1997 P)))))) (.node (g 109) (.node (g 173) (.node (g 301) (.node (g 557) (.node (g 1069) (lf (o2093 P)) .nil) (.node (o1581 P) (lf (o2605 P)) .nil)) (.node (g 813) (.node (g 1325) (lf (o2349 P)) .nil) (.node (o1837 P) (lf (o2861 P)) .nil))) (.node (g 429) (.node (g 685) (.node (g 1197) (lf (o2221 P)) .nil) (.node (o1709 P) (lf (o2733 P)) .nil)) (.node (g 941) (.node (o1453 P) (lf (o2477 P)) .nil) (.node (o1965 P) (lf (o2989 P)) .nil)))) (.node (g 237) (.node (g 365) (.node (g 621) (.node (g 1133) (lf (o2157 P)) .nil) (.node (o1645 P) (lf (o2669 P)) .nil)) (.node (g 877) (.node (o1389 P) (lf (o2413 P)) .nil) (.node (o1901 P) (lf (o2925 P)) .nil))) (.node (g 493) (.node (g 749) (.node (g 1261) (lf (o2285 P)) .nil) (.node (o1773 P) (lf (o2797 P)) .nil)) (.node (g 1005) (.node (o1517 P) (lf (o2541 P)) .nil) (lf (o2029 P))))))) (.node (g 61) (.node (g 93) (.node (g 157) (.node (g 285) (.node (g 541) (.node (g 1053) (lf (o2077 P)) .nil) (.node (o1565 P) (lf (o2589 P)) .nil)) (.node (g 797) (.node (g 1309) (lf (o2333 P)) .nil) (.node (o1821 P) (lf (o2845 P)) .nil))) (.node (g 413) (.node (g 669) (.node (g 1181) (lf (o2205 P)) .nil) (.node (o1693 P) (lf (o2717 P)) .nil)) (.node (g 925) (.node (o1437 P) (lf (o2461 P)) .nil) (.node (o1949 P) (lf (o2973 P)) .nil)))) (.node (g 221) (.node (g 349) (.node (g 605) (.node (g 1117) (lf (o2141 P)) .nil) (.node (o1629 P) (lf (o2653 P)) .nil)) (.node (g 861) (.node (o1373 P) (lf (o2397 P)) .nil) (.node (o1885 P) (lf (o2909 P)) .nil))) (.node (g 477) (.node (g 733) (.node (g 1245) (lf (o2269 P)) .nil) (.node (o1757 P) (lf (o2781 P)) .nil)) (.node (g 989) (.node (o1501 P) (lf (o2525 P)) .nil) (lf (o2013 P)))))) (.node (g 125) (.node (g 189) (.node (g 317) (.node (g 573) (.node (g 1085) (lf (o2109 P)) .nil) (.node (o1597 P) (lf (o2621 P)) .nil)) (.node (g 829) (.node (o1341 P) (lf (o2365 P)) .nil) (.node (o1853 P) (lf (o2877 P)) .nil))) (.node (g 445) (.node (g 701) (.node (g 1213) (lf (o2237 P)) .nil) (.node (o1725 P) (lf (o2749 P)) .nil)) (.node (g 957) (.node (o1469 P) (lf (o2493 P)) .nil) (lf (o1981 P))))) (.node (g 253) (.node (g 381) (.node (g 637) (.node (g 1149) (lf (o2173 P)) .nil) (.node (o1661 P) (lf (o2685 P)) .nil)) (.node (g 893) (.node (o1405 P) (lf (o2429 P)) .nil) (.node (o1917 P) (lf (o2941 P)) .nil))) (.node (g 509) (.node (g 765) (.node (g 1277) (lf (o2301 P)) .nil) (.node (o1789 P) (lf (o2813 P)) .nil)) (.node (g 1021) (.node (o1533 P) (lf (o2557 P)) .nil) (lf (o2045 P))))))))))) (.node (o2 P) (.node (o4 P) (.node (o8 P) (.node (o16 P) (.node (o32 P) (.node (g 64) (.node (g 128) (.node (g 256) (.node (g 512) (.node (g 1024) (lf (o2048 P)) .nil) (.node (o1536 P) (lf (o2560 P)) .nil)) (.node (g 768) (.node (g 1280) (lf (o2304 P)) .nil) (.node (o1792 P) (lf (o2816 P)) .nil))) (.node (g 384) (.node (g 640) (.node (g 1152) (lf (o2176 P)) .nil) (.node (o1664 P) (lf (o2688 P)) .nil)) (.node (g 896) (.node (o1408 P) (lf (o2432 P)) .nil) (.node (o1920 P) (lf (o2944 P)) .nil)))) (.node (g 192) (.node (g 320) (.node (g 576) (.node (g 1088) (lf (o2112 P)) .nil) (.node (o1600 P) (lf (o2624 P)) .nil)) (.node (g 832) (.node (o1344 P) (lf (o2368 P)) .nil) (.node (o1856 P) (lf (o2880 P)) .nil))) (.node (g 448) (.node (g 704) (.node (g 1216) (lf (o2240 P)) .nil) (.node (o1728 P) (lf (o2752 P)) .nil)) (.node (g 960) (.node (o1472 P) (lf (o2496 P)) .nil) (lf (o1984 P)))))) (.node (g 96) (.node (g 160) (.node (g 288) (.node (g 544) (.node (g 1056) (lf (o2080 P)) .nil) (.node (o1568 P) (lf (o2592 P)) .nil)) (.node (g 800) (.node (g 1312) (lf (o2336 P)) .nil) (.node (o1824 P) (lf (o2848 P)) .nil))) (.node (g 416) (.node (g 672) (.node (g 1184) (lf (o2208 P)) .nil) (.node (o1696 P) (lf (o2720 P)) .nil)) (.node (g 928) (.node (o1440 P) (lf (o2464 P)) .nil) (.node (o1952 P) (lf (o2976 P)) .nil)))) (.node (g 224) (.node (g 352) (.node (g 608) (.node (g 1120) (lf (o2144 P)) .nil) (.node (o1632 P) (lf (o2656 P)) .nil)) (.node (g 864) (.node (o1376 P) (lf (o2400 P)) .nil) (.node (o1888 P) (lf (o2912 P)) .nil))) (.node (g 480) (.node (g 736) (.node (g 1248) (lf (o2272 P)) .nil) (.node (o1760 P) (lf (o2784 P)) .nil)) (.node (g 992) (.node (o1504 P) (lf (o2528 P)) .nil) (lf (o2016 P))))))) (.node (g 48) (.node (g 80) (.node (g 144) (.node (g 272) (.node (g 528) (.node (g 1040) (lf (o2064 P)) .nil) (.node (o1552 P) (lf (o2576 P)) .nil)) (.node (g 784) (.node (g 1296) (lf (o2320 P)) .nil) (.node (o1808 P) (lf (o2832 P)) .nil))) (.node (g 400) (.node (g 656) (.node (g 1168) (lf (o2192 P)) .nil) (.node (o1680 P) (lf (o2704 P)) .nil)) (.node (g 912) (.node (o1424 P) (lf (o2448 P)) .nil) (.node (o1936 P) (lf (o2960 P)) .nil)))) (.node (g 208) (.node (g 336) (.node (g 592) (.node (g 1104) (lf (o2128 P)) .nil) (.node (o1616 P) (lf (o2640 P)) .nil)) (.node (g 848) (.node (o1360 P) (lf (o2384 P)) .nil) (.node (o1872 P) (lf (o2896 P)) .nil))) (.node (g 464) (.node (g 720) (.node (g 1232) (lf (o2256 P)) .nil) (.node (o1744 P) (lf (o2768 P)) .nil)) (.node (g 976) (.node (o1488 P) (lf (o2512 P)) .nil) (lf (o2000 P)))))) (.node (g 112) (.node (g 176) (.node (g 304) (.node (g 560) (.node (g 1072) (lf (o2096 P)) .nil) (.node (o1584 P) (lf (o2608 P)) .nil)) (.node (g 816) (.node (g 1328) (lf (o2352 P)) .nil) (.node (o1840 P) (lf (o2864 P)) .nil))) (.node (g 432) (.node (g 688) (.node (g 1200) (lf (o2224 P)) .nil) (.node (o1712 P) (lf (o2736 P)) .nil)) (.node (g 944) (.node (o1456 P) (lf (o2480 P)) .nil) (lf (o1968 P))))) (.node (g 240) (.node (g 368) (.node (g 624) (.node (g 1136) (lf (o2160 P)) .nil) (.node (o1648 P) (lf (o2672 P)) .nil)) (.node (g 880) (.node (o1392 P) (lf (o2416 P)) .nil) (.node (o1904 P) (lf (o2928 P)) .nil))) (.node (g 496) (.node (g 752) (.node (g 1264) (lf (o2288 P)) .nil) (.node (o1776 P) (lf (o2800 P)) .nil)) (.node (g 1008) (.node (o1520 P) (lf (o2544 P)) .nil) (lf (o2032 P)))))))) (.node (o24 P) (.node (o40 P) (.node (g 72) (.node (g 136) (.node (g 264) (.node (g 520) (.node (g 1032) (lf (o2056 P)) .nil) (.node (o1544 P) (lf (o2568 P)) .nil)) (.node (g 776) (.node (g 1288) (lf (o2312 P)) .nil) (.node (o1800 P) (lf (o2824 P)) .nil))) (.node (g 392) (.node (g 648) (.node (g 1160) (lf (o2184 P)) .nil) (.node (o1672 P) (lf (o2696 P)) .nil)) (.node (g 904) (.node (o1416 P) (lf (o2440 P)) .nil) (.node (o1928 P) (lf (o2952 P)) .nil)))) (.node (g 200) (.node (g 328) (.node (g 584) (.node (g 1096) (lf (o2120 P)) .nil) (.node (o1608 P) (lf (o2632 P)) .nil)) (.node (g 840) (.node (o1352 P) (lf (o2376 P)) .nil) (.node (o1864 P) (lf (o2888 P)) .nil))) (.node (g 456) (.node (g 712) (.node (g 1224) (lf (o2248 P)) .nil) (.node (o1736 P) (lf (o2760 P)) .nil)) (.node (g 968) (.node (o1480 P) (lf (o2504 P)) .nil) (lf (o1992 P)))))) (.node (g 104) (.node (g 168) (.node (g 296) (.node (g 552) (.node (g 1064) (lf (o2088 P)) .nil) (.node (o1576 P) (lf (o2600 P)) .nil)) (.node (g 808) (.node (g 1320) (lf (o2344 P)) .nil) (.node (o1832 P) (lf (o2856 P)) .nil))) (.node (g 424) (.node (g 680) (.node (g 1192) (lf (o2216 P)) .nil) (.node (o1704 P) (lf (o2728 P)) .nil)) (.node (g 936) (.node (o1448 P) (lf (o2472 P)) .nil) (.node (o1960 P) (lf (o2984 P)) .nil)))) (.node (g 232) (.node (g 360) (.node (g 616) (.node (g 1128) (lf (o2152 P)) .nil) (.node (o1640 P) (lf (o2664 P)) .nil)) (.node (g 872) (.node (o1384 P) (lf (o2408 P)) .nil) (.node (o1896 P) (lf (o2920 P)) .nil))) (.node (g 488) (.node (g 744) (.node (g 1256) (lf (o2280 P)) .nil) (.node (o1768 P) (lf (o2792 P)) .nil)) (.node (g 1000) (.node (o1512 P) (lf (o2536 P)) .nil) (lf (o2024 P))))))) (.node (g 56) (.node (g 88) (.node (g 152) (.node (g 280) (.node (g 536) (.node (g 1048) (lf (o2072 P)) .nil) (.node (o1560 P) (lf (o2584 P)) .nil)) (.node (g 792) (.node (g 1304) (lf (o2328 P)) .nil) (.node (o1816 P) (lf (o2840 P)) .nil))) (.node (g 408) (.node (g 664) (.node (g 1176) (lf (o2200 P)) .nil) (.node (o1688 P) (lf (o2712 P)) .nil)) (.node (g 920) (.node (o1432 P) (lf (o2456 P)) .nil) (.node (o1944 P) (lf (o2968 P)) .nil)))) (.node (g 216) (.node (g 344) (.node (g 600) (.node (g 1112) (lf (o2136 P)) .nil) (.node (o1624 P) (lf (o2648 P)) .nil)) (.node (g 856) (.node (o1368 P) (lf (o2392 P)) .nil) (.node (o1880 P) (lf (o2904 P)) .nil))) (.node (g 472) (.node (g 728) (.node (g 1240) (lf (o2264 P)) .nil) (.node (o1752 P) (lf (o2776 P)) .nil)) (.node (g 984) (.node (o1496 P) (lf (o2520 P)) .nil) (lf (o2008 P)))))) (.node (g 120) (.node (g 184) (.node (g 312) (.node (g 568) (.node (g 1080) (lf (o2104 P)) .nil) (.node (o1592 P) (lf (o2616 P)) .nil)) (.node (g 824) (.node (o1336 P) (lf (o2360 P)) .nil) (.node (o1848 P) (lf (o2872 P)) .nil))) (.node (g 440) (.node (g 696) (.node (g 1208) (lf (o2232 P)) .nil) (.node (o1720 P) (lf (o2744 P)) .nil)) (.node (g 952) (.node (o1464 P) (lf (o2488 P)) .nil) (lf (o1976 P))))) (.node (g 248) (.node (g 376) (.node (g 632) (.node (g 1144) (lf (o2168 P)) .nil) (.node (o1656 P) (lf (o2680 P)) .nil)) (.node (g 888) (.node (o1400 P) (lf (o2424 P)) .nil) (.node (o1912 P) (lf (o2936 P)) .nil))) (.node (g 504) (.node (g 760) (.node (g 1272) (lf (o2296 P)) .nil) (.node (o1784 P) (lf (o2808 P)) .nil)) (.node (g 1016) (.node (o1528 P) (lf (o2552 P)) .nil) (lf (o2040 P))))))))) (.node (o12 P) (.node (o20 P) (.node (o36 P) (.node (g 68) (.node (g 132) (.node (g 260) (.node (g 516) (.node (g 1028) (lf (o2052 P)) .nil) (.node (o1540 P) (lf (o2564 P)) .nil)) (.node (g 772) (.node (g 1284) (lf (o2308 P)) .nil) (.node (o1796 P) (lf (o2820 P)) .nil))) (.node (g 388) (.node (g 644) (.node (g 1156) (lf (o2180 P)) .nil) (.node (o1668 P) (lf (o2692 P)) .nil)) (.node (g 900) (.node (o1412 P) (lf (o2436 P)) .nil) (.node (o1924 P) (lf (o2948 P)) .nil)))) (.node (g 196) (.node (g 324) (.node (g 580) (.node (g 1092) (lf (o2116 P)) .nil) (.node (o1604 P) (lf (o2628 P)) .nil)) (.node (g 836) (.node (o1348 P) (lf (o2372 P)) .nil) (.node (o1860 P) (lf (o2884 P)) .nil))) (.node (g 452) (.node (g 708) (.node (g 1220) (lf (o2244 P)) .nil) (.node (o1732 P) (lf (o2756 P)) .nil)) (.node (g 964) (.node (o1476 P) (lf (o2500 P)) .nil) (lf (o1988 P)))))) (.node (g 100) (.node (g 164) (.node (g 292) (.node (g 548) (.node (g 1060) (lf (o2084 P)) .nil) (.node (o1572 P) (lf (o2596 P)) .nil)) (.node (g 804) (.node (g 1316) (lf (o2340 P)) .nil) (.node (o1828 P) (lf (o2852 P)) .nil))) (.node (g 420) (.node (g 676) (.node (g 1188) (lf (o2212 P)) .nil) (.node (o1700 P) (lf (o2724 P)) .nil)) (.node (g 932) (.node (o1444 P) (lf (o2468 P)) .nil) (.node (o1956 P) (lf (o2980 P)) .nil)))) (.node (g 228) (.node (g 356) (.node (g 612) (.node (g 1124) (lf (o2148 P)) .nil) (.node (o1636 P) (lf (o2660 P)) .nil)) (.node (g 868) (.node (o1380 P) (lf (o2404 P)) .nil) (.node (o1892 P) (lf (o2916 P)) .nil))) (.node (g 484) (.node (g 740) (.node (g 1252) (lf (o2276 P)) .nil) (.node (o1764 P) (lf (o2788 P)) .nil)) (.node (g 996) (.node (o1508 P) (lf (o2532 P)) .nil) (lf (o2020 P))))))) (.node (g 52) (.node (g 84) (.node (g 148) (.node (g 276) (.node (g 532) (.node (g 1044) (lf (o2068 P)) .nil) (.node (o1556 P) (lf (o2580 P)) .nil)) (.node (g 788) (.node (g 1300) (lf (o2324 P)) .nil) (.node (o1812 P) (lf (o2836 P)) .nil))) (.node (g 404) (.node (g 660) (.node (g 1172) (lf (o2196 P)) .nil) (.node (o1684 P) (lf (o2708 P)) .nil)) (.node (g 916) (.node (o1428 P) (lf (o2452 P)) .nil) (.node (o1940 P) (lf (o2964 P)) .nil)))) (.node (g 212) (.node (g 340) (.node (g 596) (.node (g 1108) (lf (o2132 P)) .nil) (.node (o1620 P) (lf (o2644 P)) .nil)) (.node (g 852) (.node (o1364 P) (lf (o2388 P)) .nil) (.node (o1876 P) (lf (o2900 P)) .nil))) (.node (g 468) (.node (g 724) (.node (g 1236) (lf (o2260 P)) .nil) (.node (o1748 P) (lf (o2772 P)) .nil)) (.node (g 980) (.node (o1492 P) (lf (o2516 P)) .nil) (lf (o2004 P)))))) (.node (g 116) (.node (g 180) (.node (g 308) (.node (g 564) (.node (g 1076) (lf (o2100 P)) .nil) (.node (o1588 P) (lf (o2612 P)) .nil)) (.node (g 820) (.node (o1332 P) (lf (o2356 P)) .nil) (.node (o1844 P) (lf (o2868 P)) .nil))) (.node (g 436) (.node (g 692) (.node (g 1204) (lf (o2228 P)) .nil) (.node (o1716 P) (lf (o2740 P)) .nil)) (.node (g 948) (.node (o1460 P) (lf (o2484 P)) .nil) (lf (o1972 P))))) (.node (g 244) (.node (g 372) (.node (g 628) (.node (g 1140) (lf (o2164 P)) .nil) (.node (o1652 P) (lf (o2676 P)) .nil)) (.node (g 884) (.node (o1396 P) (lf (o2420 P)) .nil) (.node (o1908 P) (lf (o2932 P)) .nil))) (.node (g 500) (.node (g 756) (.node (g 1268) (lf (o2292 P)) .nil) (.node (o1780 P) (lf (o2804 P)) .nil)) (.node (g 1012) (.node (o1524 P) (lf (o2548 P)) .nil) (lf (o2036 P)))))))) (.node (o28 P) (.node (g 44) (.node (g 76) (.node (g 140) (.node (g 268) (.node (g 524) (.node (g 1036) (lf (o2060 P)) .nil) (.node (o1548 P) (lf (o2572 P)) .nil)) (.node (g 780) (.node (g 1292) (lf (o2316 P)) .nil) (.node (o1804 P) (lf (o2828 P)) .nil))) (.node (g 396) (.node (g 652) (.node (g 1164) (lf (o2188 P)) .nil) (.node (o1676 P) (lf (o2700 P)) .nil)) (.node (g 908) (.node (o1420 P) (lf (o2444 P)) .nil) (.node (o1932 P) (lf (o2956 P)) .nil)))) (.node (g 204) (.node (g 332) (.node (g 588) (.node (g 1100) (lf (o2124 P)) .nil) (.node (o1612 P) (lf (o2636 P)) .nil)) (.node (g 844) (.node (o1356 P) (lf (o2380 P)) .nil) (.node (o1868 P) (lf (o2892 P)) .nil))) (.node (g 460) (.node (g 716) (.node (g 1228) (lf (o2252 P)) .nil) (.node (o1740 P) (lf (o2764 P)) .nil)) (.node (g 972) (.node (o1484 P) (lf (o2508 P)) .nil) (lf (o1996 P)))))) (.node (g 108) (.node (g 172) (.node (g 300) (.node (g 556) (.node (g 1068) (lf (o2092 P)) .nil) (.node (o1580 P) (lf (o2604 P)) .nil)) (.node (g 812) (.node (g 1324) (lf (o2348 P)) .nil) (.node (o1836 P) (lf (o2860 P)) .nil))) (.node (g 428) (.node (g 684) (.node (g 1196) (lf (o2220 P)) .nil) (.node (o1708 P) (lf (o2732 P)) .nil)) (.node (g 940) (.node (o1452 P) (lf (o2476 P)) .nil) (.node (o1964 P) (lf (o2988 P)) .nil)))) (.node (g 236) (.node (g 364) (.node (g 620) (.node (g 1132) (lf (o2156 P)) .nil) (.node (o1644 P) (lf (o2668 P)) .nil)) (.node (g 876) (.node (o1388 P) (lf (o2412 P)) .nil) (.node (o1900 P) (lf (o2924 P)) .nil))) (.node (g 492) (.node (g 748) (.node (g 1260) (lf (o2284 P)) .nil) (.node (o1772 P) (lf (o2796 P)) .nil)) (.node (g 1004) (.node (o1516 P) (lf (o2540 P)) .nil) (lf (o2028 P))))))) (.node (g 60) (.node (g 92) (.node (g 156) (.node (g 284) (.node (g 540) (.node (g 1052) (lf (o2076 P)) .nil) (.node (o1564 P) (lf (o2588 P)) .nil)) (.node (g 796) (.node (g 1308) (lf (o2332 P)) .nil) (.node (o1820 P) (lf (o2844 P)) .nil))) (.node (g 412) (.node (g 668) (.node (g 1180) (lf (o2204 P)) .nil) (.node (o1692 P) (lf (o2716 P)) .nil)) (.node (g 924) (.node (o1436 P) (lf (o2460 P)) .nil) (.node (o1948 P) (lf (o2972 P)) .nil)))) (.node (g 220) (.node (g 348) (.node (g 604) (.node (g 1116) (lf (o2140 P)) .nil) (.node (o1628 P) (lf (o2652 P)) .nil)) (.node (g 860) (.node (o1372 P) (lf (o2396 P)) .nil) (.node (o1884 P) (lf (o2908 P)) .nil))) (.node (g 476) (.node (g 732) (.node (g 1244) (lf (o2268 P)) .nil) (.node (o1756 P) (lf (o2780 P)) .nil)) (.node (g 988) (.node (o1500 P) (lf (o2524 P)) .nil) (lf (o2012 P)))))) (.node (g 124) (.node (g 188) (.node (g 316) (.node (g 572) (.node (g 1084) (lf (o2108 P)) .nil) (.node (o1596 P) (lf (o2620 P)) .nil)) (.node (g 828) (.node (o1340 P) (lf (o2364 P)) .nil) (.node (o1852 P) (lf (o2876 P)) .nil))) (.node (g 444) (.node (g 700) (.node (g 1212) (lf (o2236 P)) .nil) (.node (o1724 P) (lf (o2748 P)) .nil)) (.node (g 956) (.node (o1468 P) (lf (o2492 P)) .nil) (lf (o1980 P))))) (.node (g 252) (.node (g 380) (.node (g 636) (.node (g 1148) (lf (o2172 P)) .nil) (.node (o1660 P) (lf (o2684 P)) .nil)) (.node (g 892) (.node (o1404 P) (lf (o2428 P)) .nil) (.node (o1916 P) (lf (o2940 P)) .nil))) (.node (g 508) (.node (g 764) (.node (g 1276) (lf (o2300 P)) .nil) (.node (o1788 P) (lf (o2812 P)) .nil)) (.node (g 1020) (.node (o1532 P) (lf (o2556 P)) .nil) (lf (o2044 P)))))))))) (.node (o6 P) (.node (o10 P) (.node (o18 P) (.node (o34 P) (.node (g 66) (.node (g 130) (.node (g 258) (.node (g 514) (.node (g 1026) (lf (o2050 P)) .nil) (.node (o1538 P) (lf (o2562 P)) .nil)) (.node (g 770) (.node (g 1282) (lf (o2306 P)) .nil) (.node (o1794 P) (lf (o2818 P)) .nil))) (.node (g 386) (.node (g 642) (.node (g 1154) (lf (o2178 P)) .nil) (.node (o1666 P) (lf (o2690 P)) .nil)) (.node (g 898) (.node (o1410 P) (lf (o2434 P)) .nil) (.node (o1922 P) (lf (o2946 P)) .nil)))) (.node (g 194) (.node (g 322) (.node (g 578) (.node (g 1090) (lf (o2114 P)) .nil) (.node (o1602 P) (lf (o2626 P)) .nil)) (.node (g 834) (.node (o1346 P) (lf (o2370 P)) .nil) (.node (o1858 P) (lf (o2882 P)) .nil))) (.node (g 450) (.node (g 706) (.node (g 1218) (lf (o2242 P)) .nil) (.node (o1730 P) (lf (o2754 P)) .nil)) (.node (g 962) (.node (o1474 P) (lf (o2498 P)) .nil) (lf (o1986 P)))))) (.node (g 98) (.node (g 162) (.node (g 290) (.node (g 546) (.node (g 1058) (lf (o2082 P)) .nil) (.node (o1570 P) (lf (o2594 P)) .nil)) (.node (g 802) (.node (g 1314) (lf (o2338 P)) .nil) (.node (o1826 P) (lf (o2850 P)) .nil))) (.node (g 418) (.node (g 674) (.node (g 1186) (lf (o2210 P)) .nil) (.node (o1698 P) (lf (o2722 P)) .nil)) (.node (g 930) (.node (o1442 P) (lf (o2466 P)) .nil) (.node (o1954 P) (lf (o2978 P)) .nil)))) (.node (g 226) (.node (g 354) (.node (g 610) (.node (g 1122) (lf (o2146 P)) .nil) (.node (o1634 P) (lf (o2658 P)) .nil)) (.node (g 866) (.node (o1378 P) (lf (o2402 P)) .nil) (.node (o1890 P) (lf (o2914 P)) .nil))) (.node (g 482) (.node (g 738) (.node (g 1250) (lf (o2274 P)) .nil) (.node (o1762 P) (lf (o2786 P)) .nil)) (.node (g 994) (.node (o1506 P) (lf (o2530 P)) .nil) (lf (o2018 P))))))) (.node (g 50) (.node (g 82) (.node (g 146) (.node (g 274) (.node (g 530) (.node (g 1042) (lf (o2066 P)) .nil) (.node (o1554 P) (lf (o2578 P)) .nil)) (.node (g 786) (.node (g 1298) (lf (o2322 P)) .nil) (.node (o1810 P) (lf (o2834 P)) .nil))) (.node (g 402) (.node (g 658) (.node (g 1170) (lf (o2194 P)) .nil) (.node (o1682 P) (lf (o2706 P)) .nil)) (.node (g 914) (.node (o1426 P) (lf (o2450 P)) .nil) (.node (o1938 P) (lf (o2962 P)) .nil)))) (.node (g 210) (.node (g 338) (.node (g 594) (.node (g 1106) (lf (o2130 P)) .nil) (.node (o1618 P) (lf (o2642 P)) .nil)) (.node (g 850) (.node (o1362 P) (lf (o2386 P)) .nil) (.node (o1874 P) (lf (o2898 P)) .nil))) (.node (g 466) (.node (g 722) (.node (g 1234) (lf (o2258 P)) .nil) (.node (o1746 P) (lf (o2770 P)) .nil)) (.node (g 978) (.node (o1490 P) (lf (o2514 P)) .nil) (lf (o2002 P)))))) (.node (g 114) (.node (g 178) (.node (g 306) (.node (g 562) (.node (g 1074) (lf (o2098 P)) .nil) (.node (o1586 P) (lf (o2610 P)) .nil)) (.node (g 818) (.node (o1330 P) (lf (o2354 P)) .nil) (.node (o1842 P) (lf (o2866 P)) .nil))) (.node (g 434) (.node (g 690) (.node (g 1202) (lf (o2226 P)) .nil) (.node (o1714 P) (lf (o2738 P)) .nil)) (.node (g 946) (.node (o1458 P) (lf (o2482 P)) .nil) (lf (o1970 P))))) (.node (g 242) (.node (g 370) (.node (g 626) (.node (g 1138) (lf (o2162 P)) .nil) (.node (o1650 P) (lf (o2674 P)) .nil)) (.node (g 882) (.node (o1394 P) (lf (o2418 P)) .nil) (.node (o1906 P) (lf (o2930 P)) .nil))) (.node (g 498) (.node (g 754) (.node (g 1266) (lf (o2290 P)) .nil) (.node (o1778 P) (lf (o2802 P)) .nil)) (.node (g 1010) (.node (o1522 P) (lf (o2546 P)) .nil) (lf (o2034 P)))))))) (.node (o26 P) (.node (g 42) (.node (g 74) (.node (g 138) (.node (g 266) (.node (g 522) (.node (g 1034) (lf (o2058 P)) .nil) (.node (o1546 P) (lf (o2570 P)) .nil)) (.node (g 778) (.node (g 1290) (lf (o2314 P)) .nil) (.node (o1802 P) (lf (o2826 P)) .nil))) (.node (g 394) (.node (g 650) (.node (g 1162) (lf (o2186 P)) .nil) (.node (o1674 P) (lf (o2698 P)) .nil)) (.node (g 906) (.node (o1418 P) (lf (o2442 P)) .nil) (.node (o1930 P) (lf (o2954 P)) .nil)))) (.node (g 202) (.node (g 330) (.node (g 586) (.node (g 1098) (lf (o2122 P)) .nil) (.node (o1610 P) (lf (o2634 P)) .nil)) (.node (g 842) (.node (o1354 P) (lf (o2378 P)) .nil) (.node (o1866 P) (lf (o2890 P)) .nil))) (.node (g 458) (.node (g 714) (.node (g 1226) (lf (o2250 P)) .nil) (.node (o1738 P) (lf (o2762 P)) .nil)) (.node (g 970) (.node (o1482 P) (lf (o2506 P)) .nil) (lf (o1994 P)))))) (.node (g 106) (.node (g 170) (.node (g 298) (.node (g 554) (.node (g 1066) (lf (o2090 P)) .nil) (.node (o1578 P) (lf (o2602 P)) .nil)) (.node (g 810) (.node (g 1322) (lf (o2346 P)) .nil) (.node (o1834 P) (lf (o2858 P)) .nil))) (.node (g 426) (.node (g 682) (.node (g 1194) (lf (o2218 P)) .nil) (.node (o1706 P) (lf (o2730 P)) .nil)) (.node (g 938) (.node (o1450 P) (lf (o2474 P)) .nil) (.node (o1962 P) (lf (o2986 P)) .nil)))) (.node (g 234) (.node (g 362) (.node (g 618) (.node (g 1130) (lf (o2154 P)) .nil) (.node (o1642 P) (lf (o2666 P)) .nil)) (.node (g 874) (.node (o1386 P) (lf (o2410 P)) .nil) (.node (o1898 P) (lf (o2922 P)) .nil))) (.node (g 490) (.node (g 746) (.node (g 1258) (lf (o2282 P)) .nil) (.node (o1770 P) (lf (o2794 P)) .nil)) (.node (g 1002) (.node (o1514 P) (lf (o2538 P)) .nil) (lf (o2026 P))))))) (.node (g 58) (.node (g 90) (.node (g 154) (.node (g 282) (.node (g 538) (.node (g 1050) (lf (o2074 P)) .nil) (.node (o1562 P) (lf (o2586 P)) .nil)) (.node (g 794) (.node (g 1306) (lf (o2330 P)) .nil) (.node (o1818 P) (lf (o2842 P)) .nil))) (.node (g 410) (.node (g 666) (.node (g 1178) (lf (o2202 P)) .nil) (.node (o1690 P) (lf (o2714 P)) .nil)) (.node (g 922) (.node (o1434 P) (lf (o2458 P)) .nil) (.node (o1946 P) (lf (o2970 P)) .nil)))) (.node (g 218) (.node (g 346) (.node (g 602) (.node (g 1114) (lf (o2138 P)) .nil) (.node (o1626 P) (lf (o2650 P)) .nil)) (.node (g 858) (.node (o1370 P) (lf (o2394 P)) .nil) (.node (o1882 P) (lf (o2906 P)) .nil))) (.node (g 474) (.node (g 730) (.node (g 1242) (lf (o2266 P)) .nil) (.node (o1754 P) (lf (o2778 P)) .nil)) (.node (g 986) (.node (o1498 P) (lf (o2522 P)) .nil) (lf (o2010 P)))))) (.node (g 122) (.node (g 186) (.node (g 314) (.node (g 570) (.node (g 1082) (lf (o2106 P)) .nil) (.node (o1594 P) (lf (o2618 P)) .nil)) (.node (g 826) (.node (o1338 P) (lf (o2362 P)) .nil) (.node (o1850 P) (lf (o2874 P)) .nil))) (.node (g 442) (.node (g 698) (.node (g 1210) (lf (o2234 P)) .nil) (.node (o1722 P) (lf (o2746 P)) .nil)) (.node (g 954) (.node (o1466 P) (lf (o2490 P)) .nil) (lf (o1978 P))))) (.node (g 250) (.node (g 378) (.node (g 634) (.node (g 1146) (lf (o2170 P)) .nil) (.node (o1658 P) (lf (o2682 P)) .nil)) (.node (g 890) (.node (o1402 P) (lf (o2426 P)) .nil) (.node (o1914 P) (lf (o2938 P)) .nil))) (.node (g 506) (.node (g 762) (.node (g 1274) (lf (o2298 P)) .nil) (.node (o1786 P) (lf (o2810 P)) .nil)) (.node (g 1018) (.node (o1530 P) (lf (o2554 P)) .nil) (lf (o2042 P))))))))) (.node (o14 P) (.node (o22 P) (.node (o38 P) (.node (g 70) (.node (g 134) (.node (g 262) (.node (g 518) (.node (g 1030) (lf (o2054 P)) .nil) (.node (o1542 P) (lf (o2566 P)) .nil)) (.node (g 774) (.node (g 1286) (lf (o2310 P)) .nil) (.node (o1798 P) (lf (o2822 P)) .nil))) (.node (g 390) (.node (g 646) (.node (g 1158) (lf (o2182 P)) .nil) (.node (o1670 P) (lf (o2694 P)) .nil)) (.node (g 902) (.node (o1414 P) (lf (o2438 P)) .nil) (.node (o1926 P) (lf (o2950 P)) .nil)))) (.node (g 198) (.node (g 326) (.node (g 582) (.node (g 1094) (lf (o2118 P)) .nil) (.node (o1606 P) (lf (o2630 P)) .nil)) (.node (g 838) (.node (o1350 P) (lf (o2374 P)) .nil) (.node (o1862 P) (lf (o2886 P)) .nil))) (.node (g 454) (.node (g 710) (.node (g 1222) (lf (o2246 P)) .nil) (.node (o1734 P) (lf (o2758 P)) .nil)) (.node (g 966) (.node (o1478 P) (lf (o2502 P)) .nil) (lf (o1990 P)))))) (.node (g 102) (.node (g 166) (.node (g 294) (.node (g 550) (.node (g 1062) (lf (o2086 P)) .nil) (.node (o1574 P) (lf (o2598 P)) .nil)) (.node (g 806) (.node (g 1318) (lf (o2342 P)) .nil) (.node (o1830 P) (lf (o2854 P)) .nil))) (.node (g 422) (.node (g 678) (.node (g 1190) (lf (o2214 P)) .nil) (.node (o1702 P) (lf (o2726 P)) .nil)) (.node (g 934) (.node (o1446 P) (lf (o2470 P)) .nil) (.node (o1958 P) (lf (o2982 P)) .nil)))) (.node (g 230) (.node (g 358) (.node (g 614) (.node (g 1126) (lf (o2150 P)) .nil) (.node (o1638 P) (lf (o2662 P)) .nil)) (.node (g 870) (.node (o1382 P) (lf (o2406 P)) .nil) (.node (o1894 P) (lf (o2918 P)) .nil))) (.node (g 486) (.node (g 742) (.node (g 1254) (lf (o2278 P)) .nil) (.node (o1766 P) (lf (o2790 P)) .nil)) (.node (g 998) (.node (o1510 P) (lf (o2534 P)) .nil) (lf (o2022 P))))))) (.node (g 54) (.node (g 86) (.node (g 150) (.node (g 278) (.node (g 534) (.node (g 1046) (lf (o2070 P)) .nil) (.node (o1558 P) (lf (o2582 P)) .nil)) (.node (g 790) (.node (g 1302) (lf (o2326 P)) .nil) (.node (o1814 P) (lf (o2838 P)) .nil))) (.node (g 406) (.node (g 662) (.node (g 1174) (lf (o2198 P)) .nil) (.node (o1686 P) (lf (o2710 P)) .nil)) (.node (g 918) (.node (o1430 P) (lf (o2454 P)) .nil) (.node (o1942 P) (lf (o2966 P)) .nil)))) (.node (g 214) (.node (g 342) (.node (g 598) (.node (g 1110) (lf (o2134 P)) .nil) (.node (o1622 P) (lf (o2646 P)) .nil)) (.node (g 854) (.node (o1366 P) (lf (o2390 P)) .nil) (.node (o1878 P) (lf (o2902 P)) .nil))) (.node (g 470) (.node (g 726) (.node (g 1238) (lf (o2262 P)) .nil) (.node (o1750 P) (lf (o2774 P)) .nil)) (.node (g 982) (.node (o1494 P) (lf (o2518 P)) .nil) (lf (o2006 P)))))) (.node (g 118) (.node (g 182) (.node (g 310) (.node (g 566) (.node (g 1078) (lf (o2102 P)) .nil) (.node (o1590 P) (lf (o2614 P)) .nil)) (.node (g 822) (.node (o1334 P) (lf (o2358 P)) .nil) (.node (o1846 P) (lf (o2870 P)) .nil))) (.node (g 438) (.node (g 694) (.node (g 1206) (lf (o2230 P)) .nil) (.node (o1718 P) (lf (o2742 P)) .nil)) (.node (g 950) (.node (o1462 P) (lf (o2486 P)) .nil) (lf (o1974 P))))) (.node (g 246) (.node (g 374) (.node (g 630) (.node (g 1142) (lf (o2166 P)) .nil) (.node (o1654 P) (lf (o2678 P)) .nil)) (.node (g 886) (.node (o1398 P) (lf (o2422 P)) .nil) (.node (o1910 P) (lf (o2934 P)) .nil))) (.node (g 502) (.node (g 758) (.node (g 1270) (lf (o2294 P)) .nil) (.node (o1782 P) (lf (o2806 P)) .nil)) (.node (g 1014) (.node (o1526 P) (lf (o2550 P)) .nil) (lf (o2038 P)))))))) (.node (o30 P) (.node (g 46) (.node (g 78) (.node (g 142) (.node (g 270) (.node (g 526) (.node (g 1038) (lf (o2062 P)) .nil) (.node (o1550 P) (lf (o2574 P)) .nil)) (.node (g 782) (.node (g 1294) (lf (o2318 P)) .nil) (.node (o1806 P) (lf (o2830 P)) .nil))) (.node (g 398) (.node (g 654) (.node (g 1166) (lf (o2190 P)) .nil) (.node (o1678 P) (lf (o2702 P)) .nil)) (.node (g 910) (.node (o1422 P) (lf (o2446 P)) .nil) (.node (o1934 P) (lf (o2958 P)) .nil)))) (.node (g 206) (.node (g 334) (.node (g 590) (.node (g 1102) (lf (o2126 P)) .nil) (.node (o1614 P) (lf (o2638 P)) .nil)) (.node (g 846) (.node (o1358 P) (lf (o2382 P)) .nil) (.node (o1870 P) (lf (o2894 P)) .nil))) (.node (g 462) (.node (g 718) (.node (g 1230) (lf (o2254 P)) .nil) (.node (o1742 P) (lf (o2766 P)) .nil)) (.node (g 974) (.node (o1486 P) (lf (o2510 P)) .nil) (lf (o1998 P)))))) (.node (g 110) (.node (g 174) (.node (g 302) (.node (g 558) (.node (g 1070) (lf (o2094 P)) .nil) (.node (o1582 P) (lf (o2606 P)) .nil)) (.node (g 814) (.node (g 1326) (lf (o2350 P)) .nil) (.node (o1838 P) (lf (o2862 P)) .nil))) (.node (g 430) (.node (g 686) (.node (g 1198) (lf (o2222 P)) .nil) (.node (o1710 P) (lf (o2734 P)) .nil)) (.node (g 942) (.node (o1454 P) (lf (o2478 P)) .nil) (lf (o1966 P))))) (.node (g 238) (.node (g 366) (.node (g 622) (.node (g 1134) (lf (o2158 P)) .nil) (.node (o1646 P) (lf (o2670 P)) .nil)) (.node (g 878) (.node (o1390 P) (lf (o2414 P)) .nil) (.node (o1902 P) (lf (o2926 P)) .nil))) (.node (g 494) (.node (g 750) (.node (g 1262) (lf (o2286 P)) .nil) (.node (o1774 P) (lf (o2798 P)) .nil)) (.node (g 1006) (.node (o1518 P) (lf (o2542 P)) .nil) (lf (o2030 P))))))) (.node (g 62) (.node (g 94) (.node (g 158) (.node (g 286) (.node (g 542) (.node (g 1054) (lf (o2078 P)) .nil) (.node (o1566 P) (lf (o2590 P)) .nil)) (.node (g 798) (.node (g 1310) (lf (o2334 P)) .nil) (.node (o1822 P) (lf (o2846 P)) .nil))) (.node (g 414) (.node (g 670) (.node (g 1182) (lf (o2206 P)) .nil) (.node (o1694 P) (lf (o2718 P)) .nil)) (.node (g 926) (.node (o1438 P) (lf (o2462 P)) .nil) (.node (o1950 P) (lf (o2974 P)) .nil)))) (.node (g 222) (.node (g 350) (.node (g 606) (.node (g 1118) (lf (o2142 P)) .nil) (.node (o1630 P) (lf (o2654 P)) .nil)) (.node (g 862) (.node (o1374 P) (lf (o2398 P)) .nil) (.node (o1886 P) (lf (o2910 P)) .nil))) (.node (g 478) (.node (g 734) (.node (g 1246) (lf (o2270 P)) .nil) (.node (o1758 P) (lf (o2782 P)) .nil)) (.node (g 990) (.node (o1502 P) (lf (o2526 P)) .nil) (lf (o2014 P)))))) (.node (g 126) (.node (g 190) (.node (g 318) (.node (g 574) (.node (g 1086) (lf (o2110 P)) .nil) (.node (o1598 P) (lf (o2622 P)) .nil)) (.node (g 830) (.node (o1342 P) (lf (o2366 P)) .nil) (.node (o1854 P) (lf (o2878 P)) .nil))) (.node (g 446) (.node (g 702) (.node (g 1214) (lf (o2238 P)) .nil) (.node (o1726 P) (lf (o2750 P)) .nil)) (.node (g 958) (.node (o1470 P) (lf (o2494 P)) .nil) (lf (o1982 P))))) (.node (g 254) (.node (g 382) (.node (g 638) (.node (g 1150) (lf (o2174 P)) .nil) (.node (o1662 P) (lf (o2686 P)) .nil)) (.node (g 894) (.node (o1406 P) (lf (o2430 P)) .nil) (.node (o1918 P) (lf (o2942 P)) .nil))) (.node (g 510) (.node (g 766) (.node (g 1278) (lf (o2302 P)) .nil) (.node (o1790 P) (lf (o2814 P)) .nil)) (.node (g 1022) (.node (o1534 P) (lf (o2558 P)) .nil) (lf (o2046 P))))))))))))
noncomputable def v2_b (P : Params) : Obj := (Obj.mk Value.none none (Data.dict (List.toArray []) 0) #[])
noncomputable def v3_b (P : Params) : Obj := (di [(de P "__name__" 165 (vs "__main__" 164)), (de P "__doc__" 166 Value.none), (de P "__package__" 167 Value.none), (de P "__loader__" 168 (Value.builtin "__main__.__loader__#opaque")), (de P "__spec__" 169 Value.none), (de P "__annotations__" 170 (vr 6)), (de P "__builtins__" 171 (vr 4)), (de P "__file__" 173 (vs "/claim/cut.py" 172)), (de P "__cached__" 174 Value.none)] 9)
noncomputable def v12_b (P : Params) : Obj := (Obj.mk Value.none none (Data.fields (List.toArray [])) #[])
noncomputable def trb (g : Nat → Obj) (P : Params) : BT := (BT.set (BT.set (BT.set (base g P) 2 (fun _ => v2_b P)) 3 (fun _ => v3_b P)) 12 (fun _ => v12_b P))
noncomputable def v3_8 (P : Params) : Obj := (di [(de P "__name__" 165 (vs "netaddr.strategy" 224)), (de P "__doc__" 166 Value.none), (de P "__package__" 167 Value.none), (de P "__loader__" 168 (Value.builtin "__main__.__loader__#opaque")), (de P "__spec__" 169 Value.none), (de P "__annotations__" 170 (vr 6)), (de P "__builtins__" 171 (vr 4)), (de P "__file__" 173 (vs "/claim/cut.py" 172)), (de P "__cached__" 174 Value.none), (de P "_wall" 193 (vr 21)), (de P "INET_PTON" 197 (vi 1 196)), (de P "ZEROFILL" 199 (vi 2 198)), (de P "NOHOST" 201 (vi 4 200)), (de P "INET_ATON" 203 (vi 8 202)), (de P "AddrFormatError" 223 (vr 31)), (de P "bytes_to_bits" 236 (vr 41))] 16)
noncomputable def v12_8 (P : Params) : Obj := (Obj.mk Value.none none (Data.fields (List.toArray [(vi 1 0), (vi 0 0), (vr 20), (vi 9 0), (vi 0 0), (vr 27), (vi 12 0), (vi 0 0), (vr 40)])) #[])
noncomputable def tr8 (g : Nat → Obj) (P : Params) : BT := (BT.set (BT.set (base g P) 3 (fun _ => v3_8 P)) 12 (fun _ => v12_8 P))
noncomputable def v3_9 (P : Params) : Obj := (di [(de P "__name__" 165 (vs "netaddr.strategy" 224)), (de P "__doc__" 166 Value.none), (de P "__package__" 167 Value.none), (de P "__loader__" 168 (Value.builtin "__main__.__loader__#opaque")), (de P "__spec__" 169 Value.none), (de P "__annotations__" 170 (vr 6)), (de P "__builtins__" 171 (vr 4)), (de P "__file__" 173 (vs "/claim/cut.py" 172)), (de P "__cached__" 174 Value.none), (de P "_wall" 193 (vr 21)), (de P "INET_PTON" 197 (vi 1 196)), (de P "ZEROFILL" 199 (vi 2 198)), (de P "NOHOST" 201 (vi 4 200)), (de P "INET_ATON" 203 (vi 8 202)), (de P "AddrFormatError" 223 (vr 31)), (de P "bytes_to_bits" 236 (vr 41)), (de P "BYTES_TO_BITS" 20215 (vr 43))] 17)
noncomputable def v12_9 (P : Params) : Obj := (Obj.mk Value.none none (Data.fields (List.toArray [(vi 1 0), (vi 0 0), (vr 20), (vi 9 0), (vi 0 0), (vr 27), (vi 12 0), (vi 0 0), (vr 40)])) #[])
noncomputable def tr9 (g : Nat → Obj) (P : Params) : BT := (BT.set (BT.set (base g P) 3 (fun _ => v3_9 P)) 12 (fun _ => v12_9 P))
noncomputable def v3_30 (P : Params) : Obj := (di [(de P "__name__" 165 (vs "netaddr.strategy.ipv4" 20317)), (de P "__doc__" 166 Value.none), (de P "__package__" 167 Value.none), (de P "__loader__" 168 (Value.builtin "__main__.__loader__#opaque")), (de P "__spec__" 169 Value.none), (de P "__annotations__" 170 (vr 6)), (de P "__builtins__" 171 (vr 4)), (de P "__file__" 173 (vs "/claim/cut.py" 172)), (de P "__cached__" 174 Value.none), (de P "_wall" 193 (vr 21)), (de P "INET_PTON" 197 (vi 1 196)), (de P "ZEROFILL" 199 (vi 2 198)), (de P "NOHOST" 201 (vi 4 200)), (de P "INET_ATON" 203 (vi 8 202)), (de P "AddrFormatError" 223 (vr 31)), (de P "bytes_to_bits" 236 (vr 41)), (de P "BYTES_TO_BITS" 20215 (vr 43)), (de P "int_to_words" 20229 (vr 1335)), (de P "int_to_words_strategy" 20230 (vr 1335)), (de P "int_to_bits" 20245 (vr 1343)), (de P "int_to_bits_strategy" 20246 (vr 1343)), (de P "AF_INET" 20250 (vi 2 20249)), (de P "AF_INET6" 20252 (vi 10 20251)), (de P "inet_ntoa" 20259 (vr 1350)), (de P "_compact_ipv6_tokens" 20276 (vr 1357)), (de P "inet_ntop" 20282 (vr 1362)), (de P "_inet_pton_af_inet" 20288 (vr 1367)), (de P "inet_pton" 20294 (vr 1372)), (de P "_aton_number" 20305 (vr 1379)), (de P "inet_aton" 20316 (vr 1386)), (de P "width_ipv4" 20320 (vi 32 20319)), (de P "word_size_ipv4" 20322 (vi 8 20321)), (de P "family_name_ipv4" 20324 (vs "IPv4" 20323)), (de P "version_ipv4" 20326 (vi 4 20325)), (de P "max_int_ipv4" 20331 (vi 4294967295 20330)), (de P "num_words_ipv4" 20333 (vi 4 20332))] 36)
noncomputable def v12_30 (P : Params) : Obj := (Obj.mk Value.none none (Data.fields (List.toArray [(vi 1 0), (vi 0 0), (vr 20), (vi 9 0), (vi 0 0), (vr 27), (vi 12 0), (vi 0 0), (vr 40), (vi 23 0), (vi 0 0), (vr 1334), (vi 35 0), (vi 0 0), (vr 1342), (vi 54 0), (vi 0 0), (vr 1349), (vi 60 0), (vi 0 0), (vr 1356), (vi 91 0), (vi 0 0), (vr 1361), (vi 111 0), (vi 0 0), (vr 1366), (vi 133 0), (vi 0 0), (vr 1371), (vi 200 0), (vi 0 0), (vr 1378), (vi 211 0), (vi 0 0), (vr 1385)])) #[])
noncomputable def tr30 (g : Nat → Obj) (P : Params) : BT := (BT.set (BT.set (base g P) 3 (fun _ => v3_30 P)) 12 (fun _ => v12_30 P))
noncomputable def v3_31 (P : Params) : Obj := (di [(de P "__name__" 165 (vs "netaddr.strategy.ipv4" 20317)), (de P "__doc__" 166 Value.none), (de P "__package__" 167 Value.none), (de P "__loader__" 168 (Value.builtin "__main__.__loader__#opaque")), (de P "__spec__" 169 Value.none), (de P "__annotations__" 170 (vr 6)), (de P "__builtins__" 171 (vr 4)), (de P "__file__" 173 (vs "/claim/cut.py" 172)), (de P "__cached__" 174 Value.none), (de P "_wall" 193 (vr 21)), (de P "INET_PTON" 197 (vi 1 196)), (de P "ZEROFILL" 199 (vi 2 198)), (de P "NOHOST" 201 (vi 4 200)), (de P "INET_ATON" 203 (vi 8 202)), (de P "AddrFormatError" 223 (vr 31)), (de P "bytes_to_bits" 236 (vr 41)), (de P "BYTES_TO_BITS" 20215 (vr 43)), (de P "int_to_words" 20229 (vr 1335)), (de P "int_to_words_strategy" 20230 (vr 1335)), (de P "int_to_bits" 20245 (vr 1343)), (de P "int_to_bits_strategy" 20246 (vr 1343)), (de P "AF_INET" 20250 (vi 2 20249)), (de P "AF_INET6" 20252 (vi 10 20251)), (de P "inet_ntoa" 20259 (vr 1350)), (de P "_compact_ipv6_tokens" 20276 (vr 1357)), (de P "inet_ntop" 20282 (vr 1362)), (de P "_inet_pton_af_inet" 20288 (vr 1367)), (de P "inet_pton" 20294 (vr 1372)), (de P "_aton_number" 20305 (vr 1379)), (de P "inet_aton" 20316 (vr 1386)), (de P "width_ipv4" 20320 (vi 32 20319)), (de P "word_size_ipv4" 20322 (vi 8 20321)), (de P "family_name_ipv4" 20324 (vs "IPv4" 20323)), (de P "version_ipv4" 20326 (vi 4 20325)), (de P "max_int_ipv4" 20331 (vi 4294967295 20330)), (de P "num_words_ipv4" 20333 (vi 4 20332)), (de P "prefix_to_netmask_ipv4" 20638 (vr 1426))] 37)
noncomputable def v12_31 (P : Params) : Obj := (Obj.mk Value.none none (Data.fields (List.toArray [(vi 1 0), (vi 0 0), (vr 20), (vi 9 0), (vi 0 0), (vr 27), (vi 12 0), (vi 0 0), (vr 40), (vi 23 0), (vi 0 0), (vr 1334), (vi 35 0), (vi 0 0), (vr 1342), (vi 54 0), (vi 0 0), (vr 1349), (vi 60 0), (vi 0 0), (vr 1356), (vi 91 0), (vi 0 0), (vr 1361), (vi 111 0), (vi 0 0), (vr 1366), (vi 133 0), (vi 0 0), (vr 1371), (vi 200 0), (vi 0 0), (vr 1378), (vi 211 0), (vi 0 0), (vr 1385)])) #[])
noncomputable def tr31 (g : Nat → Obj) (P : Params) : BT := (BT.set (BT.set (base g P) 3 (fun _ => v3_31 P)) 12 (fun _ => v12_31 P))
noncomputable def v3_32 (P : Params) : Obj := (di [(de P "__name__" 165 (vs "netaddr.strategy.ipv4" 20317)), (de P "__doc__" 166 Value.none), (de P "__package__" 167 Value.none), (de P "__loader__" 168 (Value.builtin "__main__.__loader__#opaque")), (de P "__spec__" 169 Value.none), (de P "__annotations__" 170 (vr 6)), (de P "__builtins__" 171 (vr 4)), (de P "__file__" 173 (vs "/claim/cut.py" 172)), (de P "__cached__" 174 Value.none), (de P "_wall" 193 (vr 21)), (de P "INET_PTON" 197 (vi 1 196)), (de P "ZEROFILL" 199 (vi 2 198)), (de P "NOHOST" 201 (vi 4 200)), (de P "INET_ATON" 203 (vi 8 202)), (de P "AddrFormatError" 223 (vr 31)), (de P "bytes_to_bits" 236 (vr 41)), (de P "BYTES_TO_BITS" 20215 (vr 43)), (de P "int_to_words" 20229 (vr 1335)), (de P "int_to_words_strategy" 20230 (vr 1335)), (de P "int_to_bits" 20245 (vr 1343)), (de P "int_to_bits_strategy" 20246 (vr 1343)), (de P "AF_INET" 20250 (vi 2 20249)), (de P "AF_INET6" 20252 (vi 10 20251)), (de P "inet_ntoa" 20259 (vr 1350)), (de P "_compact_ipv6_tokens" 20276 (vr 1357)), (de P "inet_ntop" 20282 (vr 1362)), (de P "_inet_pton_af_inet" 20288 (vr 1367)), (de P "inet_pton" 20294 (vr 1372)), (de P "_aton_number" 20305 (vr 1379)), (de P "inet_aton" 20316 (vr 1386)), (de P "width_ipv4" 20320 (vi 32 20319)), (de P "word_size_ipv4" 20322 (vi 8 20321)), (de P "family_name_ipv4" 20324 (vs "IPv4" 20323)), (de P "version_ipv4" 20326 (vi 4 20325)), (de P "max_int_ipv4" 20331 (vi 4294967295 20330)), (de P "num_words_ipv4" 20333 (vi 4 20332)), (de P "prefix_to_netmask_ipv4" 20638 (vr 1426)), (de P "netmask_to_prefix_ipv4" 20943 (vr 1471))] 38)
noncomputable def v12_32 (P : Params) : Obj := (Obj.mk Value.none none (Data.fields (List.toArray [(vi 1 0), (vi 0 0), (vr 20), (vi 9 0), (vi 0 0), (vr 27), (vi 12 0), (vi 0 0), (vr 40), (vi 23 0), (vi 0 0), (vr 1334), (vi 35 0), (vi 0 0), (vr 1342), (vi 54 0), (vi 0 0), (vr 1349), (vi 60 0), (vi 0 0), (vr 1356), (vi 91 0), (vi 0 0), (vr 1361), (vi 111 0), (vi 0 0), (vr 1366), (vi 133 0), (vi 0 0), (vr 1371), (vi 200 0), (vi 0 0), (vr 1378), (vi 211 0), (vi 0 0), (vr 1385)])) #[])
noncomputable def tr32 (g : Nat → Obj) (P : Params) : BT := (BT.set (BT.set (base g P) 3 (fun _ => v3_32 P)) 12 (fun _ => v12_32 P))
noncomputable def v3_33 (P : Params) : Obj := (di [(de P "__name__" 165 (vs "netaddr.strategy.ipv4" 20317)), (de P "__doc__" 166 Value.none), (de P "__package__" 167 Value.none), (de P "__loader__" 168 (Value.builtin "__main__.__loader__#opaque")), (de P "__spec__" 169 Value.none), (de P "__annotations__" 170 (vr 6)), (de P "__builtins__" 171 (vr 4)), (de P "__file__" 173 (vs "/claim/cut.py" 172)), (de P "__cached__" 174 Value.none), (de P "_wall" 193 (vr 21)), (de P "INET_PTON" 197 (vi 1 196)), (de P "ZEROFILL" 199 (vi 2 198)), (de P "NOHOST" 201 (vi 4 200)), (de P "INET_ATON" 203 (vi 8 202)), (de P "AddrFormatError" 223 (vr 31)), (de P "bytes_to_bits" 236 (vr 41)), (de P "BYTES_TO_BITS" 20215 (vr 43)), (de P "int_to_words" 20229 (vr 1335)), (de P "int_to_words_strategy" 20230 (vr 1335)), (de P "int_to_bits" 20245 (vr 1343)), (de P "int_to_bits_strategy" 20246 (vr 1343)), (de P "AF_INET" 20250 (vi 2 20249)), (de P "AF_INET6" 20252 (vi 10 20251)), (de P "inet_ntoa" 20259 (vr 1350)), (de P "_compact_ipv6_tokens" 20276 (vr 1357)), (de P "inet_ntop" 20282 (vr 1362)), (de P "_inet_pton_af_inet" 20288 (vr 1367)), (de P "inet_pton" 20294 (vr 1372)), (de P "_aton_number" 20305 (vr 1379)), (de P "inet_aton" 20316 (vr 1386)), (de P "width_ipv4" 20320 (vi 32 20319)), (de P "word_size_ipv4" 20322 (vi 8 20321)), (de P "family_name_ipv4" 20324 (vs "IPv4" 20323)), (de P "version_ipv4" 20326 (vi 4 20325)), (de P "max_int_ipv4" 20331 (vi 4294967295 20330)), (de P "num_words_ipv4" 20333 (vi 4 20332)), (de P "prefix_to_netmask_ipv4" 20638 (vr 1426)), (de P "netmask_to_prefix_ipv4" 20943 (vr 1471)), (de P "hostmask_to_prefix_ipv4" 21215 (vr 1516))] 39)
noncomputable def v12_33 (P : Params) : Obj := (Obj.mk Value.none none (Data.fields (List.toArray [(vi 1 0), (vi 0 0), (vr 20), (vi 9 0), (vi 0 0), (vr 27), (vi 12 0), (vi 0 0), (vr 40), (vi 23 0), (vi 0 0), (vr 1334), (vi 35 0), (vi 0 0), (vr 1342), (vi 54 0), (vi 0 0), (vr 1349), (vi 60 0), (vi 0 0), (vr 1356), (vi 91 0), (vi 0 0), (vr 1361), (vi 111 0), (vi 0 0), (vr 1366), (vi 133 0), (vi 0 0), (vr 1371), (vi 200 0), (vi 0 0), (vr 1378), (vi 211 0), (vi 0 0), (vr 1385)])) #[])
noncomputable def tr33 (g : Nat → Obj) (P : Params) : BT := (BT.set (BT.set (base g P) 3 (fun _ => v3_33 P)) 12 (fun _ => v12_33 P))
noncomputable def v3_55 (P : Params) : Obj := (di [(de P "__name__" 165 (vs "netaddr.strategy.ipv6" 21383)), (de P "__doc__" 166 Value.none), (de P "__package__" 167 Value.none), (de P "__loader__" 168 (Value.builtin "__main__.__loader__#opaque")), (de P "__spec__" 169 Value.none), (de P "__annotations__" 170 (vr 6)), (de P "__builtins__" 171 (vr 4)), (de P "__file__" 173 (vs "/claim/cut.py" 172)), (de P "__cached__" 174 Value.none), (de P "_wall" 193 (vr 21)), (de P "INET_PTON" 197 (vi 1 196)), (de P "ZEROFILL" 199 (vi 2 198)), (de P "NOHOST" 201 (vi 4 200)), (de P "INET_ATON" 203 (vi 8 202)), (de P "AddrFormatError" 223 (vr 31)), (de P "bytes_to_bits" 236 (vr 41)), (de P "BYTES_TO_BITS" 20215 (vr 43)), (de P "int_to_words" 20229 (vr 1549)), (de P "int_to_words_strategy" 20230 (vr 1335)), (de P "int_to_bits" 20245 (vr 1557)), (de P "int_to_bits_strategy" 20246 (vr 1343)), (de P "AF_INET" 20250 (vi 2 20249)), (de P "AF_INET6" 20252 (vi 10 20251)), (de P "inet_ntoa" 20259 (vr 1350)), (de P "_compact_ipv6_tokens" 20276 (vr 1357)), (de P "inet_ntop" 20282 (vr 1362)), (de P "_inet_pton_af_inet" 20288 (vr 1367)), (de P "inet_pton" 20294 (vr 1372)), (de P "_aton_number" 20305 (vr 1379)), (de P "inet_aton" 20316 (vr 1386)), (de P "width_ipv4" 20320 (vi 32 20319)), (de P "word_size_ipv4" 20322 (vi 8 20321)), (de P "family_name_ipv4" 20324 (vs "IPv4" 20323)), (de P "version_ipv4" 20326 (vi 4 20325)), (de P "max_int_ipv4" 20331 (vi 4294967295 20330)), (de P "num_words_ipv4" 20333 (vi 4 20332)), (de P "prefix_to_netmask_ipv4" 20638 (vr 1426)), (de P "netmask_to_prefix_ipv4" 20943 (vr 1471)), (de P "hostmask_to_prefix_ipv4" 21215 (vr 1516)), (de P "str_to_int" 21222 (vr 1527)), (de P "str_to_int_ipv4" 21223 (vr 1527)), (de P "int_to_str" 21231 (vr 1535)), (de P "int_to_str_ipv4" 21232 (vr 1535)), (de P "int_to_packed" 21239 (vr 1542)), (de P "int_to_packed_ipv4" 21240 (vr 1542)), (de P "int_to_words_ipv4" 21248 (vr 1549)), (de P "int_to_bits_ipv4" 21257 (vr 1557)), (de P "expand_partial_address" 21263 (vr 1562)), (de P "expand_partial_address_ipv4" 21264 (vr 1562)), (de P "Ipv4Names" 21366 (vr 1638)), (de P "ipv4_ipv4" 21382 (vr 1644)), (de P "width_ipv6" 21386 (vi 128 21385)), (de P "word_size_ipv6" 21388 (vi 16 21387)), (de P "word_sep" 21390 (vs ":" 21389)), (de P "family_name_ipv6" 21392 (vs "IPv6" 21391)), (de P "version_ipv6" 21394 (vi 6 21393)), (de P "max_int_ipv6" 21399 (vi 340282366920938463463374607431768211455 21398)), (de P "num_words_ipv6" 21401 (vi 8 21400))] 58)
noncomputable def v12_55 (P : Params) : Obj := (Obj.mk Value.none none (Data.fields (List.toArray [(vi 1 0), (vi 0 0), (vr 20), (vi 9 0), (vi 0 0), (vr 27), (vi 12 0), (vi 0 0), (vr 40), (vi 23 0), (vi 0 0), (vr 1334), (vi 35 0), (vi 0 0), (vr 1342), (vi 54 0), (vi 0 0), (vr 1349), (vi 60 0), (vi 0 0), (vr 1356), (vi 91 0), (vi 0 0), (vr 1361), (vi 111 0), (vi 0 0), (vr 1366), (vi 133 0), (vi 0 0), (vr 1371), (vi 200 0), (vi 0 0), (vr 1378), (vi 211 0), (vi 0 0), (vr 1385), (vi 242 0), (vi 0 0), (vr 1526), (vi 260 0), (vi 0 0), (vr 1534), (vi 266 0), (vi 0 0), (vr 1541), (vi 269 0), (vi 0 0), (vr 1548), (vi 274 0), (vi 0 0), (vr 1556), (vi 279 0), (vi 0 0), (vr 1561), (vi 301 0), (vi 0 0), (vr 1568)])) #[])
noncomputable def tr55 (g : Nat → Obj) (P : Params) : BT := (BT.set (BT.set (base g P) 3 (fun _ => v3_55 P)) 12 (fun _ => v12_55 P))
noncomputable def v3_56 (P : Params) : Obj := (di [(de P "__name__" 165 (vs "netaddr.strategy.ipv6" 21383)), (de P "__doc__" 166 Value.none), (de P "__package__" 167 Value.none), (de P "__loader__" 168 (Value.builtin "__main__.__loader__#opaque")), (de P "__spec__" 169 Value.none), (de P "__annotations__" 170 (vr 6)), (de P "__builtins__" 171 (vr 4)), (de P "__file__" 173 (vs "/claim/cut.py" 172)), (de P "__cached__" 174 Value.none), (de P "_wall" 193 (vr 21)), (de P "INET_PTON" 197 (vi 1 196)), (de P "ZEROFILL" 199 (vi 2 198)), (de P "NOHOST" 201 (vi 4 200)), (de P "INET_ATON" 203 (vi 8 202)), (de P "AddrFormatError" 223 (vr 31)), (de P "bytes_to_bits" 236 (vr 41)), (de P "BYTES_TO_BITS" 20215 (vr 43)), (de P "int_to_words" 20229 (vr 1549)), (de P "int_to_words_strategy" 20230 (vr 1335)), (de P "int_to_bits" 20245 (vr 1557)), (de P "int_to_bits_strategy" 20246 (vr 1343)), (de P "AF_INET" 20250 (vi 2 20249)), (de P "AF_INET6" 20252 (vi 10 20251)), (de P "inet_ntoa" 20259 (vr 1350)), (de P "_compact_ipv6_tokens" 20276 (vr 1357)), (de P "inet_ntop" 20282 (vr 1362)), (de P "_inet_pton_af_inet" 20288 (vr 1367)), (de P "inet_pton" 20294 (vr 1372)), (de P "_aton_number" 20305 (vr 1379)), (de P "inet_aton" 20316 (vr 1386)), (de P "width_ipv4" 20320 (vi 32 20319)), (de P "word_size_ipv4" 20322 (vi 8 20321)), (de P "family_name_ipv4" 20324 (vs "IPv4" 20323)), (de P "version_ipv4" 20326 (vi 4 20325)), (de P "max_int_ipv4" 20331 (vi 4294967295 20330)), (de P "num_words_ipv4" 20333 (vi 4 20332)), (de P "prefix_to_netmask_ipv4" 20638 (vr 1426)), (de P "netmask_to_prefix_ipv4" 20943 (vr 1471)), (de P "hostmask_to_prefix_ipv4" 21215 (vr 1516)), (de P "str_to_int" 21222 (vr 1527)), (de P "str_to_int_ipv4" 21223 (vr 1527)), (de P "int_to_str" 21231 (vr 1535)), (de P "int_to_str_ipv4" 21232 (vr 1535)), (de P "int_to_packed" 21239 (vr 1542)), (de P "int_to_packed_ipv4" 21240 (vr 1542)), (de P "int_to_words_ipv4" 21248 (vr 1549)), (de P "int_to_bits_ipv4" 21257 (vr 1557)), (de P "expand_partial_address" 21263 (vr 1562)), (de P "expand_partial_address_ipv4" 21264 (vr 1562)), (de P "Ipv4Names" 21366 (vr 1638)), (de P "ipv4_ipv4" 21382 (vr 1644)), (de P "width_ipv6" 21386 (vi 128 21385)), (de P "word_size_ipv6" 21388 (vi 16 21387)), (de P "word_sep" 21390 (vs ":" 21389)), (de P "family_name_ipv6" 21392 (vs "IPv6" 21391)), (de P "version_ipv6" 21394 (vi 6 21393)), (de P "max_int_ipv6" 21399 (vi 340282366920938463463374607431768211455 21398)), (de P "num_words_ipv6" 21401 (vi 8 21400)), (de P "prefix_to_netmask_ipv6" 22570 (vr 1781))] 59)
noncomputable def v12_56 (P : Params) : Obj := (Obj.mk Value.none none (Data.fields (List.toArray [(vi 1 0), (vi 0 0), (vr 20), (vi 9 0), (vi 0 0), (vr 27), (vi 12 0), (vi 0 0), (vr 40), (vi 23 0), (vi 0 0), (vr 1334), (vi 35 0), (vi 0 0), (vr 1342), (vi 54 0), (vi 0 0), (vr 1349), (vi 60 0), (vi 0 0), (vr 1356), (vi 91 0), (vi 0 0), (vr 1361), (vi 111 0), (vi 0 0), (vr 1366), (vi 133 0), (vi 0 0), (vr 1371), (vi 200 0), (vi 0 0), (vr 1378), (vi 211 0), (vi 0 0), (vr 1385), (vi 242 0), (vi 0 0), (vr 1526), (vi 260 0), (vi 0 0), (vr 1534), (vi 266 0), (vi 0 0), (vr 1541), (vi 269 0), (vi 0 0), (vr 1548), (vi 274 0), (vi 0 0), (vr 1556), (vi 279 0), (vi 0 0), (vr 1561), (vi 301 0), (vi 0 0), (vr 1568)])) #[])
noncomputable def tr56 (g : Nat → Obj) (P : Params) : BT := (BT.set (BT.set (base g P) 3 (fun _ => v3_56 P)) 12 (fun _ => v12_56 P))
noncomputable def v3_57 (P : Params) : Obj := (di [(de P "__name__" 165 (vs "netaddr.strategy.ipv6" 21383)), (de P "__doc__" 166 Value.none), (de P "__package__" 167 Value.none), (de P "__loader__" 168 (Value.builtin "__main__.__loader__#opaque")), (de P "__spec__" 169 Value.none), (de P "__annotations__" 170 (vr 6)), (de P "__builtins__" 171 (vr 4)), (de P "__file__" 173 (vs "/claim/cut.py" 172)), (de P "__cached__" 174 Value.none), (de P "_wall" 193 (vr 21)), (de P "INET_PTON" 197 (vi 1 196)), (de P "ZEROFILL" 199 (vi 2 198)), (de P "NOHOST" 201 (vi 4 200)), (de P "INET_ATON" 203 (vi 8 202)), (de P "AddrFormatError" 223 (vr 31)), (de P "bytes_to_bits" 236 (vr 41)), (de P "BYTES_TO_BITS" 20215 (vr 43)), (de P "int_to_words" 20229 (vr 1549)), (de P "int_to_words_strategy" 20230 (vr 1335)), (de P "int_to_bits" 20245 (vr 1557)), (de P "int_to_bits_strategy" 20246 (vr 1343)), (de P "AF_INET" 20250 (vi 2 20249)), (de P "AF_INET6" 20252 (vi 10 20251)), (de P "inet_ntoa" 20259 (vr 1350)), (de P "_compact_ipv6_tokens" 20276 (vr 1357)), (de P "inet_ntop" 20282 (vr 1362)), (de P "_inet_pton_af_inet" 20288 (vr 1367)), (de P "inet_pton" 20294 (vr 1372)), (de P "_aton_number" 20305 (vr 1379)), (de P "inet_aton" 20316 (vr 1386)), (de P "width_ipv4" 20320 (vi 32 20319)), (de P "word_size_ipv4" 20322 (vi 8 20321)), (de P "family_name_ipv4" 20324 (vs "IPv4" 20323)), (de P "version_ipv4" 20326 (vi 4 20325)), (de P "max_int_ipv4" 20331 (vi 4294967295 20330)), (de P "num_words_ipv4" 20333 (vi 4 20332)), (de P "prefix_to_netmask_ipv4" 20638 (vr 1426)), (de P "netmask_to_prefix_ipv4" 20943 (vr 1471)), (de P "hostmask_to_prefix_ipv4" 21215 (vr 1516)), (de P "str_to_int" 21222 (vr 1527)), (de P "str_to_int_ipv4" 21223 (vr 1527)), (de P "int_to_str" 21231 (vr 1535)), (de P "int_to_str_ipv4" 21232 (vr 1535)), (de P "int_to_packed" 21239 (vr 1542)), (de P "int_to_packed_ipv4" 21240 (vr 1542)), (de P "int_to_words_ipv4" 21248 (vr 1549)), (de P "int_to_bits_ipv4" 21257 (vr 1557)), (de P "expand_partial_address" 21263 (vr 1562)), (de P "expand_partial_address_ipv4" 21264 (vr 1562)), (de P "Ipv4Names" 21366 (vr 1638)), (de P "ipv4_ipv4" 21382 (vr 1644)), (de P "width_ipv6" 21386 (vi 128 21385)), (de P "word_size_ipv6" 21388 (vi 16 21387)), (de P "word_sep" 21390 (vs ":" 21389)), (de P "family_name_ipv6" 21392 (vs "IPv6" 21391)), (de P "version_ipv6" 21394 (vi 6 21393)), (de P "max_int_ipv6" 21399 (vi 340282366920938463463374607431768211455 21398)), (de P "num_words_ipv6" 21401 (vi 8 21400)), (de P "prefix_to_netmask_ipv6" 22570 (vr 1781)), (de P "netmask_to_prefix_ipv6" 23739 (vr 1922))] 60)
noncomputable def v12_57 (P : Params) : Obj := (Obj.mk Value.none none (Data.fields (List.toArray [(vi 1 0), (vi 0 0), (vr 20), (vi 9 0), (vi 0 0), (vr 27), (vi 12 0), (vi 0 0), (vr 40), (vi 23 0), (vi 0 0), (vr 1334), (vi 35 0), (vi 0 0), (vr 1342), (vi 54 0), (vi 0 0), (vr 1349), (vi 60 0), (vi 0 0), (vr 1356), (vi 91 0), (vi 0 0), (vr 1361), (vi 111 0), (vi 0 0), (vr 1366), (vi 133 0), (vi 0 0), (vr 1371), (vi 200 0), (vi 0 0), (vr 1378), (vi 211 0), (vi 0 0), (vr 1385), (vi 242 0), (vi 0 0), (vr 1526), (vi 260 0), (vi 0 0), (vr 1534), (vi 266 0), (vi 0 0), (vr 1541), (vi 269 0), (vi 0 0), (vr 1548), (vi 274 0), (vi 0 0), (vr 1556), (vi 279 0), (vi 0 0), (vr 1561), (vi 301 0), (vi 0 0), (vr 1568)])) #[])
noncomputable def tr57 (g : Nat → Obj) (P : Params) : BT := (BT.set (BT.set (base g P) 3 (fun _ => v3_57 P)) 12 (fun _ => v12_57 P))
noncomputable def v3_58 (P : Params) : Obj := (di [(de P "__name__" 165 (vs "netaddr.strategy.ipv6" 21383)), (de P "__doc__" 166 Value.none), (de P "__package__" 167 Value.none), (de P "__loader__" 168 (Value.builtin "__main__.__loader__#opaque")), (de P "__spec__" 169 Value.none), (de P "__annotations__" 170 (vr 6)), (de P "__builtins__" 171 (vr 4)), (de P "__file__" 173 (vs "/claim/cut.py" 172)), (de P "__cached__" 174 Value.none), (de P "_wall" 193 (vr 21)), (de P "INET_PTON" 197 (vi 1 196)), (de P "ZEROFILL" 199 (vi 2 198)), (de P "NOHOST" 201 (vi 4 200)), (de P "INET_ATON" 203 (vi 8 202)), (de P "AddrFormatError" 223 (vr 31)), (de P "bytes_to_bits" 236 (vr 41)), (de P "BYTES_TO_BITS" 20215 (vr 43)), (de P "int_to_words" 20229 (vr 1549)), (de P "int_to_words_strategy" 20230 (vr 1335)), (de P "int_to_bits" 20245 (vr 1557)), (de P "int_to_bits_strategy" 20246 (vr 1343)), (de P "AF_INET" 20250 (vi 2 20249)), (de P "AF_INET6" 20252 (vi 10 20251)), (de P "inet_ntoa" 20259 (vr 1350)), (de P "_compact_ipv6_tokens" 20276 (vr 1357)), (de P "inet_ntop" 20282 (vr 1362)), (de P "_inet_pton_af_inet" 20288 (vr 1367)), (de P "inet_pton" 20294 (vr 1372)), (de P "_aton_number" 20305 (vr 1379)), (de P "inet_aton" 20316 (vr 1386)), (de P "width_ipv4" 20320 (vi 32 20319)), (de P "word_size_ipv4" 20322 (vi 8 20321)), (de P "family_name_ipv4" 20324 (vs "IPv4" 20323)), (de P "version_ipv4" 20326 (vi 4 20325)), (de P "max_int_ipv4" 20331 (vi 4294967295 20330)), (de P "num_words_ipv4" 20333 (vi 4 20332)), (de P "prefix_to_netmask_ipv4" 20638 (vr 1426)), (de P "netmask_to_prefix_ipv4" 20943 (vr 1471)), (de P "hostmask_to_prefix_ipv4" 21215 (vr 1516)), (de P "str_to_int" 21222 (vr 1527)), (de P "str_to_int_ipv4" 21223 (vr 1527)), (de P "int_to_str" 21231 (vr 1535)), (de P "int_to_str_ipv4" 21232 (vr 1535)), (de P "int_to_packed" 21239 (vr 1542)), (de P "int_to_packed_ipv4" 21240 (vr 1542)), (de P "int_to_words_ipv4" 21248 (vr 1549)), (de P "int_to_bits_ipv4" 21257 (vr 1557)), (de P "expand_partial_address" 21263 (vr 1562)), (de P "expand_partial_address_ipv4" 21264 (vr 1562)), (de P "Ipv4Names" 21366 (vr 1638)), (de P "ipv4_ipv4" 21382 (vr 1644)), (de P "width_ipv6" 21386 (vi 128 21385)), (de P "word_size_ipv6" 21388 (vi 16 21387)), (de P "word_sep" 21390 (vs ":" 21389)), (de P "family_name_ipv6" 21392 (vs "IPv6" 21391)), (de P "version_ipv6" 21394 (vi 6 21393)), (de P "max_int_ipv6" 21399 (vi 340282366920938463463374607431768211455 21398)), (de P "num_words_ipv6" 21401 (vi 8 21400)), (de P "prefix_to_netmask_ipv6" 22570 (vr 1781)), (de P "netmask_to_prefix_ipv6" 23739 (vr 1922)), (de P "hostmask_to_prefix_ipv6" 24779 (vr 2063))] 61)
noncomputable def v12_58 (P : Params) : Obj := (Obj.mk Value.none none (Data.fields (List.toArray [(vi 1 0), (vi 0 0), (vr 20), (vi 9 0), (vi 0 0), (vr 27), (vi 12 0), (vi 0 0), (vr 40), (vi 23 0), (vi 0 0), (vr 1334), (vi 35 0), (vi 0 0), (vr 1342), (vi 54 0), (vi 0 0), (vr 1349), (vi 60 0), (vi 0 0), (vr 1356), (vi 91 0), (vi 0 0), (vr 1361), (vi 111 0), (vi 0 0), (vr 1366), (vi 133 0), (vi 0 0), (vr 1371), (vi 200 0), (vi 0 0), (vr 1378), (vi 211 0), (vi 0 0), (vr 1385), (vi 242 0), (vi 0 0), (vr 1526), (vi 260 0), (vi 0 0), (vr 1534), (vi 266 0), (vi 0 0), (vr 1541), (vi 269 0), (vi 0 0), (vr 1548), (vi 274 0), (vi 0 0), (vr 1556), (vi 279 0), (vi 0 0), (vr 1561), (vi 301 0), (vi 0 0), (vr 1568)])) #[])
noncomputable def tr58 (g : Nat → Obj) (P : Params) : BT := (BT.set (BT.set (base g P) 3 (fun _ => v3_58 P)) 12 (fun _ => v12_58 P))
noncomputable def v3_71 (P : Params) : Obj := (di [(de P "__name__" 165 (vs "netaddr.strategy.ipv6" 21383)), (de P "__doc__" 166 Value.none), (de P "__package__" 167 Value.none), (de P "__loader__" 168 (Value.builtin "__main__.__loader__#opaque")), (de P "__spec__" 169 Value.none), (de P "__annotations__" 170 (vr 6)), (de P "__builtins__" 171 (vr 4)), (de P "__file__" 173 (vs "/claim/cut.py" 172)), (de P "__cached__" 174 Value.none), (de P "_wall" 193 (vr 21)), (de P "INET_PTON" 197 (vi 1 196)), (de P "ZEROFILL" 199 (vi 2 198)), (de P "NOHOST" 201 (vi 4 200)), (de P "INET_ATON" 203 (vi 8 202)), (de P "AddrFormatError" 223 (vr 31)), (de P "bytes_to_bits" 236 (vr 41)), (de P "BYTES_TO_BITS" 20215 (vr 43)), (de P "int_to_words" 20229 (vr 2114)), (de P "int_to_words_strategy" 20230 (vr 1335)), (de P "int_to_bits" 20245 (vr 2122)), (de P "int_to_bits_strategy" 20246 (vr 1343)), (de P "AF_INET" 20250 (vi 2 20249)), (de P "AF_INET6" 20252 (vi 10 20251)), (de P "inet_ntoa" 20259 (vr 1350)), (de P "_compact_ipv6_tokens" 20276 (vr 1357)), (de P "inet_ntop" 20282 (vr 1362)), (de P "_inet_pton_af_inet" 20288 (vr 1367)), (de P "inet_pton" 20294 (vr 1372)), (de P "_aton_number" 20305 (vr 1379)), (de P "inet_aton" 20316 (vr 1386)), (de P "width_ipv4" 20320 (vi 32 20319)), (de P "word_size_ipv4" 20322 (vi 8 20321)), (de P "family_name_ipv4" 20324 (vs "IPv4" 20323)), (de P "version_ipv4" 20326 (vi 4 20325)), (de P "max_int_ipv4" 20331 (vi 4294967295 20330)), (de P "num_words_ipv4" 20333 (vi 4 20332)), (de P "prefix_to_netmask_ipv4" 20638 (vr 1426)), (de P "netmask_to_prefix_ipv4" 20943 (vr 1471)), (de P "hostmask_to_prefix_ipv4" 21215 (vr 1516)), (de P "str_to_int" 21222 (vr 2090)), (de P "str_to_int_ipv4" 21223 (vr 1527)), (de P "int_to_str" 21231 (vr 2096)), (de P "int_to_str_ipv4" 21232 (vr 1535)), (de P "int_to_packed" 21239 (vr 2101)), (de P "int_to_packed_ipv4" 21240 (vr 1542)), (de P "int_to_words_ipv4" 21248 (vr 1549)), (de P "int_to_bits_ipv4" 21257 (vr 1557)), (de P "expand_partial_address" 21263 (vr 1562)), (de P "expand_partial_address_ipv4" 21264 (vr 1562)), (de P "Ipv4Names" 21366 (vr 1638)), (de P "ipv4_ipv4" 21382 (vr 1644)), (de P "width_ipv6" 21386 (vi 128 21385)), (de P "word_size_ipv6" 21388 (vi 16 21387)), (de P "word_sep" 21390 (vs ":" 21389)), (de P "family_name_ipv6" 21392 (vs "IPv6" 21391)), (de P "version_ipv6" 21394 (vi 6 21393)), (de P "max_int_ipv6" 21399 (vi 340282366920938463463374607431768211455 21398)), (de P "num_words_ipv6" 21401 (vi 8 21400)), (de P "prefix_to_netmask_ipv6" 22570 (vr 1781)), (de P "netmask_to_prefix_ipv6" 23739 (vr 1922)), (de P "hostmask_to_prefix_ipv6" 24779 (vr 2063)), (de P "ipv6_compact" 24802 (vr 2078)), (de P "str_to_int_ipv6" 24813 (vr 2090)), (de P "int_to_str_ipv6" 24820 (vr 2096)), (de P "int_to_packed_ipv6" 24827 (vr 2101)), (de P "packed_to_int" 24833 (vr 2106)), (de P "int_to_words_ipv6" 24843 (vr 2114)), (de P "int_to_bits_ipv6" 24852 (vr 2122)), (de P "Ipv6Names" 24946 (vr 2191))] 69)
noncomputable def v12_71 (P : Params) : Obj := (Obj.mk Value.none none (Data.fields (List.toArray [(vi 1 0), (vi 0 0), (vr 20), (vi 9 0), (vi 0 0), (vr 27), (vi 12 0), (vi 0 0), (vr 40), (vi 23 0), (vi 0 0), (vr 1334), (vi 35 0), (vi 0 0), (vr 1342), (vi 54 0), (vi 0 0), (vr 1349), (vi 60 0), (vi 0 0), (vr 1356), (vi 91 0), (vi 0 0), (vr 1361), (vi 111 0), (vi 0 0), (vr 1366), (vi 133 0), (vi 0 0), (vr 1371), (vi 200 0), (vi 0 0), (vr 1378), (vi 211 0), (vi 0 0), (vr 1385), (vi 242 0), (vi 0 0), (vr 1526), (vi 260 0), (vi 0 0), (vr 1534), (vi 266 0), (vi 0 0), (vr 1541), (vi 269 0), (vi 0 0), (vr 1548), (vi 274 0), (vi 0 0), (vr 1556), (vi 279 0), (vi 0 0), (vr 1561), (vi 301 0), (vi 0 0), (vr 1568), (vi 347 0), (vi 0 0), (vr 2074), (vi 350 0), (vi 0 0), (vr 2089), (vi 357 0), (vi 0 0), (vr 2095), (vi 373 0), (vi 0 0), (vr 2100), (vi 377 0), (vi 0 0), (vr 2105), (vi 387 0), (vi 0 0), (vr 2113), (vi 394 0), (vi 0 0), (vr 2121), (vi 399 0), (vi 0 0), (vr 2128)])) #[])
noncomputable def tr71 (g : Nat → Obj) (P : Params) : BT := (BT.set (BT.set (base g P) 3 (fun _ => v3_71 P)) 12 (fun _ => v12_71 P))
noncomputable def v3_74 (P : Params) : Obj := (di [(de P "__name__" 165 (vs "netaddr.ip" 24963)), (de P "__doc__" 166 Value.none), (de P "__package__" 167 Value.none), (de P "__loader__" 168 (Value.builtin "__main__.__loader__#opaque")), (de P "__spec__" 169 Value.none), (de P "__annotations__" 170 (vr 6)), (de P "__builtins__" 171 (vr 4)), (de P "__file__" 173 (vs "/claim/cut.py" 172)), (de P "__cached__" 174 Value.none), (de P "_wall" 193 (vr 21)), (de P "INET_PTON" 197 (vi 1 196)), (de P "ZEROFILL" 199 (vi 2 198)), (de P "NOHOST" 201 (vi 4 200)), (de P "INET_ATON" 203 (vi 8 202)), (de P "AddrFormatError" 223 (vr 31)), (de P "bytes_to_bits" 236 (vr 41)), (de P "BYTES_TO_BITS" 20215 (vr 43)), (de P "int_to_words" 20229 (vr 2114)), (de P "int_to_words_strategy" 20230 (vr 1335)), (de P "int_to_bits" 20245 (vr 2122)), (de P "int_to_bits_strategy" 20246 (vr 1343)), (de P "AF_INET" 20250 (vi 2 20249)), (de P "AF_INET6" 20252 (vi 10 20251)), (de P "inet_ntoa" 20259 (vr 1350)), (de P "_compact_ipv6_tokens" 20276 (vr 1357)), (de P "inet_ntop" 20282 (vr 1362)), (de P "_inet_pton_af_inet" 20288 (vr 1367)), (de P "inet_pton" 20294 (vr 1372)), (de P "_aton_number" 20305 (vr 1379)), (de P "inet_aton" 20316 (vr 1386)), (de P "width_ipv4" 20320 (vi 32 20319)), (de P "word_size_ipv4" 20322 (vi 8 20321)), (de P "family_name_ipv4" 20324 (vs "IPv4" 20323)), (de P "version_ipv4" 20326 (vi 4 20325)), (de P "max_int_ipv4" 20331 (vi 4294967295 20330)), (de P "num_words_ipv4" 20333 (vi 4 20332)), (de P "prefix_to_netmask_ipv4" 20638 (vr 1426)), (de P "netmask_to_prefix_ipv4" 20943 (vr 1471)), (de P "hostmask_to_prefix_ipv4" 21215 (vr 1516)), (de P "str_to_int" 21222 (vr 2090)), (de P "str_to_int_ipv4" 21223 (vr 1527)), (de P "int_to_str" 21231 (vr 2096)), (de P "int_to_str_ipv4" 21232 (vr 1535)), (de P "int_to_packed" 21239 (vr 2101)), (de P "int_to_packed_ipv4" 21240 (vr 1542)), (de P "int_to_words_ipv4" 21248 (vr 1549)), (de P "int_to_bits_ipv4" 21257 (vr 1557)), (de P "expand_partial_address" 21263 (vr 1562)), (de P "expand_partial_address_ipv4" 21264 (vr 1562)), (de P "Ipv4Names" 21366 (vr 1638)), (de P "ipv4_ipv4" 21382 (vr 1644)), (de P "width_ipv6" 21386 (vi 128 21385)), (de P "word_size_ipv6" 21388 (vi 16 21387)), (de P "word_sep" 21390 (vs ":" 21389)), (de P "family_name_ipv6" 21392 (vs "IPv6" 21391)), (de P "version_ipv6" 21394 (vi 6 21393)), (de P "max_int_ipv6" 21399 (vi 340282366920938463463374607431768211455 21398)), (de P "num_words_ipv6" 21401 (vi 8 21400)), (de P "prefix_to_netmask_ipv6" 22570 (vr 1781)), (de P "netmask_to_prefix_ipv6" 23739 (vr 1922)), (de P "hostmask_to_prefix_ipv6" 24779 (vr 2063)), (de P "ipv6_compact" 24802 (vr 2078)), (de P "str_to_int_ipv6" 24813 (vr 2090)), (de P "int_to_str_ipv6" 24820 (vr 2096)), (de P "int_to_packed_ipv6" 24827 (vr 2101)), (de P "packed_to_int" 24833 (vr 2106)), (de P "int_to_words_ipv6" 24843 (vr 2114)), (de P "int_to_bits_ipv6" 24852 (vr 2122)), (de P "Ipv6Names" 24946 (vr 2191)), (de P "ipv6_ipv6" 24962 (vr 2197)), (de P "BaseIP" 25104 (vr 2317))] 71)
noncomputable def v12_74 (P : Params) : Obj := (Obj.mk Value.none none (Data.fields (List.toArray [(vi 1 0), (vi 0 0), (vr 20), (vi 9 0), (vi 0 0), (vr 27), (vi 12 0), (vi 0 0), (vr 40), (vi 23 0), (vi 0 0), (vr 1334), (vi 35 0), (vi 0 0), (vr 1342), (vi 54 0), (vi 0 0), (vr 1349), (vi 60 0), (vi 0 0), (vr 1356), (vi 91 0), (vi 0 0), (vr 1361), (vi 111 0), (vi 0 0), (vr 1366), (vi 133 0), (vi 0 0), (vr 1371), (vi 200 0), (vi 0 0), (vr 1378), (vi 211 0), (vi 0 0), (vr 1385), (vi 242 0), (vi 0 0), (vr 1526), (vi 260 0), (vi 0 0), (vr 1534), (vi 266 0), (vi 0 0), (vr 1541), (vi 269 0), (vi 0 0), (vr 1548), (vi 274 0), (vi 0 0), (vr 1556), (vi 279 0), (vi 0 0), (vr 1561), (vi 301 0), (vi 0 0), (vr 1568), (vi 347 0), (vi 0 0), (vr 2074), (vi 350 0), (vi 0 0), (vr 2089), (vi 357 0), (vi 0 0), (vr 2095), (vi 373 0), (vi 0 0), (vr 2100), (vi 377 0), (vi 0 0), (vr 2105), (vi 387 0), (vi 0 0), (vr 2113), (vi 394 0), (vi 0 0), (vr 2121), (vi 399 0), (vi 0 0), (vr 2128), (vi 432 0), (vi 0 0), (vr 2204)])) #[])
noncomputable def v2317_74 (P : Params) : Obj := (Obj.mk (Value.type "type") none (Data.cls (ClassData.mk (Str.ofString "BaseIP") [(Value.type "object")] [(vr 2317), (Value.type "object")] 2316 (Str.ofString "BaseIP") true [] [] false none false)) (List.toArray [(some (vr 2199)), none, (some (vs "BaseIP" 24965)), (some (vs "BaseIP" 24973)), (some (Value.builtin "object.__new__")), (some (Value.bool true))]))
noncomputable def tr74 (g : Nat → Obj) (P : Params) : BT := (BT.set (BT.set (BT.set (base g P) 3 (fun _ => v3_74 P)) 12 (fun _ => v12_74 P)) 2317 (fun _ => v2317_74 P))
noncomputable def v3_75 (P : Params) : Obj := (di [(de P "__name__" 165 (vs "netaddr.ip" 24963)), (de P "__doc__" 166 Value.none), (de P "__package__" 167 Value.none), (de P "__loader__" 168 (Value.builtin "__main__.__loader__#opaque")), (de P "__spec__" 169 Value.none), (de P "__annotations__" 170 (vr 6)), (de P "__builtins__" 171 (vr 4)), (de P "__file__" 173 (vs "/claim/cut.py" 172)), (de P "__cached__" 174 Value.none), (de P "_wall" 193 (vr 21)), (de P "INET_PTON" 197 (vi 1 196)), (de P "ZEROFILL" 199 (vi 2 198)), (de P "NOHOST" 201 (vi 4 200)), (de P "INET_ATON" 203 (vi 8 202)), (de P "AddrFormatError" 223 (vr 31)), (de P "bytes_to_bits" 236 (vr 41)), (de P "BYTES_TO_BITS" 20215 (vr 43)), (de P "int_to_words" 20229 (vr 2114)), (de P "int_to_words_strategy" 20230 (vr 1335)), (de P "int_to_bits" 20245 (vr 2122)), (de P "int_to_bits_strategy" 20246 (vr 1343)), (de P "AF_INET" 20250 (vi 2 20249)), (de P "AF_INET6" 20252 (vi 10 20251)), (de P "inet_ntoa" 20259 (vr 1350)), (de P "_compact_ipv6_tokens" 20276 (vr 1357)), (de P "inet_ntop" 20282 (vr 1362)), (de P "_inet_pton_af_inet" 20288 (vr 1367)), (de P "inet_pton" 20294 (vr 1372)), (de P "_aton_number" 20305 (vr 1379)), (de P "inet_aton" 20316 (vr 1386)), (de P "width_ipv4" 20320 (vi 32 20319)), (de P "word_size_ipv4" 20322 (vi 8 20321)), (de P "family_name_ipv4" 20324 (vs "IPv4" 20323)), (de P "version_ipv4" 20326 (vi 4 20325)), (de P "max_int_ipv4" 20331 (vi 4294967295 20330)), (de P "num_words_ipv4" 20333 (vi 4 20332)), (de P "prefix_to_netmask_ipv4" 20638 (vr 1426)), (de P "netmask_to_prefix_ipv4" 20943 (vr 1471)), (de P "hostmask_to_prefix_ipv4" 21215 (vr 1516)), (de P "str_to_int" 21222 (vr 2090)), (de P "str_to_int_ipv4" 21223 (vr 1527)), (de P "int_to_str" 21231 (vr 2096)), (de P "int_to_str_ipv4" 21232 (vr 1535)), (de P "int_to_packed" 21239 (vr 2101)), (de P "int_to_packed_ipv4" 21240 (vr 1542)), (de P "int_to_words_ipv4" 21248 (vr 1549)), (de P "int_to_bits_ipv4" 21257 (vr 1557)), (de P "expand_partial_address" 21263 (vr 1562)), (de P "expand_partial_address_ipv4" 21264 (vr 1562)), (de P "Ipv4Names" 21366 (vr 1638)), (de P "ipv4_ipv4" 21382 (vr 1644)), (de P "width_ipv6" 21386 (vi 128 21385)), (de P "word_size_ipv6" 21388 (vi 16 21387)), (de P "word_sep" 21390 (vs ":" 21389)), (de P "family_name_ipv6" 21392 (vs "IPv6" 21391)), (de P "version_ipv6" 21394 (vi 6 21393)), (de P "max_int_ipv6" 21399 (vi 340282366920938463463374607431768211455 21398)), (de P "num_words_ipv6" 21401 (vi 8 21400)), (de P "prefix_to_netmask_ipv6" 22570 (vr 1781)), (de P "netmask_to_prefix_ipv6" 23739 (vr 1922)), (de P "hostmask_to_prefix_ipv6" 24779 (vr 2063)), (de P "ipv6_compact" 24802 (vr 2078)), (de P "str_to_int_ipv6" 24813 (vr 2090)), (de P "int_to_str_ipv6" 24820 (vr 2096)), (de P "int_to_packed_ipv6" 24827 (vr 2101)), (de P "packed_to_int" 24833 (vr 2106)), (de P "int_to_words_ipv6" 24843 (vr 2114)), (de P "int_to_bits_ipv6" 24852 (vr 2122)), (de P "Ipv6Names" 24946 (vr 2191)), (de P "ipv6_ipv6" 24962 (vr 2197)), (de P "BaseIP" 25104 (vr 2317)), (de P "IPAddress" 25381 (vr 2565))] 72)
noncomputable def v12_75 (P : Params) : Obj := (Obj.mk Value.none none (Data.fields (List.toArray [(vi 1 0), (vi 0 0), (vr 20), (vi 9 0), (vi 0 0), (vr 27), (vi 12 0), (vi 0 0), (vr 40), (vi 23 0), (vi 0 0), (vr 1334), (vi 35 0), (vi 0 0), (vr 1342), (vi 54 0), (vi 0 0), (vr 1349), (vi 60 0), (vi 0 0), (vr 1356), (vi 91 0), (vi 0 0), (vr 1361), (vi 111 0), (vi 0 0), (vr 1366), (vi 133 0), (vi 0 0), (vr 1371), (vi 200 0), (vi 0 0), (vr 1378), (vi 211 0), (vi 0 0), (vr 1385), (vi 242 0), (vi 0 0), (vr 1526), (vi 260 0), (vi 0 0), (vr 1534), (vi 266 0), (vi 0 0), (vr 1541), (vi 269 0), (vi 0 0), (vr 1548), (vi 274 0), (vi 0 0), (vr 1556), (vi 279 0), (vi 0 0), (vr 1561), (vi 301 0), (vi 0 0), (vr 1568), (vi 347 0), (vi 0 0), (vr 2074), (vi 350 0), (vi 0 0), (vr 2089), (vi 357 0), (vi 0 0), (vr 2095), (vi 373 0), (vi 0 0), (vr 2100), (vi 377 0), (vi 0 0), (vr 2105), (vi 387 0), (vi 0 0), (vr 2113), (vi 394 0), (vi 0 0), (vr 2121), (vi 399 0), (vi 0 0), (vr 2128), (vi 432 0), (vi 0 0), (vr 2204), (vi 504 0), (vi 0 0), (vr 2328)])) #[])
noncomputable def v2317_75 (P : Params) : Obj := (Obj.mk (Value.type "type") none (Data.cls (ClassData.mk (Str.ofString "BaseIP") [(Value.type "object")] [(vr 2317), (Value.type "object")] 2316 (Str.ofString "BaseIP") true [] [(vr 2565)] false none false)) (List.toArray [(some (vr 2199)), none, (some (vs "BaseIP" 24965)), (some (vs "BaseIP" 24973)), (some (Value.builtin "object.__new__")), (some (Value.bool true))]))
noncomputable def tr75 (g : Nat → Obj) (P : Params) : BT := (BT.set (BT.set (BT.set (base g P) 3 (fun _ => v3_75 P)) 12 (fun _ => v12_75 P)) 2317 (fun _ => v2317_75 P))
noncomputable def v3_77 (P : Params) : Obj := (di [(de P "__name__" 165 (vs "netaddr.ip" 24963)), (de P "__doc__" 166 Value.none), (de P "__package__" 167 Value.none), (de P "__loader__" 168 (Value.builtin "__main__.__loader__#opaque")), (de P "__spec__" 169 Value.none), (de P "__annotations__" 170 (vr 6)), (de P "__builtins__" 171 (vr 4)), (de P "__file__" 173 (vs "/claim/cut.py" 172)), (de P "__cached__" 174 Value.none), (de P "_wall" 193 (vr 21)), (de P "INET_PTON" 197 (vi 1 196)), (de P "ZEROFILL" 199 (vi 2 198)), (de P "NOHOST" 201 (vi 4 200)), (de P "INET_ATON" 203 (vi 8 202)), (de P "AddrFormatError" 223 (vr 31)), (de P "bytes_to_bits" 236 (vr 41)), (de P "BYTES_TO_BITS" 20215 (vr 43)), (de P "int_to_words" 20229 (vr 2114)), (de P "int_to_words_strategy" 20230 (vr 1335)), (de P "int_to_bits" 20245 (vr 2122)), (de P "int_to_bits_strategy" 20246 (vr 1343)), (de P "AF_INET" 20250 (vi 2 20249)), (de P "AF_INET6" 20252 (vi 10 20251)), (de P "inet_ntoa" 20259 (vr 1350)), (de P "_compact_ipv6_tokens" 20276 (vr 1357)), (de P "inet_ntop" 20282 (vr 1362)), (de P "_inet_pton_af_inet" 20288 (vr 1367)), (de P "inet_pton" 20294 (vr 1372)), (de P "_aton_number" 20305 (vr 1379)), (de P "inet_aton" 20316 (vr 1386)), (de P "width_ipv4" 20320 (vi 32 20319)), (de P "word_size_ipv4" 20322 (vi 8 20321)), (de P "family_name_ipv4" 20324 (vs "IPv4" 20323)), (de P "version_ipv4" 20326 (vi 4 20325)), (de P "max_int_ipv4" 20331 (vi 4294967295 20330)), (de P "num_words_ipv4" 20333 (vi 4 20332)), (de P "prefix_to_netmask_ipv4" 20638 (vr 1426)), (de P "netmask_to_prefix_ipv4" 20943 (vr 1471)), (de P "hostmask_to_prefix_ipv4" 21215 (vr 1516)), (de P "str_to_int" 21222 (vr 2090)), (de P "str_to_int_ipv4" 21223 (vr 1527)), (de P "int_to_str" 21231 (vr 2096)), (de P "int_to_str_ipv4" 21232 (vr 1535)), (de P "int_to_packed" 21239 (vr 2101)), (de P "int_to_packed_ipv4" 21240 (vr 1542)), (de P "int_to_words_ipv4" 21248 (vr 1549)), (de P "int_to_bits_ipv4" 21257 (vr 1557)), (de P "expand_partial_address" 21263 (vr 1562)), (de P "expand_partial_address_ipv4" 21264 (vr 1562)), (de P "Ipv4Names" 21366 (vr 1638)), (de P "ipv4_ipv4" 21382 (vr 1644)), (de P "width_ipv6" 21386 (vi 128 21385)), (de P "word_size_ipv6" 21388 (vi 16 21387)), (de P "word_sep" 21390 (vs ":" 21389)), (de P "family_name_ipv6" 21392 (vs "IPv6" 21391)), (de P "version_ipv6" 21394 (vi 6 21393)), (de P "max_int_ipv6" 21399 (vi 340282366920938463463374607431768211455 21398)), (de P "num_words_ipv6" 21401 (vi 8 21400)), (de P "prefix_to_netmask_ipv6" 22570 (vr 1781)), (de P "netmask_to_prefix_ipv6" 23739 (vr 1922)), (de P "hostmask_to_prefix_ipv6" 24779 (vr 2063)), (de P "ipv6_compact" 24802 (vr 2078)), (de P "str_to_int_ipv6" 24813 (vr 2090)), (de P "int_to_str_ipv6" 24820 (vr 2096)), (de P "int_to_packed_ipv6" 24827 (vr 2101)), (de P "packed_to_int" 24833 (vr 2106)), (de P "int_to_words_ipv6" 24843 (vr 2114)), (de P "int_to_bits_ipv6" 24852 (vr 2122)), (de P "Ipv6Names" 24946 (vr 2191)), (de P "ipv6_ipv6" 24962 (vr 2197)), (de P "BaseIP" 25104 (vr 2317)), (de P "IPAddress" 25381 (vr 2565)), (de P "IPListMixin" 25438 (vr 2613)), (de P "parse_ip_network" 25457 (vr 2624))] 74)
noncomputable def v12_77 (P : Params) : Obj := (Obj.mk Value.none none (Data.fields (List.toArray [(vi 1 0), (vi 0 0), (vr 20), (vi 9 0), (vi 0 0), (vr 27), (vi 12 0), (vi 0 0), (vr 40), (vi 23 0), (vi 0 0), (vr 1334), (vi 35 0), (vi 0 0), (vr 1342), (vi 54 0), (vi 0 0), (vr 1349), (vi 60 0), (vi 0 0), (vr 1356), (vi 91 0), (vi 0 0), (vr 1361), (vi 111 0), (vi 0 0), (vr 1366), (vi 133 0), (vi 0 0), (vr 1371), (vi 200 0), (vi 0 0), (vr 1378), (vi 211 0), (vi 0 0), (vr 1385), (vi 242 0), (vi 0 0), (vr 1526), (vi 260 0), (vi 0 0), (vr 1534), (vi 266 0), (vi 0 0), (vr 1541), (vi 269 0), (vi 0 0), (vr 1548), (vi 274 0), (vi 0 0), (vr 1556), (vi 279 0), (vi 0 0), (vr 1561), (vi 301 0), (vi 0 0), (vr 1568), (vi 347 0), (vi 0 0), (vr 2074), (vi 350 0), (vi 0 0), (vr 2089), (vi 357 0), (vi 0 0), (vr 2095), (vi 373 0), (vi 0 0), (vr 2100), (vi 377 0), (vi 0 0), (vr 2105), (vi 387 0), (vi 0 0), (vr 2113), (vi 394 0), (vi 0 0), (vr 2121), (vi 399 0), (vi 0 0), (vr 2128), (vi 432 0), (vi 0 0), (vr 2204), (vi 504 0), (vi 0 0), (vr 2328), (vi 691 0), (vi 0 0), (vr 2573), (vi 724 0), (vi 0 0), (vr 2623)])) #[])
noncomputable def v2613_77 (P : Params) : Obj := (Obj.mk (Value.type "type") none (Data.cls (ClassData.mk (Str.ofString "IPListMixin") [(vr 2317)] [(vr 2613), (vr 2317), (Value.type "object")] 2612 (Str.ofString "IPListMixin") true [] [] false none false)) (List.toArray [(some (vr 2568)), none, (some (vs "IPListMixin" 25382)), (some (vs "IPListMixin" 25390)), (some (Value.builtin "object.__new__")), (some (Value.bool true))]))
noncomputable def tr77 (g : Nat → Obj) (P : Params) : BT := (BT.set (BT.set (BT.set (base g P) 3 (fun _ => v3_77 P)) 12 (fun _ => v12_77 P)) 2613 (fun _ => v2613_77 P))
noncomputable def v3_78 (P : Params) : Obj := (di [(de P "__name__" 165 (vs "netaddr.ip" 24963)), (de P "__doc__" 166 Value.none), (de P "__package__" 167 Value.none), (de P "__loader__" 168 (Value.builtin "__main__.__loader__#opaque")), (de P "__spec__" 169 Value.none), (de P "__annotations__" 170 (vr 6)), (de P "__builtins__" 171 (vr 4)), (de P "__file__" 173 (vs "/claim/cut.py" 172)), (de P "__cached__" 174 Value.none), (de P "_wall" 193 (vr 21)), (de P "INET_PTON" 197 (vi 1 196)), (de P "ZEROFILL" 199 (vi 2 198)), (de P "NOHOST" 201 (vi 4 200)), (de P "INET_ATON" 203 (vi 8 202)), (de P "AddrFormatError" 223 (vr 31)), (de P "bytes_to_bits" 236 (vr 41)), (de P "BYTES_TO_BITS" 20215 (vr 43)), (de P "int_to_words" 20229 (vr 2114)), (de P "int_to_words_strategy" 20230 (vr 1335)), (de P "int_to_bits" 20245 (vr 2122)), (de P "int_to_bits_strategy" 20246 (vr 1343)), (de P "AF_INET" 20250 (vi 2 20249)), (de P "AF_INET6" 20252 (vi 10 20251)), (de P "inet_ntoa" 20259 (vr 1350)), (de P "_compact_ipv6_tokens" 20276 (vr 1357)), (de P "inet_ntop" 20282 (vr 1362)), (de P "_inet_pton_af_inet" 20288 (vr 1367)), (de P "inet_pton" 20294 (vr 1372)), (de P "_aton_number" 20305 (vr 1379)), (de P "inet_aton" 20316 (vr 1386)), (de P "width_ipv4" 20320 (vi 32 20319)), (de P "word_size_ipv4" 20322 (vi 8 20321)), (de P "family_name_ipv4" 20324 (vs "IPv4" 20323)), (de P "version_ipv4" 20326 (vi 4 20325)), (de P "max_int_ipv4" 20331 (vi 4294967295 20330)), (de P "num_words_ipv4" 20333 (vi 4 20332)), (de P "prefix_to_netmask_ipv4" 20638 (vr 1426)), (de P "netmask_to_prefix_ipv4" 20943 (vr 1471)), (de P "hostmask_to_prefix_ipv4" 21215 (vr 1516)), (de P "str_to_int" 21222 (vr 2090)), (de P "str_to_int_ipv4" 21223 (vr 1527)), (de P "int_to_str" 21231 (vr 2096)), (de P "int_to_str_ipv4" 21232 (vr 1535)), (de P "int_to_packed" 21239 (vr 2101)), (de P "int_to_packed_ipv4" 21240 (vr 1542)), (de P "int_to_words_ipv4" 21248 (vr 1549)), (de P "int_to_bits_ipv4" 21257 (vr 1557)), (de P "expand_partial_address" 21263 (vr 1562)), (de P "expand_partial_address_ipv4" 21264 (vr 1562)), (de P "Ipv4Names" 21366 (vr 1638)), (de P "ipv4_ipv4" 21382 (vr 1644)), (de P "width_ipv6" 21386 (vi 128 21385)), (de P "word_size_ipv6" 21388 (vi 16 21387)), (de P "word_sep" 21390 (vs ":" 21389)), (de P "family_name_ipv6" 21392 (vs "IPv6" 21391)), (de P "version_ipv6" 21394 (vi 6 21393)), (de P "max_int_ipv6" 21399 (vi 340282366920938463463374607431768211455 21398)), (de P "num_words_ipv6" 21401 (vi 8 21400)), (de P "prefix_to_netmask_ipv6" 22570 (vr 1781)), (de P "netmask_to_prefix_ipv6" 23739 (vr 1922)), (de P "hostmask_to_prefix_ipv6" 24779 (vr 2063)), (de P "ipv6_compact" 24802 (vr 2078)), (de P "str_to_int_ipv6" 24813 (vr 2090)), (de P "int_to_str_ipv6" 24820 (vr 2096)), (de P "int_to_packed_ipv6" 24827 (vr 2101)), (de P "packed_to_int" 24833 (vr 2106)), (de P "int_to_words_ipv6" 24843 (vr 2114)), (de P "int_to_bits_ipv6" 24852 (vr 2122)), (de P "Ipv6Names" 24946 (vr 2191)), (de P "ipv6_ipv6" 24962 (vr 2197)), (de P "BaseIP" 25104 (vr 2317)), (de P "IPAddress" 25381 (vr 2565)), (de P "IPListMixin" 25438 (vr 2613)), (de P "parse_ip_network" 25457 (vr 2624)), (de P "IPNetwork" 25748 (vr 2868))] 75)
noncomputable def v12_78 (P : Params) : Obj := (Obj.mk Value.none none (Data.fields (List.toArray [(vi 1 0), (vi 0 0), (vr 20), (vi 9 0), (vi 0 0), (vr 27), (vi 12 0), (vi 0 0), (vr 40), (vi 23 0), (vi 0 0), (vr 1334), (vi 35 0), (vi 0 0), (vr 1342), (vi 54 0), (vi 0 0), (vr 1349), (vi 60 0), (vi 0 0), (vr 1356), (vi 91 0), (vi 0 0), (vr 1361), (vi 111 0), (vi 0 0), (vr 1366), (vi 133 0), (vi 0 0), (vr 1371), (vi 200 0), (vi 0 0), (vr 1378), (vi 211 0), (vi 0 0), (vr 1385), (vi 242 0), (vi 0 0), (vr 1526), (vi 260 0), (vi 0 0), (vr 1534), (vi 266 0), (vi 0 0), (vr 1541), (vi 269 0), (vi 0 0), (vr 1548), (vi 274 0), (vi 0 0), (vr 1556), (vi 279 0), (vi 0 0), (vr 1561), (vi 301 0), (vi 0 0), (vr 1568), (vi 347 0), (vi 0 0), (vr 2074), (vi 350 0), (vi 0 0), (vr 2089), (vi 357 0), (vi 0 0), (vr 2095), (vi 373 0), (vi 0 0), (vr 2100), (vi 377 0), (vi 0 0), (vr 2105), (vi 387 0), (vi 0 0), (vr 2113), (vi 394 0), (vi 0 0), (vr 2121), (vi 399 0), (vi 0 0), (vr 2128), (vi 432 0), (vi 0 0), (vr 2204), (vi 504 0), (vi 0 0), (vr 2328), (vi 691 0), (vi 0 0), (vr 2573), (vi 724 0), (vi 0 0), (vr 2623), (vi 764 0), (vi 0 0), (vr 2631)])) #[])
noncomputable def v2613_78 (P : Params) : Obj := (Obj.mk (Value.type "type") none (Data.cls (ClassData.mk (Str.ofString "IPListMixin") [(vr 2317)] [(vr 2613), (vr 2317), (Value.type "object")] 2612 (Str.ofString "IPListMixin") true [] [(vr 2868)] false none false)) (List.toArray [(some (vr 2568)), none, (some (vs "IPListMixin" 25382)), (some (vs "IPListMixin" 25390)), (some (Value.builtin "object.__new__")), (some (Value.bool true))]))
noncomputable def tr78 (g : Nat → Obj) (P : Params) : BT := (BT.set (BT.set (BT.set (base g P) 3 (fun _ => v3_78 P)) 12 (fun _ => v12_78 P)) 2613 (fun _ => v2613_78 P))
noncomputable def tr86 (g : Nat → Obj) (P : Params) : BT := base g P
noncomputable def Sb (g : Nat → Obj) (P : Params) (os : OsState) : SharedT := ⟨trb g P, 15, {}, #[], {}, 187, os⟩
def posb : Pos := (Pos.mk 0 0 0 0)
noncomputable def S8 (g : Nat → Obj) (P : Params) (os : OsState) : SharedT := ⟨tr8 g P, 42, {}, #[], {}, 237, os⟩
def pos8 : Pos := (Pos.mk 12 0 21 17)
noncomputable def S9 (g : Nat → Obj) (P : Params) (os : OsState) : SharedT := ⟨tr9 g P, 1329, {}, #[], {}, 20216, os⟩
def pos9 : Pos := (Pos.mk 22 0 22 13)
noncomputable def S30 (g : Nat → Obj) (P : Params) (os : OsState) : SharedT := ⟨tr30 g P, 1387, {}, #[], {}, 20334, os⟩
def pos30 : Pos := (Pos.mk 238 0 238 14)
noncomputable def S31 (g : Nat → Obj) (P : Params) (os : OsState) : SharedT := ⟨tr31 g P, 1432, {}, #[], {}, 20639, os⟩
def pos31 : Pos := (Pos.mk 239 0 239 22)
noncomputable def S32 (g : Nat → Obj) (P : Params) (os : OsState) : SharedT := ⟨tr32 g P, 1477, {}, #[], {}, 20944, os⟩
def pos32 : Pos := (Pos.mk 240 0 240 22)
noncomputable def S33 (g : Nat → Obj) (P : Params) (os : OsState) : SharedT := ⟨tr33 g P, 1522, {}, #[], {}, 21216, os⟩
def pos33 : Pos := (Pos.mk 241 0 241 23)
noncomputable def S55 (g : Nat → Obj) (P : Params) (os : OsState) : SharedT := ⟨tr55 g P, 1646, {}, #[], {}, 21402, os⟩
def pos55 : Pos := (Pos.mk 343 0 343 14)
noncomputable def S56 (g : Nat → Obj) (P : Params) (os : OsState) : SharedT := ⟨tr56 g P, 1787, {}, #[], {}, 22571, os⟩
def pos56 : Pos := (Pos.mk 344 0 344 22)
noncomputable def S57 (g : Nat → Obj) (P : Params) (os : OsState) : SharedT := ⟨tr57 g P, 1928, {}, #[], {}, 23740, os⟩
def pos57 : Pos := (Pos.mk 345 0 345 22)
noncomputable def S58 (g : Nat → Obj) (P : Params) (os : OsState) : SharedT := ⟨tr58 g P, 2069, {}, #[], {}, 24780, os⟩
def pos58 : Pos := (Pos.mk 346 0 346 23)
noncomputable def S71 (g : Nat → Obj) (P : Params) (os : OsState) : SharedT := ⟨tr71 g P, 2196, {}, #[], {}, 24947, os⟩
def pos71 : Pos := (Pos.mk 399 0 429 16)
noncomputable def S74 (g : Nat → Obj) (P : Params) (os : OsState) : SharedT := ⟨tr74 g P, 2322, {}, #[], {}, 25105, os⟩
def pos74 : Pos := (Pos.mk 432 0 503 35)
noncomputable def S75 (g : Nat → Obj) (P : Params) (os : OsState) : SharedT := ⟨tr75 g P, 2568, {}, #[], {}, 25382, os⟩
def pos75 : Pos := (Pos.mk 504 0 690 17)
noncomputable def S77 (g : Nat → Obj) (P : Params) (os : OsState) : SharedT := ⟨tr77 g P, 2625, {}, #[], {}, 25458, os⟩
def pos77 : Pos := (Pos.mk 724 0 763 29)
noncomputable def S78 (g : Nat → Obj) (P : Params) (os : OsState) : SharedT := ⟨tr78 g P, 2871, {}, #[], {}, 25749, os⟩
def pos78 : Pos := (Pos.mk 764 0 961 39)
noncomputable def S86 (g : Nat → Obj) (P : Params) (os : OsState) : SharedT := ⟨tr86 g P, 2990, {}, #[], {}, 25938, os⟩
def pos86 : Pos := (Pos.mk 1077 0 1103 110)
end Mine
end
section
open PySem PySem.W
namespace Mine
set_option maxRecDepth 100000
/-- what a tree comes to: its end, a raise, a code at which the reckoning is to halt (with what follows), or nothing known -/
inductive Res (α : Type) where
  | ok (a : α) (p : Pos) (s : SharedT)
  | err (e : Value) (p : Pos) (s : SharedT)
  | code (Γ : Ctx) (p : Pos) (s : SharedT) (k : Result → SharedT → Res α)
  | no
namespace Res
variable {α β : Type}
noncomputable def bind (o : Res α) (f : α → Pos → SharedT → Res β) (g : Value → Pos → SharedT → Res β) : Res β :=
  Res.rec (motive := fun _ => Res β) f g (fun Γ p s _ ih => .code Γ p s ih) .no o
def head : Res α → Option (Ctx × Pos × SharedT)
  | .code Γ p s _ => some (Γ, p, s)
  | _ => none
def kont : Res α → Result → SharedT → Res α
  | .code _ _ _ k => k
  | _ => fun _ _ => .no
/-- the end is as wanted, every halt bridged by a run of its code -/
def Sat (M : Model) (Q : α → Pos → Shared → Prop) (E : Value → Pos → Shared → Prop) : Res α → Prop
  | .ok a p s => Q a p s.abs
  | .err e p s => E e p s.abs
  | .code Γ p s k => wpCode M Γ (fun r s' => ∃ S, s' = S.abs ∧ Sat M Q E (k r S)) p s.abs
  | .no => False
theorem sat_mono {M : Model} {Q Q' : α → Pos → Shared → Prop} {E E' : Value → Pos → Shared → Prop} (hq : ∀ a p s, Q a p s → Q' a p s) (he : ∀ e p s, E e p s → E' e p s) : ∀ {o : Res α}, Sat M Q E o → Sat M Q' E' o
  | .ok a p s, h => hq a p _ h
  | .err e p s, h => he e p _ h
  | .code Γ p s k, h => wpCode_mono (fun r s' ⟨S, e, q⟩ => ⟨S, e, sat_mono hq he q⟩) h
  | .no, h => h.elim
theorem sat_bind {M : Model} {Q : β → Pos → Shared → Prop} {E : Value → Pos → Shared → Prop} {f : α → Pos → SharedT → Res β} {g : Value → Pos → SharedT → Res β} :
    ∀ {o : Res α}, Sat M Q E (o.bind f g) → Sat M (fun a p s => ∃ S, s = S.abs ∧ Sat M Q E (f a p S)) (fun e p s => ∃ S, s = S.abs ∧ Sat M Q E (g e p S)) o
  | .ok a p s, h => ⟨s, rfl, h⟩
  | .err e p s, h => ⟨s, rfl, h⟩
  | .code Γ p s k, h => wpCode_mono (fun r s' ⟨S, e, q⟩ => ⟨S, e, sat_bind (o := k r S) q⟩) h
  | .no, h => h.elim
theorem sat_of_head {M : Model} {Q : α → Pos → Shared → Prop} {E : Value → Pos → Shared → Prop} {o : Res α} {Γ : Ctx} {p : Pos} {s : SharedT} (h : o.head = some (Γ, p, s))
    (hc : wpCode M Γ (fun r s' => ∃ S, s' = S.abs ∧ Sat M Q E (o.kont r S)) p s.abs) : Sat M Q E o := by
  cases o with
  | code Γ' p' s' k => cases h; exact hc
  | _ => cases h
end Res
section
variable (den : Code → Sem Fin) (prog : Program) (P : Params) (stop : Code → Bool) (Γ : Ctx) (F : Ctx → Pos → SharedT → Res Flow) {α : Type}
def rUnit (ih : Unit → Pos → SharedT → Res α) : Pos → SharedT → Res α := ih ()
def rLoad (a : Addr) (ih : Obj → Pos → SharedT → Res α) : Pos → SharedT → Res α
  | p, ⟨T, n, life, gens, drawn, toks, os⟩ => match Nat.blt a n with
    | true => match T.get a with
      | some o => match alive o with
        | some o' => ih o' p ⟨T, n, life, gens, drawn, toks, os⟩
        | none => .no
      | none => .no
    | false => .no
def rUpdate (a : Addr) (f : Obj → Obj) (ih : Unit → Pos → SharedT → Res α) : Pos → SharedT → Res α
  | p, ⟨T, n, life, gens, drawn, toks, os⟩ => match Nat.blt a n with
    | true => match T.get a with
      | some o => match alive o with
        | some _ => ih () p ⟨T.set a f, n, life, gens, drawn, toks, os⟩
        | none => .no
      | none => .no
    | false => .no
def rAlloc (o : Obj) (ih : Addr → Pos → SharedT → Res α) : Pos → SharedT → Res α
  | p, ⟨T, n, life, gens, drawn, toks, os⟩ => match ((T.ins n o).get n).isSome with
    | true => ih n p ⟨T.ins n o, Nat.succ n, life, gens, drawn, toks, os⟩
    | false => .no
def rLia (a : Addr) (ih : Option Obj → Pos → SharedT → Res α) : Pos → SharedT → Res α
  | p, ⟨T, n, life, gens, drawn, toks, os⟩ => match Nat.blt a n with
    | true => match T.get a with
      | some o => ih (alive o) p ⟨T, n, life, gens, drawn, toks, os⟩
      | none => .no
    | false => ih none p ⟨T, n, life, gens, drawn, toks, os⟩
def rFresh (ih : Tok → Pos → SharedT → Res α) : Pos → SharedT → Res α
  | p, ⟨T, n, life, gens, drawn, toks, os⟩ => ih toks p ⟨T, n, life, gens, drawn, Nat.succ toks, os⟩
noncomputable def rCall (c : Code) (h : Option Value) (ih : Result → Pos → SharedT → Res α) : Pos → SharedT → Res α := fun p s =>
  (F (Γ.enter c h p) p s).bind (fun f _ s' => ih (.ok f) p s') (fun e _ s' => ih (.error e) p s')
noncomputable def evR (t : Sem α) : Pos → SharedT → Res α :=
  Sem.rec (motive := fun _ => Pos → SharedT → Res α) (fun a p s => .ok a p s) (fun e p s => .err e p s) (fun _ _ _ => .no) (fun _ _ _ => .no)
    (fun _ _ ih => rUnit ih) (fun q _ ih => fun _ s => ih () q s)
    (fun a _ _ ih => rLoad a ih) (fun a _ f _ ih => rUpdate a f ih) (fun o _ ih => rAlloc o ih) (fun a _ ih => rLia a ih)
    (fun _ _ ih => rUnit ih) (fun _ _ _ => fun _ _ => .no) (fun _ ih => rFresh ih) (fun _ ih => ih ⟨prog, P⟩)
    (fun _ _ _ _ => fun _ _ => .no) (fun _ _ _ _ => fun _ _ => .no)
    (fun c h _ _ _ ih => rCall Γ F c h ih)
    (fun own _ ih => ih (if own then Γ.own else Γ.handled)) (fun _ _ _ => fun _ _ => .no) (fun _ _ _ => fun _ _ => .no) (fun _ _ _ _ _ => fun _ _ => .no) (fun _ _ _ _ _ => fun _ _ => .no)
    (fun _ ih => fun p s => ih ((Γ.code, p) :: Γ.below) p s) (fun _ _ _ => fun _ _ => .no) (fun _ ih => ih 0) (fun _ _ _ _ _ _ => fun _ _ => .no) t
end
def ofResult : Result → Pos → SharedT → Res Flow
  | .ok f, p, s => .ok f p s
  | .error e, p, s => .err e p s
noncomputable def evC (den : Code → Sem Fin) (prog : Program) (P : Params) (stop : Code → Bool) : Nat → Ctx → Pos → SharedT → Res Flow
  | 0 => fun _ _ _ => .no
  | n + 1 => fun Γ p s => match stop Γ.code with
    | true => .code Γ p s (fun r s' => ofResult r p s')
    | false => (evR prog P Γ (evC den prog P stop n) (den Γ.code) p s).bind
      (fun fin p' s' => match fin with
        | .done f => .ok f p' s'
        | .again c => match c.quiet with
          | true => evC den prog P stop n (Γ.goto c) p' s'
          | false => .no)
      (fun e p' s' => .err e p' s')
section
variable {prog : Program} {w : World} {stop : Code → Bool} {Γ : Ctx} {F : Ctx → Pos → SharedT → Res Flow} {α : Type}
theorem evR_sound (hF : ∀ Γ' p s R, (F Γ' p s).Sat (model prog w) (fun f _ s' => R (.ok f) s') (fun e _ s' => R (.error e) s') → wpCode (model prog w) Γ' R p s.abs)
    {Q : α → Pos → Shared → Prop} {E : Value → Pos → Shared → Prop} : ∀ (t : Sem α) (p : Pos) (s : SharedT), (evR prog w.params Γ F t p s).Sat (model prog w) Q E → Sem.wp (model prog w) Γ t Q E p s.abs := by
  intro t
  induction t with
  | pure a => exact fun p s h => h
  | raise e => exact fun p s h => h
  | unsupported | finish | register | choose | os | newGen | genState | resume | «yield» | fork | await => exact fun p s h => False.elim h
  | rule _ k ih => exact fun p s h => ih () p s h
  | «at» q k ih => exact fun p s h => ih () q s h
  | point _ k ih => exact fun p s h => ih () p s h
  | ask k ih => exact fun p s h => ih _ p s h
  | thread k ih => exact fun p s h => ih _ p s h
  | stack k ih => exact fun p s h => ih _ p s h
  | handled own k ih => exact fun p s h => ih _ p s h
  | fresh k ih => exact fun p ⟨T, n, life, gens, drawn, toks, os⟩ h => ih _ p ⟨T, n, life, gens, drawn, toks + 1, os⟩ h
  | load a q k ih =>
    intro p ⟨T, n, life, gens, drawn, toks, os⟩ h
    change Res.Sat _ Q E (rLoad a (fun x => evR prog w.params Γ F (k x)) p ⟨T, n, life, gens, drawn, toks, os⟩) at h
    simp only [rLoad] at h
    split at h
    · rename_i e
      split at h
      · rename_i o g
        split at h
        · rename_i o' al
          exact ⟨o', (abs_get (Nat.le_of_ble_eq_true e) g).trans al, ih o' p ⟨T, n, life, gens, drawn, toks, os⟩ h⟩
        · exact h.elim
      · exact h.elim
    · exact h.elim
  | update a q f k ih =>
    intro p ⟨T, n, life, gens, drawn, toks, os⟩ h
    change Res.Sat _ Q E (rUpdate a f (fun x => evR prog w.params Γ F (k x)) p ⟨T, n, life, gens, drawn, toks, os⟩) at h
    simp only [rUpdate] at h
    split at h
    · rename_i e
      split at h
      · rename_i o g
        split at h
        · rename_i o' al
          have hx := ih () p ⟨T.set a f, n, life, gens, drawn, toks, os⟩ h
          have he : SharedT.abs ⟨T.set a f, n, life, gens, drawn, toks, os⟩ = { SharedT.abs ⟨T, n, life, gens, drawn, toks, os⟩ with heap := (SharedT.abs ⟨T, n, life, gens, drawn, toks, os⟩).heap.update a f } := by
            show (⟨absHeap (T.set a f) n life, gens, drawn, toks, os⟩ : Shared) = ⟨(absHeap T n life).update a f, gens, drawn, toks, os⟩
            rw [absHeap_set g]
          rw [he] at hx
          exact ⟨by show ((absHeap T n life).get? a).isSome = true; rw [abs_get (Nat.le_of_ble_eq_true e) g, al]; rfl, hx⟩
        · exact h.elim
      · exact h.elim
    · exact h.elim
  | alloc o k ih =>
    intro p ⟨T, n, life, gens, drawn, toks, os⟩ h
    change Res.Sat _ Q E (rAlloc o (fun x => evR prog w.params Γ F (k x)) p ⟨T, n, life, gens, drawn, toks, os⟩) at h
    simp only [rAlloc] at h
    split at h
    · rename_i e
      have hx := ih n p ⟨T.ins n o, n + 1, life, gens, drawn, toks, os⟩ h
      have he : SharedT.abs ⟨T.ins n o, n + 1, life, gens, drawn, toks, os⟩ = { SharedT.abs ⟨T, n, life, gens, drawn, toks, os⟩ with heap := (SharedT.abs ⟨T, n, life, gens, drawn, toks, os⟩).heap.push o } := by
        show (⟨absHeap (T.ins n o) (n + 1) life, gens, drawn, toks, os⟩ : Shared) = ⟨(absHeap T n life).push o, gens, drawn, toks, os⟩
        rw [absHeap_ins e]
      rw [he] at hx
      have hs : (SharedT.abs ⟨T, n, life, gens, drawn, toks, os⟩).heap.objs.size = n := absHeap_size T n life
      show Sem.wp _ Γ (k (SharedT.abs ⟨T, n, life, gens, drawn, toks, os⟩).heap.objs.size) Q E p _
      rw [hs]
      exact hx
    · exact h.elim
  | loadIfAlive a k ih =>
    intro p ⟨T, n, life, gens, drawn, toks, os⟩ h
    change Res.Sat _ Q E (rLia a (fun x => evR prog w.params Γ F (k x)) p ⟨T, n, life, gens, drawn, toks, os⟩) at h
    simp only [rLia] at h
    split at h
    · rename_i e
      split at h
      · rename_i o g
        have hx := ih _ p ⟨T, n, life, gens, drawn, toks, os⟩ h
        show Sem.wp _ Γ (k ((absHeap T n life).get? a)) Q E p _
        rw [abs_get (Nat.le_of_ble_eq_true e) g]
        exact hx
      · exact h.elim
    · rename_i e
      have hx := ih _ p ⟨T, n, life, gens, drawn, toks, os⟩ h
      show Sem.wp _ Γ (k ((absHeap T n life).get? a)) Q E p _
      rw [abs_get_none (fun q => by rw [show Nat.blt a n = true from Nat.ble_eq_true_of_le q] at e; cases e)]
      exact hx
  | call c h g l k ih =>
    intro p s hx
    change Res.Sat _ Q E ((F (Γ.enter c h p) p s).bind (fun f _ s' => evR prog w.params Γ F (k (.ok f)) p s') (fun e _ s' => evR prog w.params Γ F (k (.error e)) p s')) at hx
    have hy := Res.sat_bind hx
    refine hF (Γ.enter c h p) p s (fun r s' => Sem.wp (model prog w) Γ (k r) Q E p s') (Res.sat_mono (fun f p' s' => ?_) (fun e p' s' => ?_) hy)
    · rintro ⟨S, rfl, q⟩; exact ih _ p S q
    · rintro ⟨S, rfl, q⟩; exact ih _ p S q
theorem evC_sound : ∀ (n : Nat) (Γ : Ctx) (p : Pos) (s : SharedT) (R : Result → Shared → Prop), (evC (denote table) prog w.params stop n Γ p s).Sat (model prog w) (fun f _ s' => R (.ok f) s') (fun e _ s' => R (.error e) s') → wpCode (model prog w) Γ R p s.abs
  | 0, _, _, _, _, h => h.elim
  | n + 1, Γ, p, s, R, h => by
    unfold evC at h
    split at h
    · refine wpCode_mono (fun r s' hr => ?_) h
      obtain ⟨S, rfl, q⟩ := hr
      cases r with
      | ok f => exact q
      | error e => exact q
    · refine (wpCode_iff_wp _ _ _ _ _).mpr ?_
      have hy := Res.sat_bind h
      refine evR_sound (F := evC (denote table) prog w.params stop n) (fun Γ' p s R h => evC_sound n Γ' p s R h) _ p s (Res.sat_mono (fun fin p' s' => ?_) (fun e p' s' => ?_) hy)
      · rintro ⟨S, rfl, q⟩
        cases fin with
        | done f => exact q
        | again c =>
          dsimp only at q
          split at q
          · rename_i hq
            exact ⟨hq, evC_sound n (Γ.goto c) p' S R q⟩
          · exact q.elim
      · rintro ⟨S, rfl, q⟩
        exact q
end
end Mine
end
section
open PySem PySem.W PySem.Calls PyProof.Rows
namespace Mine
set_option maxRecDepth 100000
theorem halted_from {den : Code → Sem Fin} {p : Program} {w : World} {o : Outcome} {s'' : Shared} : ∀ (n : Nat) (s : Shared) (t : Thread), runN den p w n s t = .halted o s'' → ∃ k s₁ t₁, runN den p w k s t = .running s₁ t₁ ∧ step den p w s₁ t₁ = .halt o s''
  | 0, s, t, h => by cases h
  | n + 1, s, t, h => by
    simp only [runN] at h
    cases hs : step den p w s t with
    | go s' t' =>
      rw [hs] at h
      obtain ⟨k, s₁, t₁, h1, h2⟩ := halted_from n s' t' h
      exact ⟨k + 1, s₁, t₁, by simp only [runN, hs]; exact h1, h2⟩
    | halt o' s' =>
      rw [hs] at h
      cases h
      exact ⟨0, s, t, rfl, hs⟩
theorem done_through {den : Code → Sem Fin} {p : Program} {w : World} {f : Flow} {s s'' : Shared} {t : Thread} (h : step den p w s t = .halt (.done f) s'') : through t = true := by
  obtain ⟨heap, gens, drawn, toks, os⟩ := s
  obtain ⟨cur, code, pos, stack⟩ := t
  cases cur with
  | pure fin =>
    cases fin with
    | done g =>
      cases stack with
      | nil => rfl
      | cons fr r => cases fr <;> simp [step] at h
    | again c => simp only [step] at h; cases h
  | raise e =>
    cases stack with
    | nil => simp only [step, finish] at h; split at h <;> cases h
    | cons fr r => cases fr <;> simp [step] at h
  | _ => simp only [step, finish] at h <;> (repeat' split at h) <;> simp_all
/-- a tree's weakest premise at the empty stack is a run of the schedule up to the tree's end -/
theorem top_path {p : Program} {w : World} {s₀ : Shared} {t : Sem Fin} {pos : Pos} {R : Shared → Prop} (hz : s₀.asleep)
    (h : Sem.wp (model p w) ⟨.builtin "claim.caller" {}, none, none, [], none⟩ t (fun fin _ s' => ∃ f, fin = .done f ∧ R s' ∧ s'.gens = #[]) (fun _ _ _ => False) pos s₀) :
    ∃ s₁, R s₁ ∧ s₁.gens = #[] ∧ s₁.heap.life = s₀.heap.life ∧ ∃ n t₁, schedN (denote table) p w n (.single s₀ ⟨t, .builtin "claim.caller" {}, pos, []⟩) = .running (.single s₁ t₁) ∧ through t₁ = true := by
  have h' : Sem.wp (model p w) ⟨.builtin "claim.caller" {}, none, none, [], none⟩ t (Sem.finPost (model p w) ⟨.builtin "claim.caller" {}, none, none, [], none⟩ fun r s' => ((∃ f, r = .ok f) ∧ R s' ∧ s'.gens = #[]) ∧ leftWithCleanup s'.gens = false)
      (fun e _ s' => ((∃ f, (.error e : Result) = .ok f) ∧ R s' ∧ s'.gens = #[]) ∧ leftWithCleanup s'.gens = false) pos s₀ := by
    refine Sem.wp_mono _ _ _ ?_ (fun _ _ _ z => z.elim) _ _ h
    rintro fin p' s' ⟨f, rfl, hR, hg⟩
    exact ⟨⟨⟨f, rfl⟩, hR, hg⟩, by rw [hg]; simp [leftWithCleanup]⟩
  obtain ⟨n, r, s', hn, ⟨⟨f, rfl⟩, hR, hg⟩⟩ := (wp_iff_halts (M := model p w) t (fun r s' => (∃ f, r = .ok f) ∧ R s' ∧ s'.gens = #[]) pos s₀).mp h'
  obtain ⟨s'', hr, hf, hc⟩ := runNI_real (denote table) p w hn (outcomeOf_ends (.ok f))
  have hs : s'' = s' := Shared.eq_of_forget_eq hf hg
  subst hs
  have hne : ∀ k s₂, runN (denote table) p w k s₀ ⟨t, .builtin "claim.caller" {}, pos, []⟩ ≠ .halted (.unsupported "lifetime:generator-with-cleanup-left-suspended") s₂ := by
    intro k s₂ hk
    have a := runN_mono (denote table) p w n k s₀ _ _ s'' hr
    have b := runN_mono (denote table) p w k n s₀ _ _ s₂ hk
    rw [Nat.add_comm, b] at a
    injection a with a1 _
    cases a1
  obtain ⟨k, s₁, t₁, h1, h2⟩ := halted_from n _ _ hr
  have e := step_halt_same (denote table) p w s₁ s'' t₁ _ h2
  subst e
  refine ⟨s'', hR, hg, runN_life (denote table) p w hr, k, t₁, ?_, done_through h2⟩
  rw [schedN_eq_runN (denote table) p w s₀ _ hz ⟨hc, hne⟩ k, h1]
  rfl
end Mine
end
section
open PySem PySem.W PySem.Calls PyProof.Rows
namespace Mine
set_option maxRecDepth 100000
/-- what must be known of the top's run, in a world -/
def Behind (p q : Program) (loose : List Str) (XP : (Str → Option Value) → Heap → Prop) (YP : World → Heap → Prop) (w : World) : Prop :=
  (∃ s, AfterRun (opening p) w s) ∧ ∀ s, AfterRun (opening p) w s → ∃ s₀, fenceModules? p s = some s₀ ∧ s₀.gens = #[] ∧ ∃ s₁, TopRan p w s₀ s₁ ∧ s₁.asleep ∧ s₁.gens = #[] ∧ s₁.heap.isNs mainGlobals = true ∧
    Ground q loose [] XP w s₁ (s₁.heap.nsMap mainGlobals) (s₁.heap.nsMap builtinsNs) s₁.heap ∧ YP w s₁.heap
/-- a law over no tables holds, when every world's top is known and the call is walked -/
theorem holds_behind {r : OpenRow} {q : Program} {loose : List Str} {XP : (Str → Option Value) → Heap → Prop} {YP : World → Heap → Prop} {d : DefRec} {kwd : List (Str × Expr)}
    (top : ∀ w, Behind r.prog q loose XP YP w) (hrec : r.records = []) (hYk : ∀ w h h', YP w h → (∀ b o, h.get? b = some o → h'.get? b = some o) → YP w h') (hXk : ∀ mg h h', XP mg h → (∀ b o, h.get? b = some o → h'.get? b = some o) → XP mg h')
    (hdef : defOf q r.name = some (d, kwd)) (hp : r.prog.theDef r.name = some (d.params, d.body, d.scope)) (hk : kwWritten? d.params.kwonlyargs d.params.kw_defaults = some kwd)
    (k1 : r.wellSaid = true) (ok : (chainsOk q && opensWell r.prog && (frees r.toRowW && r.within.isEmpty)) = true) (hb : r.prog.bare) (hw : r.toRowW.promised)
    (call : WalkO q loose XP YP r.toRowW d kwd fun f vs => PySem.call f vs) : r.Holds := by
  obtain ⟨ok1, ok2⟩ := Bool.and_eq_true_iff.mp ok
  obtain ⟨_, o1⟩ := Bool.and_eq_true_iff.mp ok1
  obtain ⟨k5, k6⟩ := Bool.and_eq_true_iff.mp ok2
  obtain ⟨hsame, hu, ha, hap, hm⟩ := frees_parts k5
  have hwr : (!r.writes || r.toRowW.records.isEmpty) = true := by rw [show r.toRowW.records = [] from hrec]; simp
  refine ⟨k1, hw, ⟨hb, o1, by show r.makers.map _ = []; rw [hm]; rfl⟩, hw.witness, fun w => ⟨(top w).1, fun s' hs' => ?_⟩⟩
  obtain ⟨s₀, hf, _, s, hT, hz, hgens, hg, G0, y⟩ := (top w).2 s' hs'
  have RF : RecFacts r.toRowW.records s.heap := recFacts_nil hrec
  have defs : ∀ n ∈ (if r.pinned then [r.name] else []), isTheDefsW r.prog s.heap n := fun n hn => by
    obtain rfl : n = r.name := by split at hn <;> simp_all
    exact pinned_of_view hg G0 hdef hp hk
  refine ⟨s₀, hf, by assumption, s, hT, defs, RF.1, RF.2.1, ?_⟩
  have G : Ground q loose r.toRowW.records XP w s _ _ s.heap := RF.ground G0
  refine ClaimW.callFrom_of_specG (c := r.toRowW.claim) hz hgens fun args hpre hlay ord hord => ?_
  obtain ⟨⟨vs, s₁⟩, hlaid⟩ := Option.isSome_iff_exists.mp (layAllW_isSome (P := w.params) (ord := ord) G.has args r.args s (pre_splitW hpre).1)
  have keeps := layAllW_keeps _ _ _ hlaid
  have hal := layAllW_rest _ _ _ hlaid
  obtain ⟨as, hrd, hin, hold⟩ := reads_layAllW hord _ _ _ hlaid hlay s₁.heap (fun _ _ e => e)
  have L : Laid r.toRowW.records w s s₁ args vs as := ⟨⟨ord, hord, hlaid⟩, hrd, hin, hold, keeps, hal.1.trans hgens, hal.2.2.1⟩
  have G₁ := G.keeps hXk keeps
  obtain ⟨a, o, pm, cd, doc, dV, kV, h1, h2, h3, h4, h5⟩ := G₁.fn hdef
  have hc := call w s s₁ _ _ G₁ (hYk _ _ _ y keeps) a o pm cd doc dV kV h2 h3 h4 h5 (defOf_name hdef ▸ h1) L.gens args vs as hpre hlay L.reads L.well (L.low G.low)
  have hi := ident_freeW hu ha hap
  have hwi : r.toRowW.claim.within = [] := List.isEmpty_iff.mp k6
  refine ⟨vs, s₁, hlaid, wpAny_bind (wpAny_nsGet G₁.T.g ?_)⟩
  rw [show s.heap.nsMap mainGlobals r.name = some (.ref a) from h1]
  refine wpAny_bind (wpAny_mono hc (fun v s'' g => wpAny_pure ?_) (fun e s'' g => ?_))
  · have z := g.laid (c := r.toRowW.claim) hsame hwi hi L
    exact ⟨_, rfl, z.1, z.2.1, z.2.2, fun q => ⟨namesKept_of hT hg r.keeps keeps g.2.1.old, noTable hwr q⟩⟩
  · have z := g.laid (c := r.toRowW.claim) hsame hwi hi L
    exact ⟨z.1, z.2.1, z.2.2, fun q => ⟨namesKept_of hT hg r.keeps keeps g.2.1.old, noTable hwr q⟩⟩
end Mine
end
section
open PySem PySem.W PyProof.Rows
set_option Elab.async false
set_option maxRecDepth 100000
namespace Mine
noncomputable def env0 : Env := { scope := prog0.main.scope, locals := mainNs, globals := mainNs, cells := [], code := .ref 13, frame := some 14 }
noncomputable def ctx0 : Ctx := ⟨.builtin "claim.caller" {}, none, none, [], none⟩
noncomputable def ctx1 : Ctx := ctx0.enter (.body body0 env0) none default
def never (_ : Code) : Bool := false
noncomputable def runG (pr : Program) (Γ : Ctx) (e0 : Env) (stop : Code → Bool) (fuel : Nat) (P : Params) (l : List Stmt) (p : Pos) (s : SharedT) : Res Flow := evR pr P Γ (evC (denote treeTable) pr P stop fuel) (execs l e0) p s
theorem runG_rfl : runG = runG := rfl
name_quick runQ for Mine.runG by Mine.runG_rfl
noncomputable def runL (stop : Code → Bool) (fuel : Nat) (P : Params) (l : List Stmt) (p : Pos) (s : SharedT) : Res Flow := runG prog0 ctx1 env0 stop fuel P l p s
theorem g8 : ∀ (P : Params) (g : Nat → Obj) (os : OsState), runL never 60 P ((body0.drop 0).take 9) posb (Sb g P os) = .ok .next pos8 (S8 g P os) := by
  unfold runL
  rw [PySem.W.Fast.runQ_eq]
  intro P g os
  kernel_rfl
theorem g30 : ∀ (P : Params) (g : Nat → Obj) (os : OsState), runL never 60 P ((body0.drop 10).take 21) pos9 (S9 g P os) = .ok .next pos30 (S30 g P os) := by
  unfold runL
  rw [PySem.W.Fast.runQ_eq]
  intro P g os
  kernel_rfl
theorem g55 : ∀ (P : Params) (g : Nat → Obj) (os : OsState), runL never 60 P ((body0.drop 34).take 22) pos33 (S33 g P os) = .ok .next pos55 (S55 g P os) := by
  unfold runL
  rw [PySem.W.Fast.runQ_eq]
  intro P g os
  kernel_rfl
theorem g71 : ∀ (P : Params) (g : Nat → Obj) (os : OsState), runL never 60 P ((body0.drop 59).take 13) pos58 (S58 g P os) = .ok .next pos71 (S71 g P os) := by
  unfold runL
  rw [PySem.W.Fast.runQ_eq]
  intro P g os
  kernel_rfl
theorem g74 : ∀ (P : Params) (g : Nat → Obj) (os : OsState), runL never 60 P ((body0.drop 72).take 3) pos71 (S71 g P os) = .ok .next pos74 (S74 g P os) := by
  unfold runL
  rw [PySem.W.Fast.runQ_eq]
  intro P g os
  kernel_rfl
theorem g75 : ∀ (P : Params) (g : Nat → Obj) (os : OsState), runL never 60 P ((body0.drop 75).take 1) pos74 (S74 g P os) = .ok .next pos75 (S75 g P os) := by
  unfold runL
  rw [PySem.W.Fast.runQ_eq]
  intro P g os
  kernel_rfl
theorem g77 : ∀ (P : Params) (g : Nat → Obj) (os : OsState), runL never 60 P ((body0.drop 76).take 2) pos75 (S75 g P os) = .ok .next pos77 (S77 g P os) := by
  unfold runL
  rw [PySem.W.Fast.runQ_eq]
  intro P g os
  kernel_rfl
theorem g78 : ∀ (P : Params) (g : Nat → Obj) (os : OsState), runL never 60 P ((body0.drop 78).take 1) pos77 (S77 g P os) = .ok .next pos78 (S78 g P os) := by
  unfold runL
  rw [PySem.W.Fast.runQ_eq]
  intro P g os
  kernel_rfl
theorem g86 : ∀ (P : Params) (g : Nat → Obj) (os : OsState), runL never 60 P ((body0.drop 79).take 8) pos78 (S78 g P os) = .ok .next pos86 (S86 g P os) := by
  unfold runL
  rw [PySem.W.Fast.runQ_eq]
  intro P g os
  kernel_rfl
end Mine
end
section
open PySem PySem.W PyProof.Rows
set_option Elab.async false
set_option maxRecDepth 100000
namespace Mine
abbrev rowW (w : World) (b1 b2 : Bool) : World := (w.withFollow "special-get-raises" b1).withFollow "comprehension-iter-twice" b2
/-- the halts in a statement that fills a dict out of a comprehension -/
def atDict : Code → Bool
  | .compLoop .. => true
  | .call (.type t) _ => t == "dict"
  | _ => false
noncomputable def hCtx : Res Flow → Ctx
  | .code Γ _ _ _ => Γ
  | _ => ctx0
def hPos : Res Flow → Pos
  | .code _ p _ _ => p
  | _ => default
def hSt : Res Flow → SharedT
  | .code _ _ s _ => s
  | _ => ⟨.nil, 0, {}, #[], {}, 0, {}⟩
noncomputable def runCG (pr : Program) (stop : Code → Bool) (fuel : Nat) (P : Params) (Γ : Ctx) (p : Pos) (s : SharedT) : Res Flow := evC (denote treeTable) pr P stop fuel Γ p s
theorem runCG_rfl : runCG = runCG := rfl
name_quick runCQ for Mine.runCG by Mine.runCG_rfl
noncomputable def runC (stop : Code → Bool) (fuel : Nat) (P : Params) (Γ : Ctx) (p : Pos) (s : SharedT) : Res Flow := runCG prog0 stop fuel P Γ p s
end Mine
end
section
open PySem PySem.W PySem.Calls PyProof.Rows
set_option maxRecDepth 100000
namespace Mine
theorem runC_wp {w : World} {stop : Code → Bool} {n : Nat} {Γ : Ctx} {p : Pos} {s : SharedT} {R : Result → Shared → Prop}
    (h : (runC stop n w.params Γ p s).Sat (model prog0 w) (fun f _ s' => R (.ok f) s') (fun e _ s' => R (.error e) s')) : wpCode (model prog0 w) Γ R p s.abs := by
  unfold runC runCG at h
  rw [← table_eq_tree] at h
  exact evC_sound n Γ p s R h
theorem runL_wp {w : World} {stop : Code → Bool} {n : Nat} {l : List Stmt} {p : Pos} {s : SharedT} {Q : Flow → Pos → Shared → Prop} {E : Value → Pos → Shared → Prop}
    (h : (runL stop n w.params l p s).Sat (model prog0 w) Q E) : Sem.wp (model prog0 w) ctx1 (execs l env0) Q E p s.abs := by
  unfold runL runG at h
  rw [← table_eq_tree] at h
  exact evR_sound (F := evC (denote table) prog0 w.params stop n) (fun Γ' p s R h => evC_sound n Γ' p s R h) _ p s h
/-- what a group of statements comes to -/
def Comes (w : World) (l : List Stmt) (p : Pos) (s : SharedT) (p' : Pos) (s' : SharedT) : Prop :=
  Sem.wp (model prog0 w) ctx1 (execs l env0) (fun f q t => f = .next ∧ q = p' ∧ t = s'.abs) (fun _ _ _ => False) p s.abs
theorem comes_of {w : World} {stop : Code → Bool} {n : Nat} {l : List Stmt} {p p' : Pos} {s s' : SharedT} (h : runL stop n w.params l p s = .ok .next p' s') : Comes w l p s p' s' := by
  refine runL_wp (stop := stop) (n := n) ?_
  rw [h]
  exact ⟨rfl, rfl, rfl⟩
theorem row_self (w : World) : rowW w (w.params.followText "special-get-raises") (w.params.followText "comprehension-iter-twice") = w := by
  unfold rowW
  rw [World.withFollow_self, World.withFollow_self]
theorem dict_comes {w : World} {l : List Stmt} {p p' q : Pos} {s s' m n : SharedT} {v : Value} {r : Res Flow} {Γ Γ2 : Ctx} {p1 p2 : Pos} {s1 s2 : SharedT} (hr : runL atDict 60 w.params l p s = r) (A : r.head = some (Γ, p1, s1)) (B : runC never 400 w.params Γ p1 s1 = .ok .next q m)
    (C : (r.kont (.ok .next) m).head = some (Γ2, p2, s2)) (D : ∃ q2, runC never 400 w.params Γ2 p2 s2 = .ok (.ret v) q2 n) (X : (r.kont (.ok .next) m).kont (.ok (.ret v)) n = .ok .next p' s') : Comes w l p s p' s' := by
  refine runL_wp (stop := atDict) (n := 60) ?_
  rw [hr]
  refine Res.sat_of_head A (runC_wp (stop := never) (n := 400) ?_)
  rw [B]
  refine ⟨m, rfl, Res.sat_of_head C (runC_wp (stop := never) (n := 400) ?_)⟩
  obtain ⟨q2, D⟩ := D
  rw [D]
  refine ⟨n, rfl, ?_⟩
  rw [X]
  exact ⟨rfl, rfl, rfl⟩
/-- groups one behind the other -/
theorem Comes.trans {w : World} {p p' p'' : Pos} {s s' s'' : SharedT} {l₂ : List Stmt} (k : Comes w l₂ p' s' p'' s'') : ∀ {l₁ : List Stmt}, Comes w l₁ p s p' s' → Comes w (l₁ ++ l₂) p s p'' s'' := by
  have key : ∀ (l₁ : List Stmt) (Q : Flow → Pos → Shared → Prop) (p : Pos) (t : Shared), Sem.wp (model prog0 w) ctx1 (execs l₁ env0) (fun f q u => f = .next ∧ q = p' ∧ u = s'.abs) (fun _ _ _ => False) p t →
      Sem.wp (model prog0 w) ctx1 (execs l₂ env0) Q (fun _ _ _ => False) p' s'.abs → Sem.wp (model prog0 w) ctx1 (execs (l₁ ++ l₂) env0) Q (fun _ _ _ => False) p t := by
    intro l₁
    induction l₁ with
    | nil =>
      intro Q p t h1 h2
      have h1' : (Flow.next : Flow) = .next ∧ p = p' ∧ t = s'.abs := h1
      obtain ⟨_, rfl, rfl⟩ := h1'
      exact h2
    | cons st l ih =>
      intro Q p t h1 h2
      rw [List.cons_append]
      rw [execs] at h1 ⊢
      rw [Sem.wp_bind'] at h1 ⊢
      refine Sem.wp_mono _ _ _ (fun f q u hq => ?_) (fun _ _ _ z => z) _ _ h1
      cases f with
      | next => exact ih Q q u hq h2
      | _ =>
        obtain ⟨e, _⟩ := hq
        cases e
  intro l₁ h
  exact key l₁ _ p s.abs h k
end Mine
end
section
open PySem PySem.W PySem.Calls PyProof.Rows
set_option Elab.async false
set_option maxRecDepth 100000
namespace Mine
def isBody : Code → Bool
  | .body .. => true
  | _ => false
noncomputable def S0 (g : Nat → Obj) (P : Params) (os : OsState) : SharedT := ⟨trb g P, 11, {}, #[], {}, 181, os⟩
noncomputable def runTG (pr : Program) (P : Params) (s : SharedT) : Res Fin := evR pr P ctx0 (evC (denote treeTable) pr P isBody 40) (topStub pr).cur default s
theorem runTG_rfl : runTG = runTG := rfl
name_quick runTQ for Mine.runTG by Mine.runTG_rfl
noncomputable def runT (P : Params) (s : SharedT) : Res Fin := runTG prog0 P s
theorem T1 : ∀ (P : Params) (g : Nat → Obj) (os : OsState), (runT P (S0 g P os)).head = some (ctx1, default, Sb g P os) := by
  unfold runT
  rw [PySem.W.Fast.runTQ_eq]
  intro P g os
  kernel_rfl
theorem T2 : ∀ (P : Params) (g g' : Nat → Obj) (os : OsState), ∃ p, (runT P (S0 g P os)).kont (.ok .next) (S86 g' P os) = .ok (.done (.ret .none)) p (S86 g' P os) := by
  unfold runT
  rw [PySem.W.Fast.runTQ_eq]
  intro P g g' os
  exact ⟨default, by kernel_rfl⟩
theorem S0_boot (P : Params) (g : Nat → Obj) (os : OsState) : (S0 g P os).abs = ⟨boot_heap P, #[], boot_drawn, boot_toks, os⟩ := by
  kernel_rfl
end Mine
end
section
open PySem PySem.W PySem.Calls PyProof.Rows
set_option Elab.async false
set_option maxRecDepth 100000
namespace Mine
theorem block_none : blockStart body0 env0 = pure () := by kernel_rfl
theorem body_code {w : World} {s s' : SharedT} {p' : Pos} (h : Comes w body0 default s p' s') : wpCode (model prog0 w) ctx1 (fun r t => r = .ok .next ∧ t = s'.abs) default s.abs := by
  refine (wpCode_iff_wp _ _ _ _ _).mpr ?_
  show Sem.wp (model prog0 w) ctx1 (blockStart body0 env0 >>= fun _ => ((execs body0 env0).onRaise (leaving env0)) >>= fun f => (Pure.pure (Fin.done f) : Sem Fin)) _ _ _ _
  rw [block_none, Sem.wp_bind', Sem.wp_pure', Sem.wp_bind', Sem.wp_onRaise]
  refine Sem.wp_mono _ _ _ (fun f q t hq => ?_) (fun _ _ _ z => z.elim) _ _ h
  obtain ⟨rfl, rfl, rfl⟩ := hq
  rw [Sem.wp_pure']
  exact ⟨rfl, rfl⟩
theorem top_wp {w : World} {g g' : Nat → Obj} {os : OsState} {p' : Pos} (h : Comes w body0 default (Sb g w.params os) p' (S86 g' w.params os)) :
    Sem.wp (model prog0 w) ctx0 (topStub prog0).cur (fun fin _ t => ∃ f, fin = .done f ∧ t = (S86 g' w.params os).abs ∧ t.gens = #[]) (fun _ _ _ => False) default (S0 g w.params os).abs := by
  have key : (runT w.params (S0 g w.params os)).Sat (model prog0 w) (fun fin _ t => ∃ f, fin = .done f ∧ t = (S86 g' w.params os).abs ∧ t.gens = #[]) (fun _ _ _ => False) := by
    refine Res.sat_of_head (T1 w.params g os) (wpCode_mono (fun r t ht => ?_) (body_code h))
    obtain ⟨rfl, rfl⟩ := ht
    obtain ⟨p, e⟩ := T2 w.params g g' os
    refine ⟨S86 g' w.params os, rfl, ?_⟩
    rw [e]
    exact ⟨_, rfl, rfl, rfl⟩
  unfold runT runTG at key
  rw [← table_eq_tree] at key
  exact evR_sound (F := evC (denote table) prog0 w.params isBody 40) (fun Γ' p s R h => evC_sound 40 Γ' p s R h) _ _ _ key
noncomputable def opensAs (pr : Program) (w : World) : Option (Heap × Array GenState × Drawn × Nat) := (fencedOpening treeTable pr w 800).map (fun s => (s.heap, s.gens, s.drawn, s.toks))
theorem opensAs_rfl : opensAs = opensAs := rfl
name_quick opensQ for Mine.opensAs by Mine.opensAs_rfl
theorem opens : ∀ w : World, (fencedOpening treeTable prog0 w 800).map (fun s => (s.heap, s.gens, s.drawn, s.toks)) = some (boot_heap w.params, #[], boot_drawn, boot_toks) := by
  show ∀ w, opensAs prog0 w = _
  rw [PySem.W.Fast.opensQ_eq]
  intro w
  kernel_rfl
/-- the start of the top, in every world -/
theorem opened (w : World) : ∃ s, AfterRun (opening prog0) w s ∧ ∃ os, fenceModules? prog0 s = some ⟨boot_heap w.params, #[], boot_drawn, boot_toks, os⟩ ∧ s.heap.life.registered = [] ∧ s.heap.life.counting = false := by
  have h := opens w
  obtain ⟨s₀, h2, e⟩ := Option.map_eq_some_iff.mp h
  unfold fencedOpening at h2
  rw [← table_eq_tree] at h2
  obtain ⟨s, h4, h5⟩ := Option.bind_eq_some_iff.mp h2
  have A := AfterImport.of_importEnds h4
  obtain ⟨hp, gs, d, k, os⟩ := s₀
  simp only [Prod.mk.injEq] at e
  obtain ⟨rfl, rfl, rfl, rfl⟩ := e
  exact ⟨s, A, os, h5, A.life.1, A.life.2⟩
end Mine
end
section
open PySem PySem.W PySem.Calls PyProof.Rows
set_option Elab.async false
set_option maxRecDepth 100000
namespace Mine
noncomputable def idx0 : List Nat := [0, 2, 3, 4, 5, 6, 8, 9, 11, 13, 15, 16, 17, 18, 19, 20, 21, 22, 23, 25, 26, 27, 28, 29, 30, 31, 32, 33, 35, 37, 39, 41, 43, 44, 45, 46, 47, 49, 50, 51, 52, 53, 54, 55, 56, 57, 58, 59, 61, 63, 64, 65, 66, 68, 70, 71, 72, 74, 75, 76, 78, 79, 80, 81, 84, 85, 86]
noncomputable def view0 : Program := view prog0 idx0
noncomputable def loose0 : List Str := [Str.ofString "BYTES_TO_BITS", Str.ofString "int_to_words", Str.ofString "int_to_words_strategy", Str.ofString "int_to_bits", Str.ofString "int_to_bits_strategy", Str.ofString "max_int_ipv4", Str.ofString "num_words_ipv4", Str.ofString "prefix_to_netmask_ipv4", Str.ofString "netmask_to_prefix_ipv4", Str.ofString "hostmask_to_prefix_ipv4", Str.ofString "str_to_int", Str.ofString "str_to_int_ipv4", Str.ofString "int_to_str", Str.ofString "int_to_str_ipv4", Str.ofString "int_to_packed_ipv4", Str.ofString "int_to_words_ipv4", Str.ofString "int_to_bits_ipv4", Str.ofString "expand_partial_address_ipv4", Str.ofString "Ipv4Names", Str.ofString "ipv4_ipv4", Str.ofString "max_int_ipv6", Str.ofString "num_words_ipv6", Str.ofString "prefix_to_netmask_ipv6", Str.ofString "netmask_to_prefix_ipv6", Str.ofString "hostmask_to_prefix_ipv6", Str.ofString "ipv6_compact", Str.ofString "str_to_int_ipv6", Str.ofString "int_to_str_ipv6", Str.ofString "int_to_packed_ipv6", Str.ofString "int_to_words_ipv6", Str.ofString "int_to_bits_ipv6", Str.ofString "Ipv6Names", Str.ofString "ipv6_ipv6", Str.ofString "BaseIP", Str.ofString "IPAddress", Str.ofString "IPListMixin", Str.ofString "parse_ip_network", Str.ofString "IPNetwork", Str.ofString "IPRange", Str.ofString "iter_iprange"]
noncomputable def lv0 : List (Str × WData) := [(Str.ofString "max_int_ipv4", .int 4294967295), (Str.ofString "num_words_ipv4", .int 4), (Str.ofString "max_int_ipv6", .int 340282366920938463463374607431768211455), (Str.ofString "num_words_ipv6", .int 8)]
noncomputable def Xt0 (s : Shared) : Bool := xlAt view0 lv0 s && recOk [] s
noncomputable def mods0 : List Str := importedModules prog0.main.body
noncomputable def lookAG (pr : Program) (mods : List Str) (P : Params) (s₁ : Shared) : Bool := staticsOk mods (boot_heap P) s₁.heap && namesBound pr s₁.heap && gensDone s₁ && laidKept (boot_heap P) s₁.heap
noncomputable def lookA (P : Params) (s₁ : Shared) : Bool := lookAG prog0 mods0 P s₁
theorem lookA_true : ∀ (P : Params) (g : Nat → Obj) (os : OsState), lookA P (S86 g P os).abs = true := by
  unfold lookA lookAG
  intro P g os
  kernel_rfl
noncomputable def lookBG (pr : Program) (idx : List Nat) (loose : List Str) (lv : List (Str × WData)) (mods : List Str) (s₁ : Shared) := openSeen (view pr idx) loose mods (fun s => xlAt (view pr idx) lv s && recOk [] s) true s₁
theorem lookBG_rfl : lookBG = lookBG := rfl
name_quick lookBQ for Mine.lookBG by Mine.lookBG_rfl
noncomputable def goodBG (pr : Program) (idx : List Nat) (loose : List Str) := openGood (view pr idx) loose
noncomputable def lookB (s₁ : Shared) := lookBG prog0 idx0 loose0 lv0 mods0 s₁
noncomputable def goodB := goodBG prog0 idx0 loose0
theorem lookB_good : ∀ (P : Params) (g : Nat → Obj) (os : OsState), lookB (S86 g P os).abs = goodB := by
  unfold lookB goodB goodBG
  rw [PySem.W.Fast.lookBQ_eq]
  intro P g os
  kernel_rfl
end Mine
end
section
open PySem PySem.W PySem.Calls PyProof.Rows
set_option Elab.async false
set_option maxRecDepth 100000
namespace Mine
noncomputable def K0 : Params → Frag := fun P => (nat_lit 2, o2 P) :: (nat_lit 3, o3 P) :: (nat_lit 15, o15 P) :: (nat_lit 17, o17 P) :: (nat_lit 18, o18 P) :: (nat_lit 20, o20 P) :: (nat_lit 21, o21 P) :: (nat_lit 22, o22 P) :: (nat_lit 29, o29 P) :: (nat_lit 30, o30 P) :: (nat_lit 31, o31 P) :: (nat_lit 32, o32 P) :: (nat_lit 1329, o1329 P) :: (nat_lit 1331, o1331 P) :: (nat_lit 1332, o1332 P) :: (nat_lit 1334, o1334 P) :: (nat_lit 1335, o1335 P) :: (nat_lit 1336, o1336 P) :: (nat_lit 1337, o1337 P) :: (nat_lit 1339, o1339 P) :: (nat_lit 1340, o1340 P) :: (nat_lit 1342, o1342 P) :: (nat_lit 1343, o1343 P) :: (nat_lit 1344, o1344 P) :: (nat_lit 1346, o1346 P) :: (nat_lit 1347, o1347 P) :: (nat_lit 1349, o1349 P) :: (nat_lit 1350, o1350 P) :: (nat_lit 1351, o1351 P) :: (nat_lit 1353, o1353 P) :: (nat_lit 1354, o1354 P) :: (nat_lit 1356, o1356 P) :: (nat_lit 1357, o1357 P) :: (nat_lit 1358, o1358 P) :: (nat_lit 1361, o1361 P) :: (nat_lit 1362, o1362 P) :: (nat_lit 1363, o1363 P) :: (nat_lit 1366, o1366 P) :: (nat_lit 1367, o1367 P) :: (nat_lit 1368, o1368 P) :: (nat_lit 1371, o1371 P) :: (nat_lit 1372, o1372 P) :: (nat_lit 1373, o1373 P) :: (nat_lit 1375, o1375 P) :: (nat_lit 1376, o1376 P) :: (nat_lit 1378, o1378 P) :: (nat_lit 1379, o1379 P) :: (nat_lit 1380, o1380 P) :: (nat_lit 1382, o1382 P) :: (nat_lit 1383, o1383 P) :: (nat_lit 1385, o1385 P) :: (nat_lit 1386, o1386 P) :: (nat_lit 1426, o1426 P) :: (nat_lit 1471, o1471 P) :: (nat_lit 1516, o1516 P) :: (nat_lit 1522, o1522 P) :: (nat_lit 1523, o1523 P) :: (nat_lit 1526, o1526 P) :: (nat_lit 1527, o1527 P) :: (nat_lit 1528, o1528 P) :: (nat_lit 1529, o1529 P) :: (nat_lit 1531, o1531 P) :: (nat_lit 1532, o1532 P) :: (nat_lit 1534, o1534 P) :: (nat_lit 1535, o1535 P) :: (nat_lit 1536, o1536 P) :: (nat_lit 1538, o1538 P) :: (nat_lit 1539, o1539 P) :: (nat_lit 1541, o1541 P) :: (nat_lit 1542, o1542 P) :: (nat_lit 1543, o1543 P) :: (nat_lit 1545, o1545 P) :: (nat_lit 1546, o1546 P) :: (nat_lit 1548, o1548 P) :: (nat_lit 1549, o1549 P) :: (nat_lit 1550, o1550 P) :: (nat_lit 1551, o1551 P) :: (nat_lit 1553, o1553 P) :: (nat_lit 1554, o1554 P) :: (nat_lit 1556, o1556 P) :: (nat_lit 1557, o1557 P) :: (nat_lit 1558, o1558 P) :: (nat_lit 1561, o1561 P) :: (nat_lit 1562, o1562 P) :: (nat_lit 1563, o1563 P) :: (nat_lit 1570, o1570 P) :: (nat_lit 1572, o1572 P) :: (nat_lit 1573, o1573 P) :: (nat_lit 1575, o1575 P) :: (nat_lit 1576, o1576 P) :: (nat_lit 1577, o1577 P) :: (nat_lit 1578, o1578 P) :: (nat_lit 1580, o1580 P) :: (nat_lit 1581, o1581 P) :: (nat_lit 1583, o1583 P) :: (nat_lit 1584, o1584 P) :: (nat_lit 1585, o1585 P) :: (nat_lit 1586, o1586 P) :: (nat_lit 1588, o1588 P) :: (nat_lit 1589, o1589 P) :: (nat_lit 1591, o1591 P) :: (nat_lit 1592, o1592 P) :: (nat_lit 1593, o1593 P) :: (nat_lit 1595, o1595 P) :: (nat_lit 1596, o1596 P) :: (nat_lit 1598, o1598 P) :: (nat_lit 1599, o1599 P) :: (nat_lit 1600, o1600 P) :: (nat_lit 1602, o1602 P) :: (nat_lit 1603, o1603 P) :: (nat_lit 1605, o1605 P) :: (nat_lit 1606, o1606 P) :: (nat_lit 1607, o1607 P) :: (nat_lit 1609, o1609 P) :: (nat_lit 1610, o1610 P) :: (nat_lit 1612, o1612 P) :: (nat_lit 1613, o1613 P) :: (nat_lit 1614, o1614 P) :: (nat_lit 1615, o1615 P) :: (nat_lit 1617, o1617 P) :: (nat_lit 1618, o1618 P) :: (nat_lit 1620, o1620 P) :: (nat_lit 1621, o1621 P) :: (nat_lit 1622, o1622 P) :: (nat_lit 1624, o1624 P) :: (nat_lit 1625, o1625 P) :: (nat_lit 1627, o1627 P) :: (nat_lit 1628, o1628 P) :: (nat_lit 1629, o1629 P) :: (nat_lit 1631, o1631 P) :: (nat_lit 1632, o1632 P) :: (nat_lit 1634, o1634 P) :: (nat_lit 1635, o1635 P) :: (nat_lit 1636, o1636 P) :: (nat_lit 1637, o1637 P) :: (nat_lit 1638, o1638 P) :: (nat_lit 1639, o1639 P) :: (nat_lit 1640, o1640 P) :: (nat_lit 1643, o1643 P) :: (nat_lit 1644, o1644 P) :: (nat_lit 1781, o1781 P) :: (nat_lit 1922, o1922 P) :: (nat_lit 2063, o2063 P) :: (nat_lit 2069, o2069 P) :: (nat_lit 2076, o2076 P) :: (nat_lit 2077, o2077 P) :: (nat_lit 2078, o2078 P) :: (nat_lit 2079, o2079 P) :: (nat_lit 2080, o2080 P) :: (nat_lit 2083, o2083 P) :: (nat_lit 2084, o2084 P) :: (nat_lit 2086, o2086 P) :: (nat_lit 2087, o2087 P) :: (nat_lit 2089, o2089 P) :: (nat_lit 2090, o2090 P) :: (nat_lit 2091, o2091 P) :: (nat_lit 2092, o2092 P) :: (nat_lit 2095, o2095 P) :: (nat_lit 2096, o2096 P) :: (nat_lit 2097, o2097 P) :: (nat_lit 2100, o2100 P) :: (nat_lit 2101, o2101 P) :: (nat_lit 2102, o2102 P) :: (nat_lit 2105, o2105 P) :: (nat_lit 2106, o2106 P) :: (nat_lit 2107, o2107 P) :: (nat_lit 2108, o2108 P) :: (nat_lit 2110, o2110 P) :: (nat_lit 2111, o2111 P) :: (nat_lit 2113, o2113 P) :: (nat_lit 2114, o2114 P) :: (nat_lit 2115, o2115 P) :: (nat_lit 2116, o2116 P) :: (nat_lit 2118, o2118 P) :: (nat_lit 2119, o2119 P) :: (nat_lit 2121, o2121 P) :: (nat_lit 2122, o2122 P) :: (nat_lit 2123, o2123 P) :: (nat_lit 2130, o2130 P) :: (nat_lit 2132, o2132 P) :: (nat_lit 2133, o2133 P) :: (nat_lit 2135, o2135 P) :: (nat_lit 2136, o2136 P) :: (nat_lit 2137, o2137 P) :: (nat_lit 2138, o2138 P) :: (nat_lit 2140, o2140 P) :: (nat_lit 2141, o2141 P) :: (nat_lit 2143, o2143 P) :: (nat_lit 2144, o2144 P) :: (nat_lit 2145, o2145 P) :: (nat_lit 2146, o2146 P) :: (nat_lit 2148, o2148 P) :: (nat_lit 2149, o2149 P) :: (nat_lit 2151, o2151 P) :: (nat_lit 2152, o2152 P) :: (nat_lit 2153, o2153 P) :: (nat_lit 2155, o2155 P) :: (nat_lit 2156, o2156 P) :: (nat_lit 2158, o2158 P) :: (nat_lit 2159, o2159 P) :: (nat_lit 2160, o2160 P) :: (nat_lit 2162, o2162 P) :: (nat_lit 2163, o2163 P) :: (nat_lit 2165, o2165 P) :: (nat_lit 2166, o2166 P) :: (nat_lit 2167, o2167 P) :: (nat_lit 2169, o2169 P) :: (nat_lit 2170, o2170 P) :: (nat_lit 2172, o2172 P) :: (nat_lit 2173, o2173 P) :: (nat_lit 2174, o2174 P) :: (nat_lit 2175, o2175 P) :: (nat_lit 2177, o2177 P) :: (nat_lit 2178, o2178 P) :: (nat_lit 2180, o2180 P) :: (nat_lit 2181, o2181 P) :: (nat_lit 2182, o2182 P) :: (nat_lit 2184, o2184 P) :: (nat_lit 2185, o2185 P) :: (nat_lit 2187, o2187 P) :: (nat_lit 2188, o2188 P) :: (nat_lit 2189, o2189 P) :: (nat_lit 2190, o2190 P) :: (nat_lit 2191, o2191 P) :: (nat_lit 2192, o2192 P) :: (nat_lit 2193, o2193 P) :: (nat_lit 2196, o2196 P) :: (nat_lit 2197, o2197 P) :: (nat_lit 2199, o2199 P) :: (nat_lit 2206, o2206 P) :: (nat_lit 2208, o2208 P) :: (nat_lit 2209, o2209 P) :: (nat_lit 2211, o2211 P) :: (nat_lit 2212, o2212 P) :: (nat_lit 2213, o2213 P) :: (nat_lit 2215, o2215 P) :: (nat_lit 2216, o2216 P) :: (nat_lit 2218, o2218 P) :: (nat_lit 2219, o2219 P) :: (nat_lit 2220, o2220 P) :: (nat_lit 2222, o2222 P) :: (nat_lit 2223, o2223 P) :: (nat_lit 2225, o2225 P) :: (nat_lit 2226, o2226 P) :: (nat_lit 2229, o2229 P) :: (nat_lit 2231, o2231 P) :: (nat_lit 2232, o2232 P) :: (nat_lit 2234, o2234 P) :: (nat_lit 2235, o2235 P) :: (nat_lit 2236, o2236 P) :: (nat_lit 2237, o2237 P) :: (nat_lit 2239, o2239 P) :: (nat_lit 2240, o2240 P) :: (nat_lit 2242, o2242 P) :: (nat_lit 2243, o2243 P) :: (nat_lit 2244, o2244 P) :: (nat_lit 2246, o2246 P) :: (nat_lit 2247, o2247 P) :: (nat_lit 2249, o2249 P) :: (nat_lit 2250, o2250 P) :: (nat_lit 2251, o2251 P) :: (nat_lit 2253, o2253 P) :: (nat_lit 2254, o2254 P) :: (nat_lit 2256, o2256 P) :: (nat_lit 2257, o2257 P) :: (nat_lit 2258, o2258 P) :: (nat_lit 2260, o2260 P) :: (nat_lit 2261, o2261 P) :: (nat_lit 2263, o2263 P) :: (nat_lit 2264, o2264 P) :: (nat_lit 2265, o2265 P) :: (nat_lit 2267, o2267 P) :: (nat_lit 2268, o2268 P) :: (nat_lit 2270, o2270 P) :: (nat_lit 2271, o2271 P) :: (nat_lit 2272, o2272 P) :: (nat_lit 2274, o2274 P) :: (nat_lit 2275, o2275 P) :: (nat_lit 2277, o2277 P) :: (nat_lit 2278, o2278 P) :: (nat_lit 2279, o2279 P) :: (nat_lit 2281, o2281 P) :: (nat_lit 2282, o2282 P) :: (nat_lit 2284, o2284 P) :: (nat_lit 2285, o2285 P) :: (nat_lit 2286, o2286 P) :: (nat_lit 2288, o2288 P) :: (nat_lit 2289, o2289 P) :: (nat_lit 2291, o2291 P) :: (nat_lit 2292, o2292 P) :: (nat_lit 2293, o2293 P) :: (nat_lit 2295, o2295 P) :: (nat_lit 2296, o2296 P) :: (nat_lit 2298, o2298 P) :: (nat_lit 2299, o2299 P) :: (nat_lit 2300, o2300 P) :: (nat_lit 2302, o2302 P) :: (nat_lit 2303, o2303 P) :: (nat_lit 2305, o2305 P) :: (nat_lit 2306, o2306 P) :: (nat_lit 2307, o2307 P) :: (nat_lit 2309, o2309 P) :: (nat_lit 2310, o2310 P) :: (nat_lit 2312, o2312 P) :: (nat_lit 2313, o2313 P) :: (nat_lit 2314, o2314 P) :: (nat_lit 2315, o2315 P) :: (nat_lit 2316, o2316 P) :: (nat_lit 2317, o2317 P) :: (nat_lit 2318, o2318 P) :: (nat_lit 2319, o2319 P) :: (nat_lit 2322, o2322 P) :: (nat_lit 2325, o2325 P) :: (nat_lit 2330, o2330 P) :: (nat_lit 2331, o2331 P) :: (nat_lit 2332, o2332 P) :: (nat_lit 2334, o2334 P) :: (nat_lit 2335, o2335 P) :: (nat_lit 2337, o2337 P) :: (nat_lit 2338, o2338 P) :: (nat_lit 2339, o2339 P) :: (nat_lit 2341, o2341 P) :: (nat_lit 2342, o2342 P) :: (nat_lit 2344, o2344 P) :: (nat_lit 2345, o2345 P) :: (nat_lit 2346, o2346 P) :: (nat_lit 2348, o2348 P) :: (nat_lit 2349, o2349 P) :: (nat_lit 2351, o2351 P) :: (nat_lit 2352, o2352 P) :: (nat_lit 2353, o2353 P) :: (nat_lit 2355, o2355 P) :: (nat_lit 2356, o2356 P) :: (nat_lit 2358, o2358 P) :: (nat_lit 2359, o2359 P) :: (nat_lit 2360, o2360 P) :: (nat_lit 2362, o2362 P) :: (nat_lit 2363, o2363 P) :: (nat_lit 2365, o2365 P) :: (nat_lit 2366, o2366 P) :: (nat_lit 2367, o2367 P) :: (nat_lit 2369, o2369 P) :: (nat_lit 2370, o2370 P) :: (nat_lit 2372, o2372 P) :: (nat_lit 2373, o2373 P) :: (nat_lit 2374, o2374 P) :: (nat_lit 2376, o2376 P) :: (nat_lit 2377, o2377 P) :: (nat_lit 2379, o2379 P) :: (nat_lit 2380, o2380 P) :: (nat_lit 2381, o2381 P) :: (nat_lit 2383, o2383 P) :: (nat_lit 2384, o2384 P) :: (nat_lit 2386, o2386 P) :: (nat_lit 2387, o2387 P) :: (nat_lit 2388, o2388 P) :: (nat_lit 2390, o2390 P) :: (nat_lit 2391, o2391 P) :: (nat_lit 2393, o2393 P) :: (nat_lit 2394, o2394 P) :: (nat_lit 2395, o2395 P) :: (nat_lit 2397, o2397 P) :: (nat_lit 2398, o2398 P) :: (nat_lit 2400, o2400 P) :: (nat_lit 2401, o2401 P) :: (nat_lit 2402, o2402 P) :: (nat_lit 2404, o2404 P) :: (nat_lit 2405, o2405 P) :: (nat_lit 2407, o2407 P) :: (nat_lit 2408, o2408 P) :: (nat_lit 2409, o2409 P) :: (nat_lit 2411, o2411 P) :: (nat_lit 2412, o2412 P) :: (nat_lit 2414, o2414 P) :: (nat_lit 2415, o2415 P) :: (nat_lit 2416, o2416 P) :: (nat_lit 2418, o2418 P) :: (nat_lit 2419, o2419 P) :: (nat_lit 2421, o2421 P) :: (nat_lit 2422, o2422 P) :: (nat_lit 2423, o2423 P) :: (nat_lit 2425, o2425 P) :: (nat_lit 2426, o2426 P) :: (nat_lit 2428, o2428 P) :: (nat_lit 2429, o2429 P) :: (nat_lit 2430, o2430 P) :: (nat_lit 2432, o2432 P) :: (nat_lit 2433, o2433 P) :: (nat_lit 2435, o2435 P) :: (nat_lit 2436, o2436 P) :: (nat_lit 2437, o2437 P) :: (nat_lit 2438, o2438 P) :: (nat_lit 2440, o2440 P) :: (nat_lit 2441, o2441 P) :: (nat_lit 2443, o2443 P) :: (nat_lit 2444, o2444 P) :: (nat_lit 2445, o2445 P) :: (nat_lit 2447, o2447 P) :: (nat_lit 2448, o2448 P) :: (nat_lit 2450, o2450 P) :: (nat_lit 2451, o2451 P) :: (nat_lit 2452, o2452 P) :: (nat_lit 2453, o2453 P) :: (nat_lit 2455, o2455 P) :: (nat_lit 2456, o2456 P) :: (nat_lit 2458, o2458 P) :: (nat_lit 2459, o2459 P) :: (nat_lit 2460, o2460 P) :: (nat_lit 2461, o2461 P) :: (nat_lit 2463, o2463 P) :: (nat_lit 2464, o2464 P) :: (nat_lit 2466, o2466 P) :: (nat_lit 2467, o2467 P) :: (nat_lit 2468, o2468 P) :: (nat_lit 2469, o2469 P) :: (nat_lit 2471, o2471 P) :: (nat_lit 2472, o2472 P) :: (nat_lit 2474, o2474 P) :: (nat_lit 2475, o2475 P) :: (nat_lit 2476, o2476 P) :: (nat_lit 2477, o2477 P) :: (nat_lit 2479, o2479 P) :: (nat_lit 2480, o2480 P) :: (nat_lit 2482, o2482 P) :: (nat_lit 2483, o2483 P) :: (nat_lit 2484, o2484 P) :: (nat_lit 2485, o2485 P) :: (nat_lit 2487, o2487 P) :: (nat_lit 2488, o2488 P) :: (nat_lit 2490, o2490 P) :: (nat_lit 2491, o2491 P) :: (nat_lit 2492, o2492 P) :: (nat_lit 2493, o2493 P) :: (nat_lit 2495, o2495 P) :: (nat_lit 2496, o2496 P) :: (nat_lit 2498, o2498 P) :: (nat_lit 2499, o2499 P) :: (nat_lit 2500, o2500 P) :: (nat_lit 2502, o2502 P) :: (nat_lit 2503, o2503 P) :: (nat_lit 2505, o2505 P) :: (nat_lit 2506, o2506 P) :: (nat_lit 2507, o2507 P) :: (nat_lit 2509, o2509 P) :: (nat_lit 2510, o2510 P) :: (nat_lit 2512, o2512 P) :: (nat_lit 2513, o2513 P) :: (nat_lit 2514, o2514 P) :: (nat_lit 2516, o2516 P) :: (nat_lit 2517, o2517 P) :: (nat_lit 2519, o2519 P) :: (nat_lit 2520, o2520 P) :: (nat_lit 2521, o2521 P) :: (nat_lit 2523, o2523 P) :: (nat_lit 2524, o2524 P) :: (nat_lit 2526, o2526 P) :: (nat_lit 2527, o2527 P) :: (nat_lit 2528, o2528 P) :: (nat_lit 2530, o2530 P) :: (nat_lit 2531, o2531 P) :: (nat_lit 2533, o2533 P) :: (nat_lit 2534, o2534 P) :: (nat_lit 2535, o2535 P) :: (nat_lit 2537, o2537 P) :: (nat_lit 2538, o2538 P) :: (nat_lit 2540, o2540 P) :: (nat_lit 2541, o2541 P) :: (nat_lit 2542, o2542 P) :: (nat_lit 2544, o2544 P) :: (nat_lit 2545, o2545 P) :: (nat_lit 2547, o2547 P) :: (nat_lit 2548, o2548 P) :: (nat_lit 2549, o2549 P) :: (nat_lit 2551, o2551 P) :: (nat_lit 2552, o2552 P) :: (nat_lit 2554, o2554 P) :: (nat_lit 2555, o2555 P) :: (nat_lit 2556, o2556 P) :: (nat_lit 2558, o2558 P) :: (nat_lit 2559, o2559 P) :: (nat_lit 2561, o2561 P) :: (nat_lit 2562, o2562 P) :: (nat_lit 2563, o2563 P) :: (nat_lit 2564, o2564 P) :: (nat_lit 2565, o2565 P) :: (nat_lit 2568, o2568 P) :: (nat_lit 2575, o2575 P) :: (nat_lit 2577, o2577 P) :: (nat_lit 2578, o2578 P) :: (nat_lit 2580, o2580 P) :: (nat_lit 2581, o2581 P) :: (nat_lit 2582, o2582 P) :: (nat_lit 2584, o2584 P) :: (nat_lit 2585, o2585 P) :: (nat_lit 2587, o2587 P) :: (nat_lit 2588, o2588 P) :: (nat_lit 2589, o2589 P) :: (nat_lit 2590, o2590 P) :: (nat_lit 2592, o2592 P) :: (nat_lit 2593, o2593 P) :: (nat_lit 2595, o2595 P) :: (nat_lit 2596, o2596 P) :: (nat_lit 2597, o2597 P) :: (nat_lit 2599, o2599 P) :: (nat_lit 2600, o2600 P) :: (nat_lit 2602, o2602 P) :: (nat_lit 2603, o2603 P) :: (nat_lit 2604, o2604 P) :: (nat_lit 2606, o2606 P) :: (nat_lit 2607, o2607 P) :: (nat_lit 2609, o2609 P) :: (nat_lit 2610, o2610 P) :: (nat_lit 2611, o2611 P) :: (nat_lit 2612, o2612 P) :: (nat_lit 2613, o2613 P) :: (nat_lit 2616, o2616 P) :: (nat_lit 2617, o2617 P) :: (nat_lit 2618, o2618 P) :: (nat_lit 2620, o2620 P) :: (nat_lit 2621, o2621 P) :: (nat_lit 2623, o2623 P) :: (nat_lit 2624, o2624 P) :: (nat_lit 2625, o2625 P) :: (nat_lit 2628, o2628 P) :: (nat_lit 2633, o2633 P) :: (nat_lit 2634, o2634 P) :: (nat_lit 2635, o2635 P) :: (nat_lit 2636, o2636 P) :: (nat_lit 2638, o2638 P) :: (nat_lit 2639, o2639 P) :: (nat_lit 2641, o2641 P) :: (nat_lit 2642, o2642 P) :: (nat_lit 2643, o2643 P) :: (nat_lit 2645, o2645 P) :: (nat_lit 2646, o2646 P) :: (nat_lit 2648, o2648 P) :: (nat_lit 2649, o2649 P) :: (nat_lit 2650, o2650 P) :: (nat_lit 2652, o2652 P) :: (nat_lit 2653, o2653 P) :: (nat_lit 2655, o2655 P) :: (nat_lit 2656, o2656 P) :: (nat_lit 2659, o2659 P) :: (nat_lit 2661, o2661 P) :: (nat_lit 2662, o2662 P) :: (nat_lit 2664, o2664 P) :: (nat_lit 2665, o2665 P) :: (nat_lit 2666, o2666 P) :: (nat_lit 2667, o2667 P) :: (nat_lit 2669, o2669 P) :: (nat_lit 2670, o2670 P) :: (nat_lit 2672, o2672 P) :: (nat_lit 2673, o2673 P) :: (nat_lit 2674, o2674 P) :: (nat_lit 2675, o2675 P) :: (nat_lit 2677, o2677 P) :: (nat_lit 2678, o2678 P) :: (nat_lit 2680, o2680 P) :: (nat_lit 2681, o2681 P) :: (nat_lit 2682, o2682 P) :: (nat_lit 2683, o2683 P) :: (nat_lit 2685, o2685 P) :: (nat_lit 2686, o2686 P) :: (nat_lit 2688, o2688 P) :: (nat_lit 2689, o2689 P) :: (nat_lit 2690, o2690 P) :: (nat_lit 2691, o2691 P) :: (nat_lit 2693, o2693 P) :: (nat_lit 2694, o2694 P) :: (nat_lit 2696, o2696 P) :: (nat_lit 2697, o2697 P) :: (nat_lit 2698, o2698 P) :: (nat_lit 2699, o2699 P) :: (nat_lit 2701, o2701 P) :: (nat_lit 2702, o2702 P) :: (nat_lit 2704, o2704 P) :: (nat_lit 2705, o2705 P) :: (nat_lit 2706, o2706 P) :: (nat_lit 2707, o2707 P) :: (nat_lit 2709, o2709 P) :: (nat_lit 2710, o2710 P) :: (nat_lit 2712, o2712 P) :: (nat_lit 2713, o2713 P) :: (nat_lit 2716, o2716 P) :: (nat_lit 2718, o2718 P) :: (nat_lit 2719, o2719 P) :: (nat_lit 2721, o2721 P) :: (nat_lit 2722, o2722 P) :: (nat_lit 2723, o2723 P) :: (nat_lit 2724, o2724 P) :: (nat_lit 2726, o2726 P) :: (nat_lit 2727, o2727 P) :: (nat_lit 2729, o2729 P) :: (nat_lit 2730, o2730 P) :: (nat_lit 2731, o2731 P) :: (nat_lit 2732, o2732 P) :: (nat_lit 2734, o2734 P) :: (nat_lit 2735, o2735 P) :: (nat_lit 2737, o2737 P) :: (nat_lit 2738, o2738 P) :: (nat_lit 2739, o2739 P) :: (nat_lit 2740, o2740 P) :: (nat_lit 2742, o2742 P) :: (nat_lit 2743, o2743 P) :: (nat_lit 2745, o2745 P) :: (nat_lit 2746, o2746 P) :: (nat_lit 2747, o2747 P) :: (nat_lit 2748, o2748 P) :: (nat_lit 2750, o2750 P) :: (nat_lit 2751, o2751 P) :: (nat_lit 2753, o2753 P) :: (nat_lit 2754, o2754 P) :: (nat_lit 2755, o2755 P) :: (nat_lit 2756, o2756 P) :: (nat_lit 2758, o2758 P) :: (nat_lit 2759, o2759 P) :: (nat_lit 2761, o2761 P) :: (nat_lit 2762, o2762 P) :: (nat_lit 2763, o2763 P) :: (nat_lit 2765, o2765 P) :: (nat_lit 2766, o2766 P) :: (nat_lit 2768, o2768 P) :: (nat_lit 2769, o2769 P) :: (nat_lit 2770, o2770 P) :: (nat_lit 2772, o2772 P) :: (nat_lit 2773, o2773 P) :: (nat_lit 2775, o2775 P) :: (nat_lit 2776, o2776 P) :: (nat_lit 2777, o2777 P) :: (nat_lit 2779, o2779 P) :: (nat_lit 2780, o2780 P) :: (nat_lit 2782, o2782 P) :: (nat_lit 2783, o2783 P) :: (nat_lit 2784, o2784 P) :: (nat_lit 2786, o2786 P) :: (nat_lit 2787, o2787 P) :: (nat_lit 2789, o2789 P) :: (nat_lit 2790, o2790 P) :: (nat_lit 2791, o2791 P) :: (nat_lit 2793, o2793 P) :: (nat_lit 2794, o2794 P) :: (nat_lit 2796, o2796 P) :: (nat_lit 2797, o2797 P) :: (nat_lit 2798, o2798 P) :: (nat_lit 2799, o2799 P) :: (nat_lit 2801, o2801 P) :: (nat_lit 2802, o2802 P) :: (nat_lit 2804, o2804 P) :: (nat_lit 2805, o2805 P) :: (nat_lit 2806, o2806 P) :: (nat_lit 2807, o2807 P) :: (nat_lit 2809, o2809 P) :: (nat_lit 2810, o2810 P) :: (nat_lit 2812, o2812 P) :: (nat_lit 2813, o2813 P) :: (nat_lit 2814, o2814 P) :: (nat_lit 2815, o2815 P) :: (nat_lit 2817, o2817 P) :: (nat_lit 2818, o2818 P) :: (nat_lit 2820, o2820 P) :: (nat_lit 2821, o2821 P) :: (nat_lit 2822, o2822 P) :: (nat_lit 2823, o2823 P) :: (nat_lit 2825, o2825 P) :: (nat_lit 2826, o2826 P) :: (nat_lit 2828, o2828 P) :: (nat_lit 2829, o2829 P) :: (nat_lit 2830, o2830 P) :: (nat_lit 2831, o2831 P) :: (nat_lit 2833, o2833 P) :: (nat_lit 2834, o2834 P) :: (nat_lit 2836, o2836 P) :: (nat_lit 2837, o2837 P) :: (nat_lit 2838, o2838 P) :: (nat_lit 2840, o2840 P) :: (nat_lit 2841, o2841 P) :: (nat_lit 2843, o2843 P) :: (nat_lit 2844, o2844 P) :: (nat_lit 2845, o2845 P) :: (nat_lit 2847, o2847 P) :: (nat_lit 2848, o2848 P) :: (nat_lit 2850, o2850 P) :: (nat_lit 2851, o2851 P) :: (nat_lit 2852, o2852 P) :: (nat_lit 2854, o2854 P) :: (nat_lit 2855, o2855 P) :: (nat_lit 2857, o2857 P) :: (nat_lit 2858, o2858 P) :: (nat_lit 2859, o2859 P) :: (nat_lit 2861, o2861 P) :: (nat_lit 2862, o2862 P) :: (nat_lit 2864, o2864 P) :: (nat_lit 2865, o2865 P) :: (nat_lit 2866, o2866 P) :: (nat_lit 2867, o2867 P) :: (nat_lit 2868, o2868 P) :: (nat_lit 2871, o2871 P) :: (nat_lit 2878, o2878 P) :: (nat_lit 2879, o2879 P) :: (nat_lit 2881, o2881 P) :: (nat_lit 2882, o2882 P) :: (nat_lit 2884, o2884 P) :: (nat_lit 2885, o2885 P) :: (nat_lit 2886, o2886 P) :: (nat_lit 2888, o2888 P) :: (nat_lit 2889, o2889 P) :: (nat_lit 2891, o2891 P) :: (nat_lit 2892, o2892 P) :: (nat_lit 2893, o2893 P) :: (nat_lit 2895, o2895 P) :: (nat_lit 2896, o2896 P) :: (nat_lit 2898, o2898 P) :: (nat_lit 2899, o2899 P) :: (nat_lit 2900, o2900 P) :: (nat_lit 2901, o2901 P) :: (nat_lit 2903, o2903 P) :: (nat_lit 2904, o2904 P) :: (nat_lit 2906, o2906 P) :: (nat_lit 2907, o2907 P) :: (nat_lit 2908, o2908 P) :: (nat_lit 2909, o2909 P) :: (nat_lit 2911, o2911 P) :: (nat_lit 2912, o2912 P) :: (nat_lit 2914, o2914 P) :: (nat_lit 2915, o2915 P) :: (nat_lit 2916, o2916 P) :: (nat_lit 2918, o2918 P) :: (nat_lit 2919, o2919 P) :: (nat_lit 2921, o2921 P) :: (nat_lit 2922, o2922 P) :: (nat_lit 2923, o2923 P) :: (nat_lit 2925, o2925 P) :: (nat_lit 2926, o2926 P) :: (nat_lit 2928, o2928 P) :: (nat_lit 2929, o2929 P) :: (nat_lit 2930, o2930 P) :: (nat_lit 2932, o2932 P) :: (nat_lit 2933, o2933 P) :: (nat_lit 2935, o2935 P) :: (nat_lit 2936, o2936 P) :: (nat_lit 2937, o2937 P) :: (nat_lit 2939, o2939 P) :: (nat_lit 2940, o2940 P) :: (nat_lit 2942, o2942 P) :: (nat_lit 2943, o2943 P) :: (nat_lit 2944, o2944 P) :: (nat_lit 2945, o2945 P) :: (nat_lit 2946, o2946 P) :: (nat_lit 2949, o2949 P) :: (nat_lit 2951, o2951 P) :: (nat_lit 2952, o2952 P) :: (nat_lit 2954, o2954 P) :: (nat_lit 2955, o2955 P) :: (nat_lit 2956, o2956 P) :: (nat_lit 2958, o2958 P) :: (nat_lit 2959, o2959 P) :: (nat_lit 2961, o2961 P) :: (nat_lit 2962, o2962 P) :: (nat_lit 2963, o2963 P) :: (nat_lit 2964, o2964 P) :: (nat_lit 2966, o2966 P) :: (nat_lit 2967, o2967 P) :: (nat_lit 2969, o2969 P) :: (nat_lit 2970, o2970 P) :: (nat_lit 2971, o2971 P) :: (nat_lit 2973, o2973 P) :: (nat_lit 2974, o2974 P) :: (nat_lit 2976, o2976 P) :: (nat_lit 2977, o2977 P) :: (nat_lit 2978, o2978 P) :: (nat_lit 2981, o2981 P) :: (nat_lit 2982, o2982 P) :: (nat_lit 2983, o2983 P) :: (nat_lit 2985, o2985 P) :: (nat_lit 2986, o2986 P) :: (nat_lit 2988, o2988 P) :: (nat_lit 2989, o2989 P) :: []
noncomputable def as0 : List Addr := [2, 3, 15, 17, 18, 20, 21, 22, 29, 30, 31, 32, 1329, 1331, 1332, 1334, 1335, 1336, 1337, 1339, 1340, 1342, 1343, 1344, 1346, 1347, 1349, 1350, 1351, 1353, 1354, 1356, 1357, 1358, 1361, 1362, 1363, 1366, 1367, 1368, 1371, 1372, 1373, 1375, 1376, 1378, 1379, 1380, 1382, 1383, 1385, 1386, 1426, 1471, 1516, 1522, 1523, 1526, 1527, 1528, 1529, 1531, 1532, 1534, 1535, 1536, 1538, 1539, 1541, 1542, 1543, 1545, 1546, 1548, 1549, 1550, 1551, 1553, 1554, 1556, 1557, 1558, 1561, 1562, 1563, 1570, 1572, 1573, 1575, 1576, 1577, 1578, 1580, 1581, 1583, 1584, 1585, 1586, 1588, 1589, 1591, 1592, 1593, 1595, 1596, 1598, 1599, 1600, 1602, 1603, 1605, 1606, 1607, 1609, 1610, 1612, 1613, 1614, 1615, 1617, 1618, 1620, 1621, 1622, 1624, 1625, 1627, 1628, 1629, 1631, 1632, 1634, 1635, 1636, 1637, 1638, 1639, 1640, 1643, 1644, 1781, 1922, 2063, 2069, 2076, 2077, 2078, 2079, 2080, 2083, 2084, 2086, 2087, 2089, 2090, 2091, 2092, 2095, 2096, 2097, 2100, 2101, 2102, 2105, 2106, 2107, 2108, 2110, 2111, 2113, 2114, 2115, 2116, 2118, 2119, 2121, 2122, 2123, 2130, 2132, 2133, 2135, 2136, 2137, 2138, 2140, 2141, 2143, 2144, 2145, 2146, 2148, 2149, 2151, 2152, 2153, 2155, 2156, 2158, 2159, 2160, 2162, 2163, 2165, 2166, 2167, 2169, 2170, 2172, 2173, 2174, 2175, 2177, 2178, 2180, 2181, 2182, 2184, 2185, 2187, 2188, 2189, 2190, 2191, 2192, 2193, 2196, 2197, 2199, 2206, 2208, 2209, 2211, 2212, 2213, 2215, 2216, 2218, 2219, 2220, 2222, 2223, 2225, 2226, 2229, 2231, 2232, 2234, 2235, 2236, 2237, 2239, 2240, 2242, 2243, 2244, 2246, 2247, 2249, 2250, 2251, 2253, 2254, 2256, 2257, 2258, 2260, 2261, 2263, 2264, 2265, 2267, 2268, 2270, 2271, 2272, 2274, 2275, 2277, 2278, 2279, 2281, 2282, 2284, 2285, 2286, 2288, 2289, 2291, 2292, 2293, 2295, 2296, 2298, 2299, 2300, 2302, 2303, 2305, 2306, 2307, 2309, 2310, 2312, 2313, 2314, 2315, 2316, 2317, 2318, 2319, 2322, 2325, 2330, 2331, 2332, 2334, 2335, 2337, 2338, 2339, 2341, 2342, 2344, 2345, 2346, 2348, 2349, 2351, 2352, 2353, 2355, 2356, 2358, 2359, 2360, 2362, 2363, 2365, 2366, 2367, 2369, 2370, 2372, 2373, 2374, 2376, 2377, 2379, 2380, 2381, 2383, 2384, 2386, 2387, 2388, 2390, 2391, 2393, 2394, 2395, 2397, 2398, 2400, 2401, 2402, 2404, 2405, 2407, 2408, 2409, 2411, 2412, 2414, 2415, 2416, 2418, 2419, 2421, 2422, 2423, 2425, 2426, 2428, 2429, 2430, 2432, 2433, 2435, 2436, 2437, 2438, 2440, 2441, 2443, 2444, 2445, 2447, 2448, 2450, 2451, 2452, 2453, 2455, 2456, 2458, 2459, 2460, 2461, 2463, 2464, 2466, 2467, 2468, 2469, 2471, 2472, 2474, 2475, 2476, 2477, 2479, 2480, 2482, 2483, 2484, 2485, 2487, 2488, 2490, 2491, 2492, 2493, 2495, 2496, 2498, 2499, 2500, 2502, 2503, 2505, 2506, 2507, 2509, 2510, 2512, 2513, 2514, 2516, 2517, 2519, 2520, 2521, 2523, 2524, 2526, 2527, 2528, 2530, 2531, 2533, 2534, 2535, 2537, 2538, 2540, 2541, 2542, 2544, 2545, 2547, 2548, 2549, 2551, 2552, 2554, 2555, 2556, 2558, 2559, 2561, 2562, 2563, 2564, 2565, 2568, 2575, 2577, 2578, 2580, 2581, 2582, 2584, 2585, 2587, 2588, 2589, 2590, 2592, 2593, 2595, 2596, 2597, 2599, 2600, 2602, 2603, 2604, 2606, 2607, 2609, 2610, 2611, 2612, 2613, 2616, 2617, 2618, 2620, 2621, 2623, 2624, 2625, 2628, 2633, 2634, 2635, 2636, 2638, 2639, 2641, 2642, 2643, 2645, 2646, 2648, 2649, 2650, 2652, 2653, 2655, 2656, 2659, 2661, 2662, 2664, 2665, 2666, 2667, 2669, 2670, 2672, 2673, 2674, 2675, 2677, 2678, 2680, 2681, 2682, 2683, 2685, 2686, 2688, 2689, 2690, 2691, 2693, 2694, 2696, 2697, 2698, 2699, 2701, 2702, 2704, 2705, 2706, 2707, 2709, 2710, 2712, 2713, 2716, 2718, 2719, 2721, 2722, 2723, 2724, 2726, 2727, 2729, 2730, 2731, 2732, 2734, 2735, 2737, 2738, 2739, 2740, 2742, 2743, 2745, 2746, 2747, 2748, 2750, 2751, 2753, 2754, 2755, 2756, 2758, 2759, 2761, 2762, 2763, 2765, 2766, 2768, 2769, 2770, 2772, 2773, 2775, 2776, 2777, 2779, 2780, 2782, 2783, 2784, 2786, 2787, 2789, 2790, 2791, 2793, 2794, 2796, 2797, 2798, 2799, 2801, 2802, 2804, 2805, 2806, 2807, 2809, 2810, 2812, 2813, 2814, 2815, 2817, 2818, 2820, 2821, 2822, 2823, 2825, 2826, 2828, 2829, 2830, 2831, 2833, 2834, 2836, 2837, 2838, 2840, 2841, 2843, 2844, 2845, 2847, 2848, 2850, 2851, 2852, 2854, 2855, 2857, 2858, 2859, 2861, 2862, 2864, 2865, 2866, 2867, 2868, 2871, 2878, 2879, 2881, 2882, 2884, 2885, 2886, 2888, 2889, 2891, 2892, 2893, 2895, 2896, 2898, 2899, 2900, 2901, 2903, 2904, 2906, 2907, 2908, 2909, 2911, 2912, 2914, 2915, 2916, 2918, 2919, 2921, 2922, 2923, 2925, 2926, 2928, 2929, 2930, 2932, 2933, 2935, 2936, 2937, 2939, 2940, 2942, 2943, 2944, 2945, 2946, 2949, 2951, 2952, 2954, 2955, 2956, 2958, 2959, 2961, 2962, 2963, 2964, 2966, 2967, 2969, 2970, 2971, 2973, 2974, 2976, 2977, 2978, 2981, 2982, 2983, 2985, 2986, 2988, 2989]
theorem as0_K (P : Params) : as0 = (K0 P).map (·.1) := by kernel_rfl
theorem alive_some {o o' : Obj} (h : alive o = some o') : o' = o := by
  obtain ⟨c, d, dt, sl⟩ := o
  cases dt <;> first | (cases h; done) | (exact (Option.some.inj h).symm)
/-- what stands in the tree stands in the heap -/
theorem map_get {T : BT} {n : Nat} {life : Life} : ∀ {K : Frag}, K.map (fun p => T.get p.1) = K.map (fun p => some p.2) → K.all (fun p => Nat.blt p.1 n && (alive p.2).isSome) = true → (K.map (·.1)).map (absHeap T n life).get? = K.map fun p => some p.2
  | [], _, _ => rfl
  | p :: K, h, a => by
    simp only [List.map_cons, List.cons.injEq] at h ⊢
    simp only [List.all_cons, Bool.and_eq_true] at a
    obtain ⟨⟨a1, a2⟩, a3⟩ := a
    refine ⟨?_, map_get h.2 a3⟩
    rw [abs_get (Nat.le_of_ble_eq_true a1) h.1]
    obtain ⟨o', ho⟩ := Option.isSome_iff_exists.mp a2
    rw [ho, alive_some ho]
theorem K0_tree : ∀ (P : Params) (g : Nat → Obj), (K0 P).map (fun p => (base g P).get p.1) = (K0 P).map (fun p => some p.2) := by
  intro P g
  kernel_rfl
theorem K0_all : ∀ (P : Params), (K0 P).all (fun p => Nat.blt p.1 2990 && (alive p.2).isSome) = true := by
  intro P
  kernel_rfl
theorem K0_1352 (P : Params) (g : Nat → Obj) (os : OsState) : (S86 g P os).abs.heap.get? 1352 = some (tabObj #[]) := by
  show (absHeap (base g P) 2990 {}).get? 1352 = _
  rw [abs_get (o := tabObj #[]) (by decide) (by kernel_rfl)]
  rfl
theorem K0_obs (P : Params) (g : Nat → Obj) (os : OsState) : (as0.map (S86 g P os).abs.heap.get?, ([1352] : List Addr).map (S86 g P os).abs.heap.get?) = ((K0 P).map fun p => some p.2, ([1352] : List Addr).map fun _ => some (tabObj #[])) := by
  rw [as0_K P]
  refine Prod.ext (map_get (K0_tree P g) (K0_all P)) ?_
  show [(S86 g P os).abs.heap.get? 1352] = [some (tabObj #[])]
  rw [K0_1352]
theorem K0_says (w : World) (g : Nat → Obj) (os : OsState) : (kmHook K0 as0 as0_K [1352]).says w (S86 g w.params os).abs.heap := (kmHook K0 as0 as0_K [1352]).of w _ (K0_obs w.params g os)
end Mine
end
section
open PySem PySem.W PySem.Calls PyProof.Rows
set_option Elab.async false
set_option maxRecDepth 100000
namespace Mine
noncomputable def wsP (l : OpenLaw) : Nat → Bool
  | 0 => sreFenced l.row.prog.main
  | 1 => ((moduleNames l.row.prog.main.body).isEmpty || lookedIntoSs (moduleNames l.row.prog.main.body) l.row.prog.main.body)
  | 2 => namesResolve l.row.prog
  | 3 => l.row.prog.boundNames.all (fun n => !worldNames.contains n)
  | 4 => noRoadLSs { strict := !(importedModules l.row.prog.main.body).all cThrough.contains, foot := none, bare := [] } l.row.prog.main.body
  | 5 => namesMeet l.row.prog l.row.prog.main.body fun _ n => attrL n
  | 6 => l.row.loose.isEmpty
  | 7 => l.row.makers.isEmpty
  | 8 => (l.row.records.isEmpty || l.row.raises.all fun ct => ct.1 != .builtin "AttributeError" && ct.1 != .builtin "TypeError")
  | 9 => (l.row.raises.all fun ct => match ct.1 with | .builtin n => !l.row.prog.boundNames.contains (Str.ofString n) && !ofTheWorld.contains n | .own _ => true)
  | 10 => decide (l.row.records.map (·.1)).Nodup
  | 11 => (l.row.records.all fun x => !x.1.opensWith "__" && !builtinNamed x.1 && l.row.prog.boundNames.contains x.1 && x.2.all fun f => !f.1.opensWith "__")
  | 12 => l.row.toRowW.solid
  | 13 => l.row.pre.litsOk
  | 14 => l.row.post.litsOk
  | 15 => l.row.raises.all (·.2.litsOk)
  | 16 => l.row.mutates.all (fun i => match l.row.args[i]? with
        | some sh => !sh.arms.any WShape.isObj
        | none => false)
  | 17 => l.row.within.all (fun i => decide (i < l.row.args.length))
  | 18 => l.row.same.all (fun i => decide (i < l.row.args.length))
  | 19 => l.row.prog.boundNames.contains l.row.name
  | 20 => !startupNames.contains l.row.name
  | 21 => decide (l.foot ≤ (behindTheImports l.prog).length)
  | 22 => l.footing.all footLine
  | 23 => noClassBlock l.prog l.footing
  | 24 => l.most.all (fun n => decide (63 ≤ n))
  | 25 => l.bound.all (fun n => decide (2 ^ 63 ≤ n))
  | 26 => noRoadLSs { strict := true, foot := some l.bound', writes := l.writes, may := l.may } l.footing
  | 27 => defStands l.about l.above
  | 28 => l.namesIt
  | 29 => (["type", "isinstance", "issubclass", "getattr", "hasattr"] : List Str).all (fun n => l.about != [n])
  | 30 => l.bound'.all (fun n => !builtinNamed n || l.about == [n] || !l.reads n)
  | 31 => (!l.writes || (l.prog.main.body.flatMap importedNames).all fun n => !l.reads n)
  | 32 => (l.prog.main.body.flatMap importedNames).all (fun n => !l.reads n || (drawsOf n l.prog.main.body).all fun mn => mn.2 != ("attrgetter" : Str) && mn.2 != ("methodcaller" : Str))
  | 33 => namesMeet l.prog l.footing (fun sc n => (!(["type", "isinstance", "issubclass", "getattr", "hasattr"] : List Str).contains n || sc.names.lookup n == some .globalImplicit) && (l.may != some n || sc.kind == .module || sc.names.lookup n == some .globalImplicit))
  | 34 => l.own.contains l.name
  | 35 => l.own.eraseDups.length == l.own.length
  | 36 => l.own.all (fun n => !builtinNamed n)
  | 37 => namesMeet l.prog l.above (fun _ n => !l.own.contains n)
  | 38 => namesMeet l.prog l.footing fun sc n => sc.kind == .module || sc.names.lookup n != some .globalExplicit
  | 39 => !readsOut l.row.prog l.row.prog.main.body "vars"
  | 40 => !readsOut l.row.prog l.row.prog.main.body "dir"
  | 41 => !readsOut l.row.prog l.row.prog.main.body "locals"
  | _ => true
theorem wsP_rfl : wsP = wsP := rfl
name_quick wsPQ for Mine.wsP by Mine.wsP_rfl
theorem well_0 : wsP PySem.Challenge.rw_az0025_01 0 = true := by
  rw [PySem.W.Fast.wsPQ_eq]
  kernel_rfl
theorem well_1 : wsP PySem.Challenge.rw_az0025_01 1 = true := by
  rw [PySem.W.Fast.wsPQ_eq]
  kernel_rfl
theorem well_2 : wsP PySem.Challenge.rw_az0025_01 2 = true := by
  rw [PySem.W.Fast.wsPQ_eq]
  kernel_rfl
theorem well_3 : wsP PySem.Challenge.rw_az0025_01 3 = true := by
  rw [PySem.W.Fast.wsPQ_eq]
  kernel_rfl
theorem well_4 : wsP PySem.Challenge.rw_az0025_01 4 = true := by
  rw [PySem.W.Fast.wsPQ_eq]
  kernel_rfl
theorem well_5 : wsP PySem.Challenge.rw_az0025_01 5 = true := by
  rw [PySem.W.Fast.wsPQ_eq]
  kernel_rfl
theorem well_6 : wsP PySem.Challenge.rw_az0025_01 6 = true := by
  rw [PySem.W.Fast.wsPQ_eq]
  kernel_rfl
theorem well_7 : wsP PySem.Challenge.rw_az0025_01 7 = true := by
  rw [PySem.W.Fast.wsPQ_eq]
  kernel_rfl
theorem well_8 : wsP PySem.Challenge.rw_az0025_01 8 = true := by
  rw [PySem.W.Fast.wsPQ_eq]
  kernel_rfl
theorem well_9 : wsP PySem.Challenge.rw_az0025_01 9 = true := by
  rw [PySem.W.Fast.wsPQ_eq]
  kernel_rfl
theorem well_10 : wsP PySem.Challenge.rw_az0025_01 10 = true := by
  rw [PySem.W.Fast.wsPQ_eq]
  kernel_rfl
theorem well_11 : wsP PySem.Challenge.rw_az0025_01 11 = true := by
  rw [PySem.W.Fast.wsPQ_eq]
  kernel_rfl
theorem well_12 : wsP PySem.Challenge.rw_az0025_01 12 = true := by
  rw [PySem.W.Fast.wsPQ_eq]
  kernel_rfl
theorem well_13 : wsP PySem.Challenge.rw_az0025_01 13 = true := by
  rw [PySem.W.Fast.wsPQ_eq]
  kernel_rfl
theorem well_14 : wsP PySem.Challenge.rw_az0025_01 14 = true := by
  rw [PySem.W.Fast.wsPQ_eq]
  kernel_rfl
theorem well_15 : wsP PySem.Challenge.rw_az0025_01 15 = true := by
  rw [PySem.W.Fast.wsPQ_eq]
  kernel_rfl
theorem well_16 : wsP PySem.Challenge.rw_az0025_01 16 = true := by
  rw [PySem.W.Fast.wsPQ_eq]
  kernel_rfl
theorem well_17 : wsP PySem.Challenge.rw_az0025_01 17 = true := by
  rw [PySem.W.Fast.wsPQ_eq]
  kernel_rfl
theorem well_18 : wsP PySem.Challenge.rw_az0025_01 18 = true := by
  rw [PySem.W.Fast.wsPQ_eq]
  kernel_rfl
theorem well_19 : wsP PySem.Challenge.rw_az0025_01 19 = true := by
  rw [PySem.W.Fast.wsPQ_eq]
  kernel_rfl
theorem well_20 : wsP PySem.Challenge.rw_az0025_01 20 = true := by
  rw [PySem.W.Fast.wsPQ_eq]
  kernel_rfl
theorem well_21 : wsP PySem.Challenge.rw_az0025_01 21 = true := by
  rw [PySem.W.Fast.wsPQ_eq]
  kernel_rfl
theorem well_22 : wsP PySem.Challenge.rw_az0025_01 22 = true := by
  rw [PySem.W.Fast.wsPQ_eq]
  kernel_rfl
theorem well_23 : wsP PySem.Challenge.rw_az0025_01 23 = true := by
  rw [PySem.W.Fast.wsPQ_eq]
  kernel_rfl
theorem well_24 : wsP PySem.Challenge.rw_az0025_01 24 = true := by
  rw [PySem.W.Fast.wsPQ_eq]
  kernel_rfl
theorem well_25 : wsP PySem.Challenge.rw_az0025_01 25 = true := by
  rw [PySem.W.Fast.wsPQ_eq]
  kernel_rfl
theorem well_26 : wsP PySem.Challenge.rw_az0025_01 26 = true := by
  rw [PySem.W.Fast.wsPQ_eq]
  kernel_rfl
theorem well_27 : wsP PySem.Challenge.rw_az0025_01 27 = true := by
  rw [PySem.W.Fast.wsPQ_eq]
  kernel_rfl
theorem well_28 : wsP PySem.Challenge.rw_az0025_01 28 = true := by
  rw [PySem.W.Fast.wsPQ_eq]
  kernel_rfl
theorem well_29 : wsP PySem.Challenge.rw_az0025_01 29 = true := by
  rw [PySem.W.Fast.wsPQ_eq]
  kernel_rfl
theorem well_30 : wsP PySem.Challenge.rw_az0025_01 30 = true := by
  rw [PySem.W.Fast.wsPQ_eq]
  kernel_rfl
theorem well_31 : wsP PySem.Challenge.rw_az0025_01 31 = true := by
  rw [PySem.W.Fast.wsPQ_eq]
  kernel_rfl
theorem well_32 : wsP PySem.Challenge.rw_az0025_01 32 = true := by
  rw [PySem.W.Fast.wsPQ_eq]
  kernel_rfl
theorem well_33 : wsP PySem.Challenge.rw_az0025_01 33 = true := by
  rw [PySem.W.Fast.wsPQ_eq]
  kernel_rfl
theorem well_34 : wsP PySem.Challenge.rw_az0025_01 34 = true := by
  rw [PySem.W.Fast.wsPQ_eq]
  kernel_rfl
theorem well_35 : wsP PySem.Challenge.rw_az0025_01 35 = true := by
  rw [PySem.W.Fast.wsPQ_eq]
  kernel_rfl
theorem well_36 : wsP PySem.Challenge.rw_az0025_01 36 = true := by
  rw [PySem.W.Fast.wsPQ_eq]
  kernel_rfl
theorem well_37 : wsP PySem.Challenge.rw_az0025_01 37 = true := by
  rw [PySem.W.Fast.wsPQ_eq]
  kernel_rfl
theorem well_38 : wsP PySem.Challenge.rw_az0025_01 38 = true := by
  rw [PySem.W.Fast.wsPQ_eq]
  kernel_rfl
theorem well_39 : wsP PySem.Challenge.rw_az0025_01 39 = true := by
  rw [PySem.W.Fast.wsPQ_eq]
  kernel_rfl
theorem well_40 : wsP PySem.Challenge.rw_az0025_01 40 = true := by
  rw [PySem.W.Fast.wsPQ_eq]
  kernel_rfl
theorem well_41 : wsP PySem.Challenge.rw_az0025_01 41 = true := by
  rw [PySem.W.Fast.wsPQ_eq]
  kernel_rfl
theorem bare_none {f : Str → Bool} (h1 : (!f "vars") = true) (h2 : (!f "dir") = true) (h3 : (!f "locals") = true) : (["vars", "dir", "locals"] : List Str).filter f = [] := by
  rw [Bool.not_eq_true'] at h1 h2 h3
  simp only [List.filter, h1, h2, h3]
theorem well_bare : noRoadLSs { strict := !(importedModules PySem.Challenge.rw_az0025_01.row.prog.main.body).all cThrough.contains, foot := none, bare := (["vars", "dir", "locals"] : List Str).filter (readsOut PySem.Challenge.rw_az0025_01.row.prog PySem.Challenge.rw_az0025_01.row.prog.main.body) } PySem.Challenge.rw_az0025_01.row.prog.main.body = true := by
  rw [bare_none (f := readsOut PySem.Challenge.rw_az0025_01.row.prog PySem.Challenge.rw_az0025_01.row.prog.main.body) well_39 well_40 well_41]
  exact well_4
theorem well_looks : looksOpen PySem.Challenge.rw_az0025_01.row.prog = true := (look_both (look_both (look_both (look_both (look_both well_0 well_1) well_2) well_3) well_bare) well_5)
theorem well_part : PySem.Challenge.rw_az0025_01.row.partSaid = true := (look_both (look_both (look_both (look_both (look_both (look_both (look_both (look_both (look_both (look_both (look_both (look_both (look_both well_looks well_6) well_7) well_8) well_9) well_10) well_11) well_12) well_13) well_14) well_15) well_16) well_17) well_18)
theorem well_row : PySem.Challenge.rw_az0025_01.row.wellSaid = true := (look_both (look_both well_part well_19) well_20)
theorem well : OpenLaw.wellSaid PySem.Challenge.rw_az0025_01 = true := (look_both (look_both (look_both (look_both (look_both (look_both (look_both (look_both (look_both (look_both (look_both (look_both (look_both (look_both (look_both (look_both (look_both (look_both well_row well_21) well_22) well_23) well_24) well_25) well_26) well_27) well_28) well_29) well_30) well_31) well_32) well_33) well_34) well_35) well_36) well_37) well_38)
end Mine
end
section
open PySem PySem.W PySem.Calls PyProof.Rows
set_option Elab.async false
set_option maxRecDepth 100000
namespace Mine
theorem kept11 (P : Params) (g : Nat → Obj) (os : OsState) : ∀ b, b < 11 → b ≠ mainNs → b ≠ cStatics → (S86 g P os).abs.heap.get? b = (boot_heap P).get? b := by
  intro b hb h1 h2
  match b, hb with
  | 0, _ => kernel_rfl
  | 1, _ => kernel_rfl
  | 2, _ => exact absurd rfl h2
  | 3, _ => exact absurd rfl h1
  | 4, _ => kernel_rfl
  | 5, _ => kernel_rfl
  | 6, _ => kernel_rfl
  | 7, _ => kernel_rfl
  | 8, _ => kernel_rfl
  | 9, _ => kernel_rfl
  | 10, _ => kernel_rfl
theorem boot_size (P : Params) : (boot_heap P).objs.size = 11 := by kernel_rfl
/-- all that is to be known of the top, from its statements' run -/
theorem behind_of {YP : World → Heap → Prop} {w : World} (hY : ∀ g os, YP w (S86 g w.params os).abs.heap) (H : ∀ os, ∃ g' g, Comes w body0 default (Sb g' w.params os) pos86 (S86 g w.params os)) : Behind prog0 view0 loose0 (XL view0 lv0) YP w := by
  obtain ⟨s, A, os, hf, hz1, hz2⟩ := opened w
  refine ⟨⟨s, A⟩, fun s' hs' => ?_⟩
  obtain rfl : s' = s := AfterImport.unique hs' A
  obtain ⟨g', g, hc⟩ := H os
  have e0 := S0_boot w.params g' os
  have z : (S0 g' w.params os).abs.asleep := ⟨rfl, rfl⟩
  obtain ⟨s₁, e1, hg, hl, n, t₁, hs, ht⟩ := top_path (R := fun t => t = (S86 g w.params os).abs) z (Sem.wp_mono _ _ _ (fun _ _ _ q => q) (fun _ _ _ q => q) _ _ (top_wp hc))
  subst e1
  have la := lookA_true w.params g os
  unfold lookA lookAG at la
  obtain ⟨la, lk⟩ := Bool.and_eq_true_iff.mp la
  obtain ⟨la, gd⟩ := Bool.and_eq_true_iff.mp la
  obtain ⟨so, nb⟩ := Bool.and_eq_true_iff.mp la
  have lb : openSeen view0 loose0 mods0 Xt0 true (S86 g w.params os).abs = openGood view0 loose0 := lookB_good w.params g os
  obtain ⟨G, _, i1, i2, i3, i4, i5⟩ := ground_of_open (XP := XL view0 lv0) (w := w) (fun s e => xl_of s (Bool.and_eq_true_iff.mp e).1) (by kernel_rfl) lb
  refine ⟨_, hf, rfl, (S86 g w.params os).abs, ⟨⟨n, t₁, ?_, ht⟩, ?_, ?_, ?_, i2, statics_of_ok so, i3, i4, i5, gens_of_done gd, names_of_bound nb, laid_of_kept lk⟩, ⟨rfl, rfl⟩, rfl, i1, G, hY g os⟩
  · rw [← e0]; exact hs
  · rw [hl, e0]
  · exact Shared.rest_eq rfl
  · intro b o hb hn
    have lt : b < 11 := boot_size w.params ▸ Heap.lt_size hb
    rw [kept11 w.params g os b lt (fun q => hn (.inl q)) (fun q => hn (.inr (.inl q)))]
    exact hb
end Mine
end
section
open PySem PySem.W PySem.Calls PyProof.Rows
set_option Elab.async false
set_option maxRecDepth 100000
namespace Mine
theorem body_cut : body0 = (body0.drop 0).take 9 ++ ((body0.drop 9).take 1 ++ ((body0.drop 10).take 21 ++ ((body0.drop 31).take 1 ++ ((body0.drop 32).take 1 ++ ((body0.drop 33).take 1 ++ ((body0.drop 34).take 22 ++ ((body0.drop 56).take 1 ++ ((body0.drop 57).take 1 ++
    ((body0.drop 58).take 1 ++ ((body0.drop 59).take 13 ++ ((body0.drop 72).take 3 ++ ((body0.drop 75).take 1 ++ ((body0.drop 76).take 2 ++ ((body0.drop 78).take 1 ++ (body0.drop 79).take 8)))))))))))))) := by kernel_rfl
theorem chain {w : World} {os : OsState} {g' g : Nat → Obj} (h9 : Comes w ((body0.drop 9).take 1) pos8 (S8 g' w.params os) pos9 (S9 g w.params os))
    (z31 : Comes w ((body0.drop 31).take 1) pos30 (S30 g w.params os) pos31 (S31 g w.params os)) (z32 : Comes w ((body0.drop 32).take 1) pos31 (S31 g w.params os) pos32 (S32 g w.params os)) (z33 : Comes w ((body0.drop 33).take 1) pos32 (S32 g w.params os) pos33 (S33 g w.params os))
    (z56 : Comes w ((body0.drop 56).take 1) pos55 (S55 g w.params os) pos56 (S56 g w.params os)) (z57 : Comes w ((body0.drop 57).take 1) pos56 (S56 g w.params os) pos57 (S57 g w.params os)) (z58 : Comes w ((body0.drop 58).take 1) pos57 (S57 g w.params os) pos58 (S58 g w.params os)) :
    Comes w body0 default (Sb g' w.params os) pos86 (S86 g w.params os) := by
  rw [body_cut]
  have e : (default : Pos) = posb := rfl
  rw [e]
  refine Comes.trans ?_ (comes_of (g8 w.params g' os))
  refine Comes.trans ?_ h9
  refine Comes.trans ?_ (comes_of (g30 w.params g os))
  refine Comes.trans ?_ z31
  refine Comes.trans ?_ z32
  refine Comes.trans ?_ z33
  refine Comes.trans ?_ (comes_of (g55 w.params g os))
  refine Comes.trans ?_ z56
  refine Comes.trans ?_ z57
  refine Comes.trans ?_ z58
  refine Comes.trans ?_ (comes_of (g71 w.params g os))
  refine Comes.trans ?_ (comes_of (g74 w.params g os))
  refine Comes.trans ?_ (comes_of (g75 w.params g os))
  refine Comes.trans ?_ (comes_of (g77 w.params g os))
  refine Comes.trans ?_ (comes_of (g78 w.params g os))
  exact comes_of (g86 w.params g os)
end Mine
end
section
open PySem PySem.W PySem.Calls PyProof.Rows
set_option Elab.async false
set_option maxRecDepth 100000
namespace Mine
set_option maxHeartbeats 0 in
theorem hd3 (top : ∀ w, Behind prog0 view0 loose0 (XL view0 lv0) (kmHook K0 as0 as0_K [1352]).says w) {d : DefRec} {kwd : List (Str × Expr)} (hdef : defOf view0 (Str.ofString "law") = some (d, kwd)) (hkw : kwd = [])
    (walk : WalkO view0 loose0 (XL view0 lv0) (kmHook K0 as0 as0_K [1352]).says PySem.Challenge.rw_az0025_01.row.toRowW d kwd fun f vs => PySem.call f vs) : PySem.Challenge.rw_az0025_01.Holds := by
  refine holds_law well fun said => ?_
  subst hkw
  obtain ⟨d0, e9, hp, hk⟩ : ∃ d0, defOf view0 (Str.ofString "law") = some (d0, []) ∧ PySem.Challenge.rw_az0025_01.row.prog.theDef PySem.Challenge.rw_az0025_01.row.name = some (d0.params, d0.body, d0.scope) ∧ kwWritten? d0.params.kwonlyargs d0.params.kw_defaults = some [] := ⟨_, by rfl, by rfl, by rfl⟩
  have e10 := hdef.symm.trans e9
  obtain ⟨rfl, _⟩ := Prod.mk.inj (Option.some.inj e10)
  refine holds_behind (r := PySem.Challenge.rw_az0025_01.row) (q := view0) (loose := loose0) top rfl (Hook.keeps _) XL.keeps hdef hp hk said (by decide +kernel) ⟨rfl, rfl, rfl, rfl, rfl, by decide +kernel⟩ ?hw walk
  case hw => w_witness2
end Mine
end
section
open PySem PySem.W PySem.Calls PyProof.Rows
set_option Elab.async false
set_option maxRecDepth 100000
namespace Mine
def isFunc : Code → Bool
  | .func .. => true
  | _ => false
noncomputable def a9 (g : Nat → Obj) (P : Params) (os : OsState) : Res Flow := runL isFunc 60 P ((body0.drop 9).take 1) pos8 (S8 g P os)
noncomputable def e9 (g : Nat → Obj) (P : Params) (os : OsState) : SharedT := ⟨tr8 g P, 1329, {}, #[], {}, 20215, os⟩
theorem X9 : ∀ (P : Params) (g' g : Nat → Obj) (os : OsState), (a9 g' P os).kont (.ok (.ret (.ref 43))) (e9 g P os) = .ok .next pos9 (S9 g P os) := by
  unfold a9 runL
  rw [PySem.W.Fast.runQ_eq]
  intro P g' g os
  kernel_rfl
end Mine
end
section
open PySem PySem.W PySem.Calls PyProof.Rows
set_option Elab.async false
set_option maxRecDepth 100000
namespace Mine
def sc9 : Scope := { kind := .function, names := [(Str.ofString "lookup", .local), (Str.ofString "bits_per_byte", .local), (Str.ofString "num", .local), (Str.ofString "bits", .local), (Str.ofString "i", .local), (Str.ofString "range", .globalImplicit)], isGenerator := false, isCoroutine := false, more := [] }
def env9 : Env := { scope := sc9, locals := 42, globals := 3, cells := [], qual := Str.ofString "bytes_to_bits.<locals>.", func := some 41, code := .ref 40, frame := some 42, builtins := builtinsNs }
@[reducible] def sSet : Stmt := .Assign [.Subscript (.Name "bits" ⟨18, 12, 18, 16⟩) (.Name "i" ⟨18, 17, 18, 18⟩) ⟨18, 12, 18, 19⟩] (.Subscript (.Constant (.str "01") 0 ⟨18, 22, 18, 26⟩) (.BinOp (.Name "num" ⟨18, 27, 18, 30⟩) .BitAnd (.Constant (.int 1) 0 ⟨18, 33, 18, 34⟩) ⟨18, 27, 18, 34⟩) ⟨18, 22, 18, 35⟩) ⟨18, 12, 18, 35⟩
@[reducible] def sShr : Stmt := .AugAssign (.Name "num" ⟨19, 12, 19, 15⟩) .RShift (.Constant (.int 1) 0 ⟨19, 20, 19, 21⟩) ⟨19, 12, 19, 21⟩
@[reducible] def sIn : Stmt := .For (.Name "i" ⟨17, 12, 17, 13⟩) (.Name "bits_per_byte" ⟨17, 17, 17, 30⟩) [sSet, sShr] [] ⟨17, 8, 19, 21⟩
@[reducible] def sBits : Stmt := .Assign [.Name "bits" ⟨16, 8, 16, 12⟩] (.BinOp (.Constant (.int 8) 0 ⟨16, 15, 16, 16⟩) .Mult (.List [.Constant .none 0 ⟨16, 20, 16, 24⟩] ⟨16, 19, 16, 25⟩) ⟨16, 15, 16, 25⟩) ⟨16, 8, 16, 25⟩
@[reducible] def sApp : Stmt := .Expr (.Call (.Attribute (.Name "lookup" ⟨20, 8, 20, 14⟩) "append" ⟨20, 8, 20, 21⟩) [.Call (.Attribute (.Constant (.str "") 0 ⟨20, 22, 20, 24⟩) "join" ⟨20, 22, 20, 29⟩) [.Name "bits" ⟨20, 30, 20, 34⟩] [] ⟨20, 22, 20, 35⟩] [] ⟨20, 8, 20, 36⟩) ⟨20, 8, 20, 36⟩
@[reducible] def sOut : Stmt := .For (.Name "num" ⟨15, 8, 15, 11⟩) (.Call (.Name "range" ⟨15, 15, 15, 20⟩) [.Constant (.int 256) 0 ⟨15, 21, 15, 24⟩] [] ⟨15, 15, 15, 25⟩) [sBits, sIn, sApp] [] ⟨15, 4, 20, 36⟩
@[reducible] def sLook : Stmt := .Assign [.Name "lookup" ⟨13, 4, 13, 10⟩] (.List [] ⟨13, 13, 13, 15⟩) ⟨13, 4, 13, 15⟩
@[reducible] def sRange : Stmt := .Assign [.Name "bits_per_byte" ⟨14, 4, 14, 17⟩] (.Call (.Name "range" ⟨14, 20, 14, 25⟩) [.Constant (.int 7) 0 ⟨14, 26, 14, 27⟩, .UnaryOp .USub (.Constant (.int 1) 0 ⟨14, 30, 14, 31⟩) ⟨14, 29, 14, 31⟩, .UnaryOp .USub (.Constant (.int 1) 0 ⟨14, 34, 14, 35⟩) ⟨14, 33, 14, 35⟩] [] ⟨14, 20, 14, 36⟩) ⟨14, 4, 14, 36⟩
@[reducible] def sRet : Stmt := .Return (some (.Name "lookup" ⟨21, 11, 21, 17⟩)) ⟨21, 4, 21, 17⟩
@[reducible] def body9 : List Stmt := [sLook, sRange, sOut, sRet]
noncomputable def s9 (g : Nat → Obj) (P : Params) (os : OsState) : SharedT := ⟨BT.set (tr8 g P) 42 (fun _ => ⟨.type "frame", none, .dict #[] 0, #[]⟩), 43, {}, #[], {}, 237, os⟩
theorem A9 : ∀ (P : Params) (g : Nat → Obj) (os : OsState), (a9 g P os).head = some (hCtx (a9 g P os), hPos (a9 g P os), s9 g P os) := by
  unfold a9 runL
  rw [PySem.W.Fast.runQ_eq]
  intro P g os
  kernel_rfl
theorem A9c : ∀ (P : Params) (g : Nat → Obj) (os : OsState), (hCtx (a9 g P os)).code = .func body9 env9 := by
  unfold a9 runL
  rw [PySem.W.Fast.runQ_eq]
  intro P g os
  kernel_rfl
theorem A9h : ∀ (P : Params) (g : Nat → Obj) (os : OsState), (hCtx (a9 g P os)).handled = none := by
  unfold a9 runL
  rw [PySem.W.Fast.runQ_eq]
  intro P g os
  kernel_rfl
theorem A9f : ∀ (P : Params) (g : Nat → Obj) (os : OsState), (frameCount (hCtx (a9 g P os)).below, unitsOf (hCtx (a9 g P os)).below) = (302, 7) := by
  unfold a9 runL
  rw [PySem.W.Fast.runQ_eq]
  intro P g os
  kernel_rfl

section
variable {w : World} {A : Around} {E : Value → Shared → Prop} {s : Shared}
theorem ld9 {x : Str} {pos : Pos} {m : Str → Option Value} {v : Value} {Q : Value → Shared → Prop} (hl : env9.kindOf x = some .local) (hn : s.heap.Ns 42 m) (hv : m x = some v) (h : Q v s)
    (hd : (x == ("__debug__" : Str)) = false := by decide) : wpAny (model prog0 w) A (eval (.Name x pos) env9) Q E s := wpAny_Name (wpAny_loadName_local rfl hl hn hv h) hd
theorem bit_01 (v : Int) : Builtin.bitAnd v 1 = 0 ∨ Builtin.bitAnd v 1 = 1 := by
  rw [PyProof.Rows.bitAnd_m1]
  omega
theorem subscript_op {value l r : Expr} {op : Operator} {p pos : Pos} {Q : Value → Shared → Prop} {env : Env}
    (h : wpAny (model prog0 w) A (eval value env) (fun o s₁ => wpAny (model prog0 w) A (eval (.BinOp l op r p) env) (fun i s₂ => SubscriptOn (model prog0 w) A o i Q E s₂) E s₁) E s) :
    wpAny (model prog0 w) A (eval (.Subscript value (.BinOp l op r p) pos) env) Q E s := by
  rw [eval_Subscript]
  refine wpAny_bind (wpAny_mono h (fun o s₁ h₁ => wpAny_bind (wpAny_holding (wpAny_mono h₁ (fun i s₂ h₂ => wpAny_bind (wpAny_standAt ?_)) fun _ _ x => x))) fun _ _ x => x)
  obtain ⟨T, id, hl, hT, hg⟩ := h₂
  refine wpAny_bind ?_
  rw [getitemInPython_of_ne hT.not_modules]
  refine wpAny_bind (wpAny_specialOf hT hl ?_)
  have fin : wpAny (model prog0 w) A (operate [o, i] (getItem o i)) (fun r s₃ => wpAny (model prog0 w) A (letTemporaryGo value o r >>= fun _ => pure r) Q E s₃) E s₂ :=
    wpAny_operating (wpAny_mono hg (fun r s₃ h₃ => wpAny_bind (wpAny_letTemporaryGo (wpAny_pure h₃))) fun _ _ x => x)
  first
    | exact wpAny_pure (wpAny_bind fin)
    | exact wpAny_bind (wpAny_pure (wpAny_bind fin))
    | exact wpAny_bind fin
theorem isList_same {h h' : Heap} {a b : Addr} {its : Array Value} (x : h.IsList a its) (hs : Heap.SameBut b h h') (n : a ≠ b) : h'.IsList a its := x.extBut hs.extBut n
/-- what an inner turn leaves -/
def Turned (s : Shared) (m : Str → Option Value) (D : Addr) (items : Array Value) (k : Int) (f : Flow) (s₂ : Shared) : Prop :=
  f = .next ∧ ∃ h' m' x tx v' t', s₂ = { s with heap := h', toks := s.toks + 7 } ∧ h'.objs.size = s.heap.objs.size ∧ (∀ b, b ≠ 42 → b ≠ D → h'.get? b = s.heap.get? b) ∧ h'.Ns 42 m' ∧
      m' "num" = some (.int v' t') ∧ (∀ z : Str, z ≠ "num" → m' z = m z) ∧ h'.IsList D (items.setIfInBounds k.toNat (.str x tx)) ∧ x.length = 1
theorem inner_turn {m : Str → Option Value} {D : Addr} {v k : Int} {t u : Tok} {items : Array Value} (hn : s.heap.Ns 42 m) (hb : m "bits" = some (.ref D)) (hv : m "num" = some (.int v t)) (hk : m "i" = some (.int k u)) (k0 : 0 ≤ k) (k1 : k < 8)
    (hD : s.heap.IsList D items) (hz : items.size = 8) (hne : 42 ≠ D) : wpAny (model prog0 w) A (execs [sSet, sShr] env9) (Turned s m D items k) E s := by
  refine wpAny_execs_cons (wpAny_Assign_Subscript (subscript_op (wpAny_Constant_str (wpAny_BinOp (ld9 rfl hn hv (wpAny_Constant_int (and_int ⟨"str", "str.__getitem__", PyProof.Rows.slot_str_getitem.lookup, typeIs_str _ _ _, ?_⟩)))))))
  have fin : ∀ c : Nat, wpAny (model prog0 w) A (eval (.Name "bits" ⟨18, 12, 18, 16⟩) env9) (fun ov s₂ => wpAny (model prog0 w) A (eval (.Name "i" ⟨18, 17, 18, 18⟩) env9) (fun iv s₃ => wpAny (model prog0 w) A (setItem ov iv (.str ⟨#[c]⟩ (s.toks + 3)))
      (fun _ s' => wpAny (model prog0 w) A (execs [sShr] env9) (Turned s m D items k) E s') E s₃) E s₂) E { s with toks := s.toks + 4 } := by
    intro c
    refine ld9 rfl hn hb (ld9 rfl hn hk (wpAny_setItem_list hD k0 (by omega) (by omega) fun h₁ hl₁ hs₁ => ?_))
    have hn₁ := hn.sameBut hs₁ hne
    refine wpAny_execs_cons (wpAny_AugAssign_Name (wpAny_loadName_local rfl rfl hn₁ hv (wpAny_Constant_int (irshift_int (by decide) (wpAny_storeName_local rfl hn₁ fun h₂ hn₂ hs₂ => ?_)))))
    exact wpAny_execs_nil ⟨rfl, h₂, _, ⟨#[c]⟩, s.toks + 3, _, _, rfl, hs₂.1.trans hs₁.1, fun b b1 b2 => (hs₂.2 b b1).trans (hs₁.2 b b2), hn₂, rfl, fun z hz => if_neg hz, isList_same hl₁ hs₂ (Ne.symm hne), rfl⟩
  rcases bit_01 v with e | e
  · rw [e]
    exact getItem_str (c := 48) rfl rfl (fin 48)
  · rw [e]
    exact getItem_str (c := 49) rfl rfl (fin 49)
end
end Mine
end
section
open PySem PySem.W PySem.Calls PyProof.Rows
set_option Elab.async false
set_option maxRecDepth 100000
namespace Mine
section
variable {w : World} {A : Around} {E : Value → Shared → Prop} {s : Shared}
/-- the end of a range: its exception and that one's arguments are two new objects -/
theorem range_end2 {it : Addr} {x left step : Int} {Q : Option Value → Shared → Prop} (hh : A.handled = none) (hit : IsRangeIter s.heap it x left step) (hleft : left ≤ 0)
    (hQ : ∀ o₁ o₂, Q none { s with heap := (s.heap.push o₁).push o₂ }) : wpAny (model prog0 w) A (pyNext (.ref it)) Q E s := by
  have hT : s.TypeIs (.ref it) "range_iterator" := ⟨_, hit, rfl⟩
  unfold pyNext
  refine wpAny_bind (wpAny_attempt (wpAny_callSpecial?_slot (name := Str.ofString "__next__") hT F.slot_range_iterator_next
    (wpAny_call_entry F.slot_range_iterator_next hT F.entry_range_iterator_next ?_ (F.args_range_iterator_next_1 _))))
  show wpAny _ _ (field (.ref it) 0 >>= _) _ _ s
  refine wpAny_bind (wpAny_field hit rfl (x := rawInt x) rfl ?_)
  show wpAny _ _ (field (.ref it) 1 >>= _) _ _ s
  refine wpAny_bind (wpAny_field hit rfl (x := rawInt left) rfl ?_)
  show wpAny _ _ (field (.ref it) 2 >>= _) _ _ s
  refine wpAny_bind (wpAny_field hit rfl (x := rawInt step) rfl ?_)
  show wpAny _ _ (if left ≤ 0 then _ else _) _ _ s
  rw [if_pos hleft]
  refine wpAny_bind (wpAny_rule ?_)
  refine wpAny_bind ?_
  show wpAny _ _ (newExc (.type "StopIteration") [] >>= _) _ _ _
  refine wpAny_bind ?_
  simp only [newExc, newTuple]
  refine wpAny_bind (wpAny_newObj_type ?_ (by size_fits))
  refine wpAny_bind (m := firstArgMember _ _) (wpAny_of_eq (a := Value.none) (by first | rfl | (simp only [firstArgMember]; rfl)) ?_)
  refine wpAny_newObj_type ?_ (by size_fits)
  simp only [raiseNew]
  refine wpAny_bind (wpAny_handled ?_)
  first | rw [show A.in1.handled = none from hh] | rw [hh]
  refine wpAny_bind (wpAny_pure (wpAny_throw ?_))
  refine wpAny_bind (wpAny_isInstance (T := "StopIteration") (b := true) ⟨_, Heap.get?_push_size _ rfl, rfl⟩ isSubtype_stop ?_)
  exact wpAny_pure (hQ _ _)
/-- the strings from some place on -/
def StrFrom (items : Array Value) (j : Nat) : Prop := items.size = 8 ∧ ∀ q : Nat, 8 ≤ q + j → q < 8 → ∃ x t, items[q]? = some (.str x t) ∧ x.length = 1
theorem StrFrom.set {items : Array Value} {j : Nat} {x : Str} {t : Tok} (h : StrFrom items j) (hj : j < 8) (hx : x.length = 1) : StrFrom (items.setIfInBounds (7 - (j : Int)).toNat (.str x t)) (j + 1) := by
  obtain ⟨h1, h2⟩ := h
  refine ⟨by simpa using h1, fun q q1 q2 => ?_⟩
  have e : (7 - (j : Int)).toNat = 7 - j := by omega
  rw [e, Array.getElem?_setIfInBounds]
  by_cases hq : 7 - j = q
  · rw [if_pos hq, if_pos (by omega)]
    exact ⟨x, t, rfl, hx⟩
  · rw [if_neg hq]
    exact h2 q (by omega) q2
theorem inner_loop {R : Result → Shared → Prop} (hh : A.handled = none) {m : Str → Option Value} {D J : Addr} {v : Int} {t : Tok} {items : Array Value} (hn : s.heap.Ns 42 m) (hb : m "bits" = some (.ref D)) (hv : m "num" = some (.int v t))
    (hJ : IsRangeIter s.heap J 7 8 (-1)) (hD : s.heap.IsList D items) (hz : items.size = 8) (n1 : 42 ≠ D) (n2 : 42 ≠ J) (n3 : J ≠ D)
    (hR : ∀ h' m' items', h'.objs.size = s.heap.objs.size + 2 → (∀ b o, b ≠ 42 → b ≠ D → b ≠ J → s.heap.get? b = some o → h'.get? b = some o) → h'.Ns 42 m' → (∀ z : Str, z ≠ "num" → z ≠ "i" → m' z = m z) → h'.IsList D items' → StrFrom items' 8 →
      R (.ok .next) { s with heap := h', toks := s.toks + 72 }) :
    codeAny (model prog0 w) A (.forLoop (.Name "i" ⟨17, 12, 17, 13⟩) (.ref J) [sSet, sShr] [] env9) R s := by
  refine codeAny_forLoop (fun n s' => ∃ h j items m', s' = { s with heap := h, toks := s.toks + 9 * j } ∧ j ≤ 8 ∧ n = 9 - j ∧ IsRangeIter h J (7 - (j : Int)) (8 - (j : Int)) (-1) ∧ h.objs.size = s.heap.objs.size ∧ (∀ b, b ≠ 42 → b ≠ D → b ≠ J → h.get? b = s.heap.get? b) ∧
    h.Ns 42 m' ∧ (∃ v t, m' "num" = some (.int v t)) ∧ (∀ z : Str, z ≠ "num" → z ≠ "i" → m' z = m z) ∧ h.IsList D items ∧ StrFrom items j) ?_ 9 ⟨s.heap, 0, items, m, rfl, by decide, rfl, by simpa using hJ, rfl, fun _ _ _ _ => rfl, hn, ⟨_, _, hv⟩, fun _ _ _ => rfl, hD, hz, fun q a b => absurd a (by omega)⟩
  rintro n s' ⟨h, j, its, m', rfl, j8, rfl, it, sz, old, ns, ⟨v', t', hv'⟩, hm, hl, hf⟩
  by_cases hj : j < 8
  · refine wpAny_pyNext_range_item it (by omega) fun h₁ it₁ hs₁ => ?_
    have ns₁ := ns.sameBut hs₁ n2
    refine wpAny_assign_Name (wpAny_storeName_local rfl ns₁ fun h₂ ns₂ hs₂ => ?_)
    have hl₂ : h₂.IsList D its := isList_same (isList_same hl hs₁ (Ne.symm n3)) hs₂ (Ne.symm n1)
    have e1 : (fun x : Str => if x = "i" then some (Value.int (7 - (j : Int)) (s.toks + 9 * j)) else m' x) "bits" = some (.ref D) := by
      show (if ("bits" : Str) = "i" then _ else _) = _
      rw [if_neg (by decide), hm _ (by decide) (by decide), hb]
    have e2 : (fun x : Str => if x = "i" then some (Value.int (7 - (j : Int)) (s.toks + 9 * j)) else m' x) "num" = some (.int v' t') := by
      show (if ("num" : Str) = "i" then _ else _) = _
      rw [if_neg (by decide), hv']
    refine wpAny_mono (inner_turn ns₂ e1 e2 rfl (by omega) (by omega) hl₂ hf.1 n1) (fun f s₃ h₃ => ?_) fun _ _ x => x
    obtain ⟨rfl, h₄, m₄, x, tx, v₄, t₄, rfl, z₄, o₄, ns₄, hv₄, hm₄, hl₄, hx⟩ := h₃
    refine ⟨9 - (j + 1), by omega, h₄, j + 1, _, m₄, ?_, hj, rfl, ?_, ?_, fun b b1 b2 b3 => ?_, ns₄, ⟨_, _, hv₄⟩, fun z z1 z2 => ?_, hl₄, hf.set hj hx⟩
    · exact congrArg (fun k => Shared.mk h₄ s.gens s.drawn k s.os) (show s.toks + 9 * j + 1 + 1 + 7 = s.toks + 9 * (j + 1) by omega)
    · have a1 : (7 : Int) - ((j + 1 : Nat) : Int) = 7 - (j : Int) + -1 := by omega
      have a2 : (8 : Int) - ((j + 1 : Nat) : Int) = 8 - (j : Int) - 1 := by omega
      rw [a1, a2]
      exact (o₄ J (Ne.symm n2) n3).trans ((hs₂.2 J (Ne.symm n2)).trans it₁)
    · exact z₄.trans (hs₂.1.trans (hs₁.1.trans sz))
    · exact (o₄ b b1 b2).trans ((hs₂.2 b b1).trans ((hs₁.2 b b3).trans (old b b1 b2 b3)))
    · rw [hm₄ z z1]
      exact (if_neg z2).trans (hm z z1 z2)
  · obtain rfl : j = 8 := by omega
    refine range_end2 hh it (by omega) fun o₁ o₂ => wpAny_execs_nil ?_
    refine hR _ m' its ?_ (fun b o b1 b2 b3 e => ?_) ((ns.push _).push _) hm ((hl.push _).push _) hf
    · rw [Heap.size_push, Heap.size_push, sz]
    · exact Heap.get?_push_of_some _ (Heap.get?_push_of_some _ ((old b b1 b2 b3).trans e))
end
end Mine
end
section
open PySem PySem.W PySem.Calls PyProof.Rows
set_option Elab.async false
set_option maxRecDepth 100000
namespace Mine
theorem strs_of {items : Array Value} (h : StrFrom items 8) : ∃ l : List (Str × Tok), strValues l = items.toList ∧ l.length = 8 ∧ ∀ p ∈ l, p.1.length = 1 := by
  obtain ⟨h1, h2⟩ := h
  have key : ∀ v ∈ items.toList, ∃ x t, v = .str x t ∧ x.length = 1 := fun v hv => by
    obtain ⟨q, hq, e⟩ := Array.mem_iff_getElem.mp (Array.mem_toList_iff.mp hv)
    obtain ⟨x, t, e2, e3⟩ := h2 q (by omega) (by omega)
    rw [Array.getElem?_eq_getElem hq, e] at e2
    exact ⟨x, t, Option.some.inj e2, e3⟩
  obtain ⟨l, hl⟩ := exists_strValues items.toList fun v hv => by obtain ⟨x, t, e, _⟩ := key v hv; exact ⟨x, t, e⟩
  refine ⟨l, hl, ?_, fun p hp => ?_⟩
  · have := congrArg List.length hl
    simpa [strValues, h1] using this
  · have hm : Value.str p.1 p.2 ∈ items.toList := by rw [← hl]; exact List.mem_map.mpr ⟨p, hp, rfl⟩
    obtain ⟨x, t, e, e3⟩ := key _ hm
    cases e
    exact e3
section
variable {w : World} {A : Around} {E : Value → Shared → Prop} {s : Shared}
theorem mul_new {l : Addr} {items : Array Value} {k : Nat} {x : Int} {u : Tok} {Q : Value → Shared → Prop}
    (hl : s.heap.get? l = some { cls := .type "list", dict := none, data := .seq items k, slots := #[] }) (hlo : -(2 ^ 63 : Int) ≤ x) (hhi : x < 2 ^ 63) (hsz : items.size * x.toNat ≤ 2 ^ 24)
    (h : Q (.ref s.heap.objs.size) { s with heap := s.heap.push { cls := .type "list", data := .seq (List.foldl (fun x1 x2 => x1 ++ x2) #[] (List.replicate (if items.isEmpty = true then 0 else x.toNat) items)) } }) :
    wpAny (model prog0 w) A (binaryOp .Mult (.int x u) (.ref l)) Q E s :=
  lm_binaryOp_repeat_right (T := "list") (U := "int") (by decide) (fun s' => typeIs_int s' x u) ⟨_, hl, rfl⟩ F.fills_int_mul noFill_list_mul F.slot_int_mul lm_noRepeat_int repeat_list F.slot_int_index.lookup
    (call_meets F.slot_int_mul (typeIs_int s x u) F.entry_int_mul (F.args_int_mul_2 _ _) (int___mul___int_list x u l items k)
      ⟨hl, rfl, ⟨_, hl, rfl⟩, call_meets F.slot_list_mul ⟨_, hl, rfl⟩ F.entry_list_mul (F.args_list_mul_2 _ _)
        (AutoListH.list___mul___list_int_3 l items k x u (by simp [Builtin.List.listFitsIndex]; omega) (by omega) (by simp [Builtin.List.listTooLong, sizeLine]; omega)) ⟨hl, h⟩⟩)
theorem join_exact {t : Tok} {D : Addr} {items : Array Value} {Q : Value → Shared → Prop} (hD : s.heap.IsList D items) (hf : StrFrom items 8) (h : ∀ x, Q (.str x s.toks) { s with toks := s.toks + 1 }) :
    wpAny (model prog0 w) A (call (.builtin "str.join") [.str "" t, .ref D]) Q E s := by
  obtain ⟨l, h1, h2, h3⟩ := strs_of hf
  have e : (strValues l).toArray = items := by rw [h1]
  have hlen : Builtin.Str.tooLong ((l.map (·.1)).toArray.foldl (· + ·.length + ("" : Str).length) 0) = false ∧ (joinMade "" l).post Q s := by
    match l, h2, h3 with
    | [p0, p1, p2, p3, p4, p5, p6, p7], _, h3 =>
      have hl : Builtin.Str.tooLong (([p0, p1, p2, p3, p4, p5, p6, p7].map (·.1)).toArray.foldl (· + ·.length + ("" : Str).length) 0) = false := by
        have a0 := h3 p0 (by simp)
        have a1 := h3 p1 (by simp)
        have a2 := h3 p2 (by simp)
        have a3 := h3 p3 (by simp)
        have a4 := h3 p4 (by simp)
        have a5 := h3 p5 (by simp)
        have a6 := h3 p6 (by simp)
        have a7 := h3 p7 (by simp)
        simp only [List.map_cons, List.map_nil, List.foldl_toArray', List.foldl_cons, List.foldl_nil, a0, a1, a2, a3, a4, a5, a6, a7]
        rfl
      exact ⟨hl, by have := joinFit_length hl; exact this, h _⟩
  exact call_meets F.slot_str_join (typeIs_str s "" t) F.entry_str_join (F.args_str_join_2 _ _) (meets_str_join_list "" t D l hlen.1) ⟨e ▸ hD, hlen.2⟩
/-- the state at the outer loop's turns -/
structure Out9 (H0 : Heap) (h : Heap) (i j : Nat) (m : Str → Option Value) : Prop where
  sz : h.objs.size = 47 + 5 * i
  old : ∀ (b : Nat) (o : Obj), b < 42 → H0.get? b = some o → h.get? b = some o
  ns : h.Ns 42 m
  look : m "lookup" = some (.ref 43)
  bits : m "bits_per_byte" = some (.ref 44)
  list : ∃ items n, h.get? 43 = some { cls := .type "list", data := .seq items n } ∧ items.size = i
  range : ∃ t u v, IsRange h 44 7 (-1) (-1) t u v
  iter : IsRangeIter h 46 (j : Int) (256 - (j : Int)) 1
theorem ne9 {a b : Nat} (h : a < b ∨ b < a) : @Ne Addr a b := fun e => by
  have e' : (a : Nat) = b := e
  omega
theorem eight_nones : (List.foldl (fun x1 x2 => x1 ++ x2) #[] (List.replicate (if (#[Value.none] : Array Value).isEmpty = true then 0 else (8 : Int).toNat) #[Value.none])).size = 8 := by rfl
theorem outer_turn (hh : A.handled = none) {H0 : Heap} {h : Heap} {i : Nat} {m : Str → Option Value} {v : Int} {t : Tok} {g : Array GenState} {dr : Drawn} {tk : Nat} {os : OsState} (I : Out9 H0 h i (i + 1) m) (hi : i < 256) (hv : m "num" = some (.int v t)) :
    wpAny (model prog0 w) A (execs [sBits, sIn, sApp] env9) (fun f s₂ => f = .next ∧ ∃ h' m', s₂ = ⟨h', g, dr, tk + 76, os⟩ ∧ Out9 H0 h' (i + 1) (i + 1) m') E ⟨h, g, dr, tk, os⟩ := by
  obtain ⟨sz, old, ns, look, bits, ⟨items, n, h43, hz⟩, ⟨t1, t2, t3, h44⟩, iter⟩ := I
  refine wpAny_execs_cons (wpAny_Assign_Name (wpAny_BinOp (wpAny_Constant_int (wpAny_List (wpAny_items_cons (wpAny_Constant_none (wpAny_items_nil ⟨by decide, ?_⟩)))))))
  dsimp only
  refine mul_new (Heap.get?_push_size _ rfl) (by decide) (by decide) (by decide) ?_
  dsimp only
  generalize ho : ({ cls := .type "list", data := .seq #[Value.none] } : Obj) = o1
  have hit2 := eight_nones
  generalize List.foldl (fun x1 x2 => x1 ++ x2) #[] (List.replicate (if (#[Value.none] : Array Value).isEmpty = true then 0 else (8 : Int).toNat) #[Value.none]) = its at hit2 ⊢
  have D1 : (h.push o1).objs.size = 48 + 5 * i := by rw [Heap.size_push, sz]; omega
  rw [D1]
  have lD : ((h.push o1).push { cls := .type "list", data := .seq its }).IsList (48 + 5 * i) its := ⟨_, by rw [← D1]; exact Heap.get?_push_size _ rfl, rfl, _, rfl⟩
  have sz2 : ((h.push o1).push { cls := .type "list", data := .seq its }).objs.size = 49 + 5 * i := by rw [Heap.size_push, D1]; omega
  have keep : ∀ b o, h.get? b = some o → ((h.push o1).push { cls := .type "list", data := .seq its }).get? b = some o := fun b o e => Heap.get?_push_of_some _ (Heap.get?_push_of_some _ e)
  have ns2 := (ns.push o1).push { cls := .type "list", data := .seq its }
  generalize (h.push o1).push { cls := .type "list", data := .seq its } = h2 at lD sz2 keep ns2 ⊢
  refine wpAny_storeName_local rfl ns2 fun h3 ns3 hs3 => ?_
  dsimp only at hs3 ⊢
  have lD3 : h3.IsList (48 + 5 * i) its := isList_same lD hs3 (ne9 (a := 48 + 5 * i) (b := 42) (by omega))
  have keep3 : ∀ b o, b ≠ 42 → h.get? b = some o → h3.get? b = some o := fun b o hb e => (hs3.2 b hb).trans (keep b o e)
  have sz3 : h3.objs.size = 49 + 5 * i := hs3.1.trans sz2
  have q1 : (fun x : Str => if x = "bits" then some (Value.ref (48 + 5 * i)) else m x) "bits" = some (.ref (48 + 5 * i)) := rfl
  have q2 : (fun x : Str => if x = "bits" then some (Value.ref (48 + 5 * i)) else m x) "bits_per_byte" = some (.ref 44) := (if_neg (by decide)).trans bits
  have q3 : (fun x : Str => if x = "bits" then some (Value.ref (48 + 5 * i)) else m x) "num" = some (.int v t) := (if_neg (by decide)).trans hv
  have q4 : (fun x : Str => if x = "bits" then some (Value.ref (48 + 5 * i)) else m x) "lookup" = some (.ref 43) := (if_neg (by decide)).trans look
  generalize (fun x : Str => if x = "bits" then some (Value.ref (48 + 5 * i)) else m x) = m3 at ns3 q1 q2 q3 q4
  refine wpAny_execs_cons (wpAny_For (ld9 rfl ns3 q2 (wpAny_pyIter_range (a := 7) (b := -1) (c := -1) (t := t1) (u := t2) (v := t3) (keep3 44 _ (by decide) h44) (by decide) ?_)))
  dsimp only
  rw [sz3]
  have it4 : IsRangeIter (h3.push { cls := .type "range_iterator", data := .fields #[rawInt 7, rawInt (Builtin.Range.rangeSize 7 (-1) (-1)), rawInt (-1)] }) (49 + 5 * i) 7 8 (-1) := by rw [← sz3]; exact Heap.get?_push_size _ rfl
  have lD4 := lD3.push { cls := .type "range_iterator", data := .fields #[rawInt 7, rawInt (Builtin.Range.rangeSize 7 (-1) (-1)), rawInt (-1)] }
  have ns4 := ns3.push { cls := .type "range_iterator", data := .fields #[rawInt 7, rawInt (Builtin.Range.rangeSize 7 (-1) (-1)), rawInt (-1)] }
  have sz4 : (h3.push { cls := .type "range_iterator", data := .fields #[rawInt 7, rawInt (Builtin.Range.rangeSize 7 (-1) (-1)), rawInt (-1)] }).objs.size = 50 + 5 * i := by rw [Heap.size_push, sz3]; omega
  have keep4 : ∀ b o, b ≠ 42 → h.get? b = some o → (h3.push { cls := .type "range_iterator", data := .fields #[rawInt 7, rawInt (Builtin.Range.rangeSize 7 (-1) (-1)), rawInt (-1)] }).get? b = some o := fun b o hb e => Heap.get?_push_of_some _ (keep3 b o hb e)
  generalize h3.push { cls := .type "range_iterator", data := .fields #[rawInt 7, rawInt (Builtin.Range.rangeSize 7 (-1) (-1)), rawInt (-1)] } = h4 at it4 lD4 ns4 sz4 keep4 ⊢
  refine inner_loop hh ns4 q1 q3 it4 lD4 hit2 (ne9 (by omega)) (ne9 (by omega)) (ne9 (by omega)) fun h5 m5 its5 sz5 keep5 ns5 hm5 lD5 hf5 => ?_
  dsimp only at sz5 keep5 ⊢
  have lt : ∀ (b : Nat) (o : Obj), h.get? b = some o → b < 47 + 5 * i := fun b o e => sz ▸ Heap.lt_size e
  have keepE : ∀ b o, b ≠ 42 → h.get? b = some o → h5.get? b = some o := fun b o hb e => keep5 b o hb (ne9 (by have := lt b o e; omega)) (ne9 (by have := lt b o e; omega)) (keep4 b o hb e)
  have p1 : m5 "bits" = some (.ref (48 + 5 * i)) := (hm5 _ (by decide) (by decide)).trans q1
  have p2 : m5 "bits_per_byte" = some (.ref 44) := (hm5 _ (by decide) (by decide)).trans q2
  have p4 : m5 "lookup" = some (.ref 43) := (hm5 _ (by decide) (by decide)).trans q4
  have l43 := keepE 43 _ (by decide) h43
  refine wpAny_execs_cons (wpAny_Expr (wpAny_Call_method1_late rfl rfl rfl (ld9 rfl ns5 p4 ⟨"list", "list.append", F.plainAttrs_list, F.slot_list_append, F.type_list_append, ⟨_, l43, rfl⟩, fun a e => by cases e; exact ⟨_, l43, rfl⟩,
    callWith_builtin rfl (evalArgs_plain (spliced_cons (wpAny_Call_method1_late rfl rfl rfl (wpAny_Constant_str ⟨"str", "str.join", F.plainAttrs_str, F.slot_str_join, F.type_str_join, typeIs_str _ _ _, fun a e => (nomatch e),
      callWith_builtin rfl (evalArgs_plain (spliced_cons (ld9 rfl ns5 p1 (spliced_nil (join_exact lD5 hf5 fun x => spliced_nil (append_at l43 (fun h6 hs6 l6 => ?_) ?_))))))⟩))))⟩)))
  · refine wpAny_execs_nil ⟨rfl, h6, m5, rfl, ?_⟩
    have keep6 : ∀ b o, b ≠ 42 → b ≠ 43 → h.get? b = some o → h6.get? b = some o := fun b o hb hb2 e => (hs6.2 b hb2).trans (keepE b o hb e)
    exact ⟨by rw [hs6.1]; show h5.objs.size = _; rw [sz5, sz4]; omega, fun b o hb e => keep6 b o (ne9 (.inl hb)) (ne9 (by omega)) (old b o hb e), ns5.sameBut hs6 (by decide), p4, p2, ⟨_, _, l6, by simp [hz]⟩, ⟨t1, t2, t3, keep6 44 _ (by decide) (by decide) h44⟩, keep6 46 _ (by decide) (by decide) iter⟩
  · rw [hz, sizeLine_eq]; omega
end
end Mine
end
section
open PySem PySem.W PySem.Calls PyProof.Rows
set_option Elab.async false
set_option maxRecDepth 100000
namespace Mine
theorem Runs.life {M : Model} {Γ : Ctx} {p : Pos} {t : Sem Fin} {fs : List Frame} {s s' : Shared} {e : End} (h : Runs M Γ p t fs s e s') : s'.heap.life = s.heap.life := by
  induction h with
  | update _ _ ih => rw [ih]; exact update_lifeW ..
  | alloc _ ih => rw [ih]; exact Heap.life_push ..
  | _ => first
    | rfl
    | ((try simp only [Shared.setGen] at *); simp_all)
theorem wpCode_life {M : Model} {Γ : Ctx} {R : Result → Shared → Prop} {p : Pos} {s : Shared} (h : wpCode M Γ R p s) : wpCode M Γ (fun r s' => R r s' ∧ s'.heap.life = s.heap.life) p s := by
  obtain ⟨r, s', hr, hR⟩ := h
  exact ⟨r, s', hr, hR, Runs.life hr⟩
section
variable {w : World} {A : Around} {E : Value → Shared → Prop} {s : Shared}
theorem outer_loop (hh : A.handled = none) {H0 h : Heap} {m : Str → Option Value} {g : Array GenState} {dr : Drawn} {tk : Nat} {os : OsState} {R : Result → Shared → Prop} (I : Out9 H0 h 0 0 m)
    (hR : ∀ h' m', h'.objs.size = 1329 → (∀ (b : Nat) (o : Obj), b < 42 → H0.get? b = some o → h'.get? b = some o) → h'.Ns 42 m' → m' "lookup" = some (.ref 43) → R (.ok .next) ⟨h', g, dr, tk + 19968, os⟩) :
    codeAny (model prog0 w) A (.forLoop (.Name "num" ⟨15, 8, 15, 11⟩) (.ref 46) [sBits, sIn, sApp] [] env9) R ⟨h, g, dr, tk, os⟩ := by
  refine codeAny_forLoop (fun n s' => ∃ h' i m', s' = ⟨h', g, dr, tk + 78 * i, os⟩ ∧ i ≤ 256 ∧ n = 257 - i ∧ Out9 H0 h' i i m') ?_ 257 ⟨h, 0, m, rfl, by decide, rfl, I⟩
  rintro n s' ⟨h₀, i, m₀, rfl, i8, rfl, I⟩
  obtain ⟨sz, old, ns, look, bits, ⟨its, n9, h43, hz⟩, ⟨t1, t2, t3, h44⟩, iter⟩ := I
  by_cases hi : i < 256
  · refine wpAny_pyNext_range_item iter (by omega) fun h₁ it₁ hs₁ => ?_
    refine wpAny_assign_Name (wpAny_storeName_local rfl (ns.sameBut hs₁ (by decide)) fun h₂ ns₂ hs₂ => ?_)
    dsimp only at hs₁ hs₂ ns₂ ⊢
    have both : ∀ (b : Nat), b ≠ 42 → b ≠ 46 → h₂.get? b = h₀.get? b := fun b b1 b2 => (hs₂.2 b b1).trans (hs₁.2 b b2)
    have a1 : (i : Int) + 1 = ((i + 1 : Nat) : Int) := by omega
    have a2 : 256 - (i : Int) - 1 = 256 - ((i + 1 : Nat) : Int) := by omega
    rw [a1, a2] at it₁
    have I₂ : Out9 H0 h₂ i (i + 1) (fun x => if x = "num" then some (.int (i : Int) (tk + 78 * i)) else m₀ x) :=
      ⟨hs₂.1.trans (hs₁.1.trans sz), fun b o hb e => (both b (by omega) (by omega)).trans (old b o hb e), ns₂, (if_neg (by decide)).trans look, (if_neg (by decide)).trans bits,
        ⟨its, n9, (both 43 (by decide) (by decide)).trans h43, hz⟩, ⟨t1, t2, t3, (both 44 (by decide) (by decide)).trans h44⟩, (hs₂.2 46 (by decide)).trans it₁⟩
    refine wpAny_mono (outer_turn hh I₂ hi rfl) (fun f s₃ h₃ => ?_) fun _ _ x => x
    obtain ⟨rfl, h₄, m₄, rfl, I₄⟩ := h₃
    exact ⟨257 - (i + 1), by omega, h₄, i + 1, m₄, congrArg (fun k => Shared.mk h₄ g dr k os) (show tk + 78 * i + 1 + 1 + 76 = tk + 78 * (i + 1) by omega), hi, rfl, I₄⟩
  · obtain rfl : i = 256 := by omega
    refine range_end2 hh iter (by omega) fun o₁ o₂ => wpAny_execs_nil ?_
    refine hR _ m₀ ?_ (fun b o hb e => ?_) ((ns.push _).push _) look
    · rw [Heap.size_push, Heap.size_push]; show h₀.objs.size + 1 + 1 = _; rw [sz]
    · exact Heap.get?_push_of_some _ (Heap.get?_push_of_some _ (old b o hb e))
theorem body_9 (hh : A.handled = none) {h : Heap} {mg mb : Str → Option Value} {g : Array GenState} {dr : Drawn} {tk : Nat} {os : OsState} (sz : h.objs.size = 43) (ns : h.Ns 42 fun _ => none) (ng : h.Ns 3 mg) (hg : mg "range" = none) (nb : h.Ns builtinsNs mb) (hb : mb "range" = some (.type "range")) :
    wpAny (model prog0 w) A (execs body9 env9) (fun f s₂ => f = .ret (.ref 43) ∧ ∃ h', s₂ = ⟨h', g, dr, tk + 19978, os⟩ ∧ h'.objs.size = 1329 ∧ ∀ (b : Nat) (o : Obj), b < 42 → h.get? b = some o → h'.get? b = some o) E ⟨h, g, dr, tk, os⟩ := by
  refine wpAny_execs_cons (wpAny_Assign_Name (wpAny_List (wpAny_items_nil ⟨by decide, wpAny_storeName_local rfl (ns.push _) fun h1 ns1 hs1 => ?_⟩)))
  dsimp only at hs1 ns1 ⊢
  rw [sz] at ns1
  have l43 : h1.get? 43 = some { cls := .type "list", data := .seq #[] } := (hs1.2 43 (by decide)).trans (by rw [← sz]; exact Heap.get?_push_size _ rfl)
  have sz1 : h1.objs.size = 44 := by rw [hs1.1, Heap.size_push, sz]
  have k1 : ∀ b o, b ≠ 42 → h.get? b = some o → h1.get? b = some o := fun b o hb e => (hs1.2 b hb).trans (Heap.get?_push_of_some _ e)
  have ng1 : h1.Ns 3 mg := (ng.push _).sameBut hs1 (by decide)
  have nb1 : h1.Ns builtinsNs mb := (nb.push _).sameBut hs1 (by decide)
  refine wpAny_execs_cons (wpAny_Assign_Name (wpAny_Call_NameR (Name_function_global rfl rfl (loadGlobal_builtin ng1 hg nb1 hb (PyProof.Rows.callWith_type1 (wpAny_items_cons (wpAny_Constant_int (wpAny_items_cons (wpAny_UnaryOp (wpAny_Constant_int (PyProof.Rows.neg_int (wpAny_items_cons (wpAny_UnaryOp (wpAny_Constant_int (PyProof.Rows.neg_int (wpAny_items_nil (call_range_3 (by decide) ?_ (.inl (by decide +kernel)))))))))))))))))))
  dsimp only
  refine wpAny_storeName_local rfl (ns1.push _) fun h2 ns2 hs2 => ?_
  dsimp only at hs2 ns2 ⊢
  rw [sz1] at ns2
  have sz2 : h2.objs.size = 45 := by rw [hs2.1, Heap.size_push, sz1]
  have k2 : ∀ b o, b ≠ 42 → h1.get? b = some o → h2.get? b = some o := fun b o hb e => (hs2.2 b hb).trans (Heap.get?_push_of_some _ e)
  have h44 : ∃ t u v, IsRange h2 44 7 (-1) (-1) t u v := ⟨_, _, _, (hs2.2 44 (by decide)).trans (by rw [← sz1]; exact Heap.get?_push_size _ rfl)⟩
  have ng2 : h2.Ns 3 mg := (ng1.push _).sameBut hs2 (by decide)
  have nb2 : h2.Ns builtinsNs mb := (nb1.push _).sameBut hs2 (by decide)
  refine wpAny_execs_cons (wpAny_For (wpAny_Call_NameR (Name_function_global rfl rfl (loadGlobal_builtin ng2 hg nb2 hb (PyProof.Rows.callWith_type1 (wpAny_items_cons (wpAny_Constant_int (wpAny_items_nil (call_range_1 (wpAny_pyIter_range (IsRange.new ..) (by decide) ?_))))))))))
  dsimp only
  generalize ({ cls := .type "range", data := .fields #[.int 0 (tk + 1 + 1 + 1 + 1 + 1 + 1 + 1 + 1), .int 256 (tk + 1 + 1 + 1 + 1 + 1 + 1 + 1), .int 1 (tk + 1 + 1 + 1 + 1 + 1 + 1 + 1 + 1 + 1)] } : Obj) = oR
  have e46 : (h2.push oR).objs.size = 46 := by rw [Heap.size_push, sz2]
  rw [e46]
  have kk : ∀ b o, b ≠ 42 → h.get? b = some o → ((h2.push oR).push { cls := .type "range_iterator", data := .fields #[rawInt 0, rawInt (Builtin.Range.rangeSize 0 256 1), rawInt 1] }).get? b = some o := fun b o hb e =>
    Heap.get?_push_of_some _ (Heap.get?_push_of_some _ (k2 b o hb (k1 b o hb e)))
  have I : Out9 h ((h2.push oR).push { cls := .type "range_iterator", data := .fields #[rawInt 0, rawInt (Builtin.Range.rangeSize 0 256 1), rawInt 1] }) 0 0 _ :=
    ⟨by rw [Heap.size_push, e46], fun b o hb e => kk b o (ne9 (.inl hb)) e, (ns2.push _).push _, rfl, rfl, ⟨_, _, Heap.get?_push_of_some _ (Heap.get?_push_of_some _ (k2 43 _ (by decide) l43)), rfl⟩,
      by obtain ⟨t, u, v, e⟩ := h44; exact ⟨t, u, v, Heap.get?_push_of_some _ (Heap.get?_push_of_some _ e)⟩, by rw [← e46]; exact Heap.get?_push_size _ rfl⟩
  refine outer_loop hh I fun h' m' sz' old' ns' look' => ?_
  exact wpAny_execs_cons (wpAny_Return_some (ld9 rfl ns' look' ⟨rfl, h', congrArg (fun k => Shared.mk h' g dr k os) (show tk + 1 + 1 + 1 + 1 + 1 + 1 + 1 + 1 + 1 + 1 + 19968 = tk + 19978 by omega), sz', old'⟩))
end
noncomputable def keysOk (o : Obj) : Bool := match o.data with
  | .dict es _ => es.toList.all fun e => match e.key with | .str _ _ => true | _ => false
  | _ => false
noncomputable def dictFind (o : Obj) (x : Str) : Option Value := match o.data with
  | .dict es _ => nsFind es x
  | _ => none
theorem ns_of {h : Heap} {a : Addr} {o : Obj} (e : h.get? a = some o) (k : keysOk o = true) : h.Ns a (dictFind o) := by
  obtain ⟨c, d, dt, sl⟩ := o
  cases dt with
  | dict es ep =>
    refine ⟨_, es, ep, e, rfl, fun en hen => ?_, fun _ => rfl⟩
    have := List.all_eq_true.mp k en (Array.mem_toList_iff.mpr hen)
    cases hk : en.key with
    | str n t => exact ⟨n, t, rfl⟩
    | _ => rw [hk] at this; cases this
  | _ => cases k
theorem s9_low : ∀ (g g' : Nat → Obj) (P : Params) (os : OsState), (List.range 42).map (s9 g P os).tree.get = (List.range 42).map (tr8 g' P).get := by
  intro g g' P os
  kernel_rfl
theorem s9_alive : ∀ (g : Nat → Obj) (P : Params) (os : OsState), ((List.range 42).map (s9 g P os).tree.get).all (fun o => match o with | some o => (alive o).isSome | none => false) = true := by
  intro g P os
  kernel_rfl
theorem tr8_high : ∀ (g : Nat → Obj) (P : Params), (List.range' 42 1287).map (tr8 g P).get = (List.range' 42 1287).map (fun b => some (g b)) := by
  intro g P
  kernel_rfl
end Mine
end
section
open PySem PySem.W PySem.Calls PyProof.Rows
set_option Elab.async false
set_option maxRecDepth 100000
namespace Mine
theorem alive_of {o o' : Obj} (h : alive o = some o') : o' = o := by
  obtain ⟨c, d, dt, sl⟩ := o
  cases dt <;> first | (cases h; done) | (exact (Option.some.inj h).symm)
theorem s9_at {g g' : Nat → Obj} {P : Params} {os : OsState} {b : Nat} (hb : b < 42) : ∃ o, (s9 g P os).tree.get b = some o ∧ (tr8 g' P).get b = some o ∧ (s9 g P os).abs.heap.get? b = some o := by
  have e := List.map_inj_left.mp (s9_low g g' P os) b (List.mem_range.mpr hb)
  have a := List.all_eq_true.mp (s9_alive g P os) _ (List.mem_map.mpr ⟨b, List.mem_range.mpr hb, rfl⟩)
  cases hx : (s9 g P os).tree.get b with
  | none => rw [hx] at a; cases a
  | some o =>
    rw [hx] at a e
    obtain ⟨o', ho⟩ := Option.isSome_iff_exists.mp (show (alive o).isSome = true from a)
    refine ⟨o, rfl, e.symm, ?_⟩
    show (absHeap (s9 g P os).tree 43 {}).get? b = some o
    rw [abs_get (show b < 43 by omega) hx, ho, alive_of ho]
theorem heap_e9 {g : Nat → Obj} {P : Params} {os : OsState} {h : Heap} (sz : h.objs.size = 1329) (old : ∀ (b : Nat) (o : Obj), b < 42 → (s9 g P os).abs.heap.get? b = some o → h.get? b = some o) (hl : h.life = {}) : ∃ gg, h = absHeap (tr8 gg P) 1329 {} := by
  refine ⟨fun b => (h.objs[b]?).getD default, ?_⟩
  obtain ⟨objs, life⟩ := h
  dsimp only at hl sz ⊢
  subst hl
  refine congrArg (Heap.mk · {}) (Array.ext_getElem? fun i => ?_)
  have e := absHeap_at (tr8 (fun b => (objs[b]?).getD default) P) 1329 {} i
  refine Eq.trans ?_ e.symm
  by_cases h1 : i < 1329
  · rw [if_pos h1]
    by_cases h2 : i < 42
    · obtain ⟨o, _, e2, e3⟩ := s9_at (g := g) (g' := fun b => (objs[b]?).getD default) (P := P) (os := os) h2
      rw [e2]
      exact (Heap.get?_some_iff.mp (old i o h2 e3)).1
    · have e2 := List.map_inj_left.mp (tr8_high (fun b => (objs[b]?).getD default) P) i (List.mem_range'_1.mpr ⟨by omega, by omega⟩)
      rw [e2, Array.getElem?_eq_getElem (show i < objs.size by omega)]
      rfl
  · rw [if_neg h1, Array.getElem?_eq_none (by omega)]
theorem s9_42 : ∀ (g : Nat → Obj) (P : Params) (os : OsState), (s9 g P os).abs.heap.get? 42 = some ⟨.type "frame", none, .dict #[] 0, #[]⟩ := by
  intro g P os
  show (absHeap (s9 g P os).tree 43 {}).get? 42 = _
  rw [abs_get (o := ⟨.type "frame", none, .dict #[] 0, #[]⟩) (by decide) (by kernel_rfl)]
  rfl
theorem s9_3 : ∀ (g : Nat → Obj) (P : Params) (os : OsState), (s9 g P os).tree.get 3 = some (v3_8 P) := by
  intro g P os
  kernel_rfl
theorem s9_4 : ∀ (g : Nat → Obj) (P : Params) (os : OsState), (s9 g P os).tree.get builtinsNs = some (o0 P) := by
  intro g P os
  kernel_rfl
theorem get_tree {g : Nat → Obj} {P : Params} {os : OsState} {b : Nat} {o : Obj} (hb : b < 42) (h : (s9 g P os).tree.get b = some o) : (s9 g P os).abs.heap.get? b = some o := by
  obtain ⟨o', e, _, e2⟩ := s9_at (g := g) (g' := g) (P := P) (os := os) hb
  rw [h] at e
  cases e
  exact e2
theorem v3_keys : ∀ P, keysOk (v3_8 P) = true := by intro P; kernel_rfl
theorem o4_keys : ∀ P, keysOk (o0 P) = true := by intro P; kernel_rfl
theorem v3_range : ∀ P, dictFind (v3_8 P) "range" = none := by intro P; kernel_rfl
theorem o4_range : ∀ P, dictFind (o0 P) "range" = some (.type "range") := by intro P; kernel_rfl
/-- statement 9, whole -/
theorem Z9 (w : World) (g : Nat → Obj) (os : OsState) : ∃ gg, Comes w ((body0.drop 9).take 1) pos8 (S8 g w.params os) pos9 (S9 gg w.params os) := by

  have f := A9f w.params g os
  have b : (hCtx (a9 g w.params os)).Below ⟨none, 302, none, none, 7⟩ := by
    refine ⟨A9h w.params g os, Nat.le_of_eq (congrArg Prod.fst f), fun l hl => (by cases hl), fun l hl => (by cases hl), Nat.le_of_eq (congrArg Prod.snd f)⟩
  have c := codeAny_func (prog := prog0) (w := w) (A := ⟨none, 302, none, none, 7⟩) (body := body9) (env := env9) (s := (s9 g w.params os).abs)
    (R := fun r s' => r = .ok (.ret (.ref 43)) ∧ ∃ h', s' = ⟨h', #[], {}, 237 + 19978, os⟩ ∧ h'.objs.size = 1329 ∧ ∀ (b : Nat) (o : Obj), b < 42 → (s9 g w.params os).abs.heap.get? b = some o → h'.get? b = some o)
    (wpAny_mono (body_9 (g := #[]) (dr := {}) (tk := 237) (os := os) rfl (absHeap_size _ _ _) (ns_of (s9_42 g w.params os) rfl) (ns_of (get_tree (by decide) (s9_3 g w.params os)) (v3_keys _)) (v3_range _) (ns_of (get_tree (by decide) (s9_4 g w.params os)) (o4_keys _)) (o4_range _))
      (fun f s' h => ⟨by rw [h.1], h.2⟩) (fun _ _ x => x))
  obtain ⟨r, s', hr, ⟨rfl, h', rfl, sz, old⟩, hl⟩ := wpCode_life (c _ (hPos (a9 g w.params os)) (A9c w.params g os) b)
  obtain ⟨gg, rfl⟩ := heap_e9 sz old hl
  refine ⟨gg, runL_wp (stop := isFunc) (n := 60) (Res.sat_of_head (A9 w.params g os) ⟨_, _, hr, e9 gg w.params os, rfl, ?_⟩)⟩
  rw [show (runL isFunc 60 w.params ((body0.drop 9).take 1) pos8 (S8 g w.params os)).kont (.ok (.ret (.ref 43))) (e9 gg w.params os) = _ from X9 w.params g gg os]
  exact ⟨rfl, rfl, rfl⟩
end Mine
end
section
open PySem PySem.W PyProof.Rows
set_option Elab.async false
set_option maxRecDepth 100000
namespace Mine
noncomputable def a31 (b1 b2 : Bool) (w : World) (g : Nat → Obj) (os : OsState) : Res Flow := runL atDict 60 (rowW w b1 b2).params ((body0.drop 31).take 1) pos30 (S30 g w.params os)
noncomputable def m31 (g : Nat → Obj) (P : Params) (os : OsState) : SharedT := ⟨BT.set (tr30 g P) 1390 (fun _ => di [de P "i" 20339 (vi 32 20594)] 1), 1426, {}, #[], {}, 20602, os⟩
theorem A31 (b1 b2 : Bool) : ∀ (w : World) (g : Nat → Obj) (os : OsState), (a31 b1 b2 w g os).head = some (hCtx (a31 true true w g os), hPos (a31 b1 b2 w g os), hSt (a31 true true w g os)) := by
  unfold a31 runL
  rw [PySem.W.Fast.runQ_eq]
  intro w g os
  cases b1 <;> cases b2 <;> kernel_rfl
theorem B31 : ∀ (w : World) (g : Nat → Obj) (os : OsState) (p : Pos), runC never 400 w.params (hCtx (a31 true true w g os)) p (hSt (a31 true true w g os)) = .ok .next (Pos.mk 239 86 239 110) (m31 g w.params os) := by
  unfold a31 runL runC
  rw [PySem.W.Fast.runQ_eq, PySem.W.Fast.runCQ_eq]
  intro w g os p
  kernel_rfl
noncomputable def b31 (b1 b2 : Bool) (w : World) (g : Nat → Obj) (os : OsState) : Res Flow := (runL atDict 60 (rowW w b1 b2).params ((body0.drop 31).take 1) pos30 (S30 g w.params os)).kont (.ok .next) (m31 g w.params os)
noncomputable def n31 (g : Nat → Obj) (P : Params) (os : OsState) : SharedT := ⟨tr30 g P, 1432, {}, #[], {}, 20638, os⟩
theorem C31 (b1 b2 : Bool) : ∀ (w : World) (g : Nat → Obj) (os : OsState), (b31 b1 b2 w g os).head = some (hCtx (b31 true true w g os), hPos (b31 true true w g os), hSt (b31 true true w g os)) := by
  unfold b31 runL
  rw [PySem.W.Fast.runQ_eq]
  intro w g os
  cases b1 <;> cases b2 <;> kernel_rfl
theorem D31 (b1 b2 : Bool) : ∀ (w : World) (g : Nat → Obj) (os : OsState), ∃ p, runC never 400 (rowW w b1 b2).params (hCtx (b31 true true w g os)) (hPos (b31 true true w g os)) (hSt (b31 true true w g os)) = .ok (.ret (.ref 1426)) p (n31 g w.params os) := by
  unfold b31 runL runC
  rw [PySem.W.Fast.runQ_eq, PySem.W.Fast.runCQ_eq]
  intro w g os
  refine ⟨hPos (PySem.W.Fast.runQ prog0 ctx1 env0 atDict 60 (rowW w true true).params ((body0.drop 31).take 1) pos30 (S30 g w.params os) |>.kont (.ok .next) (m31 g w.params os)), ?_⟩
  cases b1 <;> kernel_rfl
theorem X31 (b1 b2 : Bool) : ∀ (w : World) (g : Nat → Obj) (os : OsState), (b31 b1 b2 w g os).kont (.ok (.ret (.ref 1426))) (n31 g w.params os) = .ok .next pos31 (S31 g w.params os) := by
  unfold b31 runL
  rw [PySem.W.Fast.runQ_eq]
  intro w g os
  cases b1 <;> cases b2 <;> kernel_rfl
theorem Z31 (w : World) (g : Nat → Obj) (os : OsState) : Comes w ((body0.drop 31).take 1) pos30 (S30 g w.params os) pos31 (S31 g w.params os) := by
  have e := row_self w
  generalize w.params.followText "special-get-raises" = b1 at e
  generalize w.params.followText "comprehension-iter-twice" = b2 at e
  have d := D31 b1 b2 w g os
  rw [e] at d
  exact dict_comes (r := a31 b1 b2 w g os) (by unfold a31; rw [e]) (A31 b1 b2 w g os) (B31 w g os _) (C31 b1 b2 w g os) d (X31 b1 b2 w g os)
end Mine
end
section
open PySem PySem.W PyProof.Rows
set_option Elab.async false
set_option maxRecDepth 100000
namespace Mine
noncomputable def a32 (b1 b2 : Bool) (w : World) (g : Nat → Obj) (os : OsState) : Res Flow := runL atDict 60 (rowW w b1 b2).params ((body0.drop 32).take 1) pos31 (S31 g w.params os)
noncomputable def m32 (g : Nat → Obj) (P : Params) (os : OsState) : SharedT := ⟨BT.set (tr31 g P) 1435 (fun _ => di [de P "i" 20644 (vi 32 20899)] 1), 1471, {}, #[], {}, 20907, os⟩
theorem A32 (b1 b2 : Bool) : ∀ (w : World) (g : Nat → Obj) (os : OsState), (a32 b1 b2 w g os).head = some (hCtx (a32 true true w g os), hPos (a32 b1 b2 w g os), hSt (a32 true true w g os)) := by
  unfold a32 runL
  rw [PySem.W.Fast.runQ_eq]
  intro w g os
  cases b1 <;> cases b2 <;> kernel_rfl
theorem B32 : ∀ (w : World) (g : Nat → Obj) (os : OsState) (p : Pos), runC never 400 w.params (hCtx (a32 true true w g os)) p (hSt (a32 true true w g os)) = .ok .next (Pos.mk 240 86 240 110) (m32 g w.params os) := by
  unfold a32 runL runC
  rw [PySem.W.Fast.runQ_eq, PySem.W.Fast.runCQ_eq]
  intro w g os p
  kernel_rfl
noncomputable def b32 (b1 b2 : Bool) (w : World) (g : Nat → Obj) (os : OsState) : Res Flow := (runL atDict 60 (rowW w b1 b2).params ((body0.drop 32).take 1) pos31 (S31 g w.params os)).kont (.ok .next) (m32 g w.params os)
noncomputable def n32 (g : Nat → Obj) (P : Params) (os : OsState) : SharedT := ⟨tr31 g P, 1477, {}, #[], {}, 20943, os⟩
theorem C32 (b1 b2 : Bool) : ∀ (w : World) (g : Nat → Obj) (os : OsState), (b32 b1 b2 w g os).head = some (hCtx (b32 true true w g os), hPos (b32 true true w g os), hSt (b32 true true w g os)) := by
  unfold b32 runL
  rw [PySem.W.Fast.runQ_eq]
  intro w g os
  cases b1 <;> cases b2 <;> kernel_rfl
theorem D32 (b1 b2 : Bool) : ∀ (w : World) (g : Nat → Obj) (os : OsState), ∃ p, runC never 400 (rowW w b1 b2).params (hCtx (b32 true true w g os)) (hPos (b32 true true w g os)) (hSt (b32 true true w g os)) = .ok (.ret (.ref 1471)) p (n32 g w.params os) := by
  unfold b32 runL runC
  rw [PySem.W.Fast.runQ_eq, PySem.W.Fast.runCQ_eq]
  intro w g os
  refine ⟨hPos (PySem.W.Fast.runQ prog0 ctx1 env0 atDict 60 (rowW w true true).params ((body0.drop 32).take 1) pos31 (S31 g w.params os) |>.kont (.ok .next) (m32 g w.params os)), ?_⟩
  cases b1 <;> kernel_rfl
theorem X32 (b1 b2 : Bool) : ∀ (w : World) (g : Nat → Obj) (os : OsState), (b32 b1 b2 w g os).kont (.ok (.ret (.ref 1471))) (n32 g w.params os) = .ok .next pos32 (S32 g w.params os) := by
  unfold b32 runL
  rw [PySem.W.Fast.runQ_eq]
  intro w g os
  cases b1 <;> cases b2 <;> kernel_rfl
theorem Z32 (w : World) (g : Nat → Obj) (os : OsState) : Comes w ((body0.drop 32).take 1) pos31 (S31 g w.params os) pos32 (S32 g w.params os) := by
  have e := row_self w
  generalize w.params.followText "special-get-raises" = b1 at e
  generalize w.params.followText "comprehension-iter-twice" = b2 at e
  have d := D32 b1 b2 w g os
  rw [e] at d
  exact dict_comes (r := a32 b1 b2 w g os) (by unfold a32; rw [e]) (A32 b1 b2 w g os) (B32 w g os _) (C32 b1 b2 w g os) d (X32 b1 b2 w g os)
end Mine
end
section
open PySem PySem.W PyProof.Rows
set_option Elab.async false
set_option maxRecDepth 100000
namespace Mine
noncomputable def a33 (b1 b2 : Bool) (w : World) (g : Nat → Obj) (os : OsState) : Res Flow := runL atDict 60 (rowW w b1 b2).params ((body0.drop 33).take 1) pos32 (S32 g w.params os)
noncomputable def m33 (g : Nat → Obj) (P : Params) (os : OsState) : SharedT := ⟨BT.set (tr32 g P) 1480 (fun _ => di [de P "i" 20949 (vi 32 21172)] 1), 1516, {}, #[], {}, 21179, os⟩
theorem A33 (b1 b2 : Bool) : ∀ (w : World) (g : Nat → Obj) (os : OsState), (a33 b1 b2 w g os).head = some (hCtx (a33 true true w g os), hPos (a33 b1 b2 w g os), hSt (a33 true true w g os)) := by
  unfold a33 runL
  rw [PySem.W.Fast.runQ_eq]
  intro w g os
  cases b1 <;> cases b2 <;> kernel_rfl
theorem B33 : ∀ (w : World) (g : Nat → Obj) (os : OsState) (p : Pos), runC never 400 w.params (hCtx (a33 true true w g os)) p (hSt (a33 true true w g os)) = .ok .next (Pos.mk 241 72 241 96) (m33 g w.params os) := by
  unfold a33 runL runC
  rw [PySem.W.Fast.runQ_eq, PySem.W.Fast.runCQ_eq]
  intro w g os p
  kernel_rfl
noncomputable def b33 (b1 b2 : Bool) (w : World) (g : Nat → Obj) (os : OsState) : Res Flow := (runL atDict 60 (rowW w b1 b2).params ((body0.drop 33).take 1) pos32 (S32 g w.params os)).kont (.ok .next) (m33 g w.params os)
noncomputable def n33 (g : Nat → Obj) (P : Params) (os : OsState) : SharedT := ⟨tr32 g P, 1522, {}, #[], {}, 21215, os⟩
theorem C33 (b1 b2 : Bool) : ∀ (w : World) (g : Nat → Obj) (os : OsState), (b33 b1 b2 w g os).head = some (hCtx (b33 true true w g os), hPos (b33 true true w g os), hSt (b33 true true w g os)) := by
  unfold b33 runL
  rw [PySem.W.Fast.runQ_eq]
  intro w g os
  cases b1 <;> cases b2 <;> kernel_rfl
theorem D33 (b1 b2 : Bool) : ∀ (w : World) (g : Nat → Obj) (os : OsState), ∃ p, runC never 400 (rowW w b1 b2).params (hCtx (b33 true true w g os)) (hPos (b33 true true w g os)) (hSt (b33 true true w g os)) = .ok (.ret (.ref 1516)) p (n33 g w.params os) := by
  unfold b33 runL runC
  rw [PySem.W.Fast.runQ_eq, PySem.W.Fast.runCQ_eq]
  intro w g os
  refine ⟨hPos (PySem.W.Fast.runQ prog0 ctx1 env0 atDict 60 (rowW w true true).params ((body0.drop 33).take 1) pos32 (S32 g w.params os) |>.kont (.ok .next) (m33 g w.params os)), ?_⟩
  cases b1 <;> kernel_rfl
theorem X33 (b1 b2 : Bool) : ∀ (w : World) (g : Nat → Obj) (os : OsState), (b33 b1 b2 w g os).kont (.ok (.ret (.ref 1516))) (n33 g w.params os) = .ok .next pos33 (S33 g w.params os) := by
  unfold b33 runL
  rw [PySem.W.Fast.runQ_eq]
  intro w g os
  cases b1 <;> cases b2 <;> kernel_rfl
theorem Z33 (w : World) (g : Nat → Obj) (os : OsState) : Comes w ((body0.drop 33).take 1) pos32 (S32 g w.params os) pos33 (S33 g w.params os) := by
  have e := row_self w
  generalize w.params.followText "special-get-raises" = b1 at e
  generalize w.params.followText "comprehension-iter-twice" = b2 at e
  have d := D33 b1 b2 w g os
  rw [e] at d
  exact dict_comes (r := a33 b1 b2 w g os) (by unfold a33; rw [e]) (A33 b1 b2 w g os) (B33 w g os _) (C33 b1 b2 w g os) d (X33 b1 b2 w g os)
end Mine
end
section
open PySem PySem.W PyProof.Rows
set_option Elab.async false
set_option maxRecDepth 100000
namespace Mine
noncomputable def a56 (b1 b2 : Bool) (w : World) (g : Nat → Obj) (os : OsState) : Res Flow := runL atDict 60 (rowW w b1 b2).params ((body0.drop 56).take 1) pos55 (S55 g w.params os)
noncomputable def m56 (g : Nat → Obj) (P : Params) (os : OsState) : SharedT := ⟨BT.set (tr55 g P) 1649 (fun _ => di [de P "i" 21407 (vi 128 22430)] 1), 1781, {}, #[], {}, 22438, os⟩
theorem A56 (b1 b2 : Bool) : ∀ (w : World) (g : Nat → Obj) (os : OsState), (a56 b1 b2 w g os).head = some (hCtx (a56 true true w g os), hPos (a56 b1 b2 w g os), hSt (a56 true true w g os)) := by
  unfold a56 runL
  rw [PySem.W.Fast.runQ_eq]
  intro w g os
  cases b1 <;> cases b2 <;> kernel_rfl
theorem B56 : ∀ (w : World) (g : Nat → Obj) (os : OsState) (p : Pos), runC never 400 w.params (hCtx (a56 true true w g os)) p (hSt (a56 true true w g os)) = .ok .next (Pos.mk 344 86 344 110) (m56 g w.params os) := by
  unfold a56 runL runC
  rw [PySem.W.Fast.runQ_eq, PySem.W.Fast.runCQ_eq]
  intro w g os p
  kernel_rfl
noncomputable def b56 (b1 b2 : Bool) (w : World) (g : Nat → Obj) (os : OsState) : Res Flow := (runL atDict 60 (rowW w b1 b2).params ((body0.drop 56).take 1) pos55 (S55 g w.params os)).kont (.ok .next) (m56 g w.params os)
noncomputable def n56 (g : Nat → Obj) (P : Params) (os : OsState) : SharedT := ⟨tr55 g P, 1787, {}, #[], {}, 22570, os⟩
theorem C56 (b1 b2 : Bool) : ∀ (w : World) (g : Nat → Obj) (os : OsState), (b56 b1 b2 w g os).head = some (hCtx (b56 true true w g os), hPos (b56 true true w g os), hSt (b56 true true w g os)) := by
  unfold b56 runL
  rw [PySem.W.Fast.runQ_eq]
  intro w g os
  cases b1 <;> cases b2 <;> kernel_rfl
theorem D56 (b1 b2 : Bool) : ∀ (w : World) (g : Nat → Obj) (os : OsState), ∃ p, runC never 400 (rowW w b1 b2).params (hCtx (b56 true true w g os)) (hPos (b56 true true w g os)) (hSt (b56 true true w g os)) = .ok (.ret (.ref 1781)) p (n56 g w.params os) := by
  unfold b56 runL runC
  rw [PySem.W.Fast.runQ_eq, PySem.W.Fast.runCQ_eq]
  intro w g os
  refine ⟨hPos (PySem.W.Fast.runQ prog0 ctx1 env0 atDict 60 (rowW w true true).params ((body0.drop 56).take 1) pos55 (S55 g w.params os) |>.kont (.ok .next) (m56 g w.params os)), ?_⟩
  cases b1 <;> kernel_rfl
theorem X56 (b1 b2 : Bool) : ∀ (w : World) (g : Nat → Obj) (os : OsState), (b56 b1 b2 w g os).kont (.ok (.ret (.ref 1781))) (n56 g w.params os) = .ok .next pos56 (S56 g w.params os) := by
  unfold b56 runL
  rw [PySem.W.Fast.runQ_eq]
  intro w g os
  cases b1 <;> cases b2 <;> kernel_rfl
theorem Z56 (w : World) (g : Nat → Obj) (os : OsState) : Comes w ((body0.drop 56).take 1) pos55 (S55 g w.params os) pos56 (S56 g w.params os) := by
  have e := row_self w
  generalize w.params.followText "special-get-raises" = b1 at e
  generalize w.params.followText "comprehension-iter-twice" = b2 at e
  have d := D56 b1 b2 w g os
  rw [e] at d
  exact dict_comes (r := a56 b1 b2 w g os) (by unfold a56; rw [e]) (A56 b1 b2 w g os) (B56 w g os _) (C56 b1 b2 w g os) d (X56 b1 b2 w g os)
end Mine
end
section
open PySem PySem.W PyProof.Rows
set_option Elab.async false
set_option maxRecDepth 100000
namespace Mine
noncomputable def a57 (b1 b2 : Bool) (w : World) (g : Nat → Obj) (os : OsState) : Res Flow := runL atDict 60 (rowW w b1 b2).params ((body0.drop 57).take 1) pos56 (S56 g w.params os)
noncomputable def m57 (g : Nat → Obj) (P : Params) (os : OsState) : SharedT := ⟨BT.set (tr56 g P) 1790 (fun _ => di [de P "i" 22576 (vi 128 23599)] 1), 1922, {}, #[], {}, 23607, os⟩
theorem A57 (b1 b2 : Bool) : ∀ (w : World) (g : Nat → Obj) (os : OsState), (a57 b1 b2 w g os).head = some (hCtx (a57 true true w g os), hPos (a57 b1 b2 w g os), hSt (a57 true true w g os)) := by
  unfold a57 runL
  rw [PySem.W.Fast.runQ_eq]
  intro w g os
  cases b1 <;> cases b2 <;> kernel_rfl
theorem B57 : ∀ (w : World) (g : Nat → Obj) (os : OsState) (p : Pos), runC never 400 w.params (hCtx (a57 true true w g os)) p (hSt (a57 true true w g os)) = .ok .next (Pos.mk 345 86 345 110) (m57 g w.params os) := by
  unfold a57 runL runC
  rw [PySem.W.Fast.runQ_eq, PySem.W.Fast.runCQ_eq]
  intro w g os p
  kernel_rfl
noncomputable def b57 (b1 b2 : Bool) (w : World) (g : Nat → Obj) (os : OsState) : Res Flow := (runL atDict 60 (rowW w b1 b2).params ((body0.drop 57).take 1) pos56 (S56 g w.params os)).kont (.ok .next) (m57 g w.params os)
noncomputable def n57 (g : Nat → Obj) (P : Params) (os : OsState) : SharedT := ⟨tr56 g P, 1928, {}, #[], {}, 23739, os⟩
theorem C57 (b1 b2 : Bool) : ∀ (w : World) (g : Nat → Obj) (os : OsState), (b57 b1 b2 w g os).head = some (hCtx (b57 true true w g os), hPos (b57 true true w g os), hSt (b57 true true w g os)) := by
  unfold b57 runL
  rw [PySem.W.Fast.runQ_eq]
  intro w g os
  cases b1 <;> cases b2 <;> kernel_rfl
theorem D57 (b1 b2 : Bool) : ∀ (w : World) (g : Nat → Obj) (os : OsState), ∃ p, runC never 400 (rowW w b1 b2).params (hCtx (b57 true true w g os)) (hPos (b57 true true w g os)) (hSt (b57 true true w g os)) = .ok (.ret (.ref 1922)) p (n57 g w.params os) := by
  unfold b57 runL runC
  rw [PySem.W.Fast.runQ_eq, PySem.W.Fast.runCQ_eq]
  intro w g os
  refine ⟨hPos (PySem.W.Fast.runQ prog0 ctx1 env0 atDict 60 (rowW w true true).params ((body0.drop 57).take 1) pos56 (S56 g w.params os) |>.kont (.ok .next) (m57 g w.params os)), ?_⟩
  cases b1 <;> kernel_rfl
theorem X57 (b1 b2 : Bool) : ∀ (w : World) (g : Nat → Obj) (os : OsState), (b57 b1 b2 w g os).kont (.ok (.ret (.ref 1922))) (n57 g w.params os) = .ok .next pos57 (S57 g w.params os) := by
  unfold b57 runL
  rw [PySem.W.Fast.runQ_eq]
  intro w g os
  cases b1 <;> cases b2 <;> kernel_rfl
theorem Z57 (w : World) (g : Nat → Obj) (os : OsState) : Comes w ((body0.drop 57).take 1) pos56 (S56 g w.params os) pos57 (S57 g w.params os) := by
  have e := row_self w
  generalize w.params.followText "special-get-raises" = b1 at e
  generalize w.params.followText "comprehension-iter-twice" = b2 at e
  have d := D57 b1 b2 w g os
  rw [e] at d
  exact dict_comes (r := a57 b1 b2 w g os) (by unfold a57; rw [e]) (A57 b1 b2 w g os) (B57 w g os _) (C57 b1 b2 w g os) d (X57 b1 b2 w g os)
end Mine
end
section
open PySem PySem.W PyProof.Rows
set_option Elab.async false
set_option maxRecDepth 100000
namespace Mine
noncomputable def a58 (b1 b2 : Bool) (w : World) (g : Nat → Obj) (os : OsState) : Res Flow := runL atDict 60 (rowW w b1 b2).params ((body0.drop 58).take 1) pos57 (S57 g w.params os)
noncomputable def m58 (g : Nat → Obj) (P : Params) (os : OsState) : SharedT := ⟨BT.set (tr57 g P) 1931 (fun _ => di [de P "i" 23745 (vi 128 24640)] 1), 2063, {}, #[], {}, 24647, os⟩
theorem A58 (b1 b2 : Bool) : ∀ (w : World) (g : Nat → Obj) (os : OsState), (a58 b1 b2 w g os).head = some (hCtx (a58 true true w g os), hPos (a58 b1 b2 w g os), hSt (a58 true true w g os)) := by
  unfold a58 runL
  rw [PySem.W.Fast.runQ_eq]
  intro w g os
  cases b1 <;> cases b2 <;> kernel_rfl
theorem B58 : ∀ (w : World) (g : Nat → Obj) (os : OsState) (p : Pos), runC never 400 w.params (hCtx (a58 true true w g os)) p (hSt (a58 true true w g os)) = .ok .next (Pos.mk 346 72 346 96) (m58 g w.params os) := by
  unfold a58 runL runC
  rw [PySem.W.Fast.runQ_eq, PySem.W.Fast.runCQ_eq]
  intro w g os p
  kernel_rfl
noncomputable def b58 (b1 b2 : Bool) (w : World) (g : Nat → Obj) (os : OsState) : Res Flow := (runL atDict 60 (rowW w b1 b2).params ((body0.drop 58).take 1) pos57 (S57 g w.params os)).kont (.ok .next) (m58 g w.params os)
noncomputable def n58 (g : Nat → Obj) (P : Params) (os : OsState) : SharedT := ⟨tr57 g P, 2069, {}, #[], {}, 24779, os⟩
theorem C58 (b1 b2 : Bool) : ∀ (w : World) (g : Nat → Obj) (os : OsState), (b58 b1 b2 w g os).head = some (hCtx (b58 true true w g os), hPos (b58 true true w g os), hSt (b58 true true w g os)) := by
  unfold b58 runL
  rw [PySem.W.Fast.runQ_eq]
  intro w g os
  cases b1 <;> cases b2 <;> kernel_rfl
theorem D58 (b1 b2 : Bool) : ∀ (w : World) (g : Nat → Obj) (os : OsState), ∃ p, runC never 400 (rowW w b1 b2).params (hCtx (b58 true true w g os)) (hPos (b58 true true w g os)) (hSt (b58 true true w g os)) = .ok (.ret (.ref 2063)) p (n58 g w.params os) := by
  unfold b58 runL runC
  rw [PySem.W.Fast.runQ_eq, PySem.W.Fast.runCQ_eq]
  intro w g os
  refine ⟨hPos (PySem.W.Fast.runQ prog0 ctx1 env0 atDict 60 (rowW w true true).params ((body0.drop 58).take 1) pos57 (S57 g w.params os) |>.kont (.ok .next) (m58 g w.params os)), ?_⟩
  cases b1 <;> kernel_rfl
theorem X58 (b1 b2 : Bool) : ∀ (w : World) (g : Nat → Obj) (os : OsState), (b58 b1 b2 w g os).kont (.ok (.ret (.ref 2063))) (n58 g w.params os) = .ok .next pos58 (S58 g w.params os) := by
  unfold b58 runL
  rw [PySem.W.Fast.runQ_eq]
  intro w g os
  cases b1 <;> cases b2 <;> kernel_rfl
theorem Z58 (w : World) (g : Nat → Obj) (os : OsState) : Comes w ((body0.drop 58).take 1) pos57 (S57 g w.params os) pos58 (S58 g w.params os) := by
  have e := row_self w
  generalize w.params.followText "special-get-raises" = b1 at e
  generalize w.params.followText "comprehension-iter-twice" = b2 at e
  have d := D58 b1 b2 w g os
  rw [e] at d
  exact dict_comes (r := a58 b1 b2 w g os) (by unfold a58; rw [e]) (A58 b1 b2 w g os) (B58 w g os _) (C58 b1 b2 w g os) d (X58 b1 b2 w g os)
end Mine
end
section
open PySem PySem.W PyProof.Rows PySem.Calls
namespace Mine
/-- the walk halts here -/
def Halt (P : Prop) : Prop := P
theorem Halt.go {P : Prop} (h : Halt P) : P := h
theorem Halt.of {P : Prop} (h : P) : Halt P := h
theorem tok_gen {α : Type} {M : Model} {A : Around} {t : Sem α} {Q : α → Shared → Prop} {E : Value → Shared → Prop} {h : Heap} {g : Array GenState} {d : Drawn} {k : Nat} {o : OsState} (H : ∀ k', wpAny M A t Q E ⟨h, g, d, k', o⟩) : wpAny M A t Q E ⟨h, g, d, k, o⟩ := H k
local macro_rules | `(tactic| k_room) => `(tactic| ((try simp only [depth_mark, depth_under_make, depth_under_kw, depth_in1, depth_deeper, depth_caller]); (try dsimp only [ktrTop]); first | omega | decide))
local macro_rules | `(tactic| k_units) => `(tactic| ktr_units)
local macro_rules | `(tactic| k_mem) => `(tactic| first | assumption | (refine List.mem_append.mpr (Or.inr ?_); k_mem) | (refine List.mem_append.mpr (Or.inl ?_); assumption))
local macro_rules | `(tactic| walk_at "binaryOp LShift int int") => `(tactic| (k_here; with_reducible refine lshift_int_small (by omega) (by omega) (by decide) ?_))
local macro_rules | `(tactic| walk_at "binaryOp Pow int int") => `(tactic| (k_here; with_reducible refine pow_int_small (by omega) (by omega) (by decide) ?_))
local macro_rules | `(tactic| walk_at "exec While") => `(tactic| (k_here; refine Halt.go ?_))
local macro_rules | `(tactic| walk_at "call builtin:list.append") => `(tactic| (k_here; refine Halt.go ?_))
local macro_rules | `(tactic| walk_at "storeName") => `(tactic| (k_here; (with_reducible show wpAny _ _ _ _ _ (Shared.mk _ _ _ (_ + 1) _)); refine tok_gen ?_; intro))
section
/-- the dict of a network: its number, its family's names, its prefix -/
abbrev netD (P : Params) (M : Addr) (v pl : Int) (a b c tv tp : Tok) : Obj :=
  dictOf [⟨PyData.keyHash P (Str.ofString "_value"), .str (Str.ofString "_value") a, .int v tv⟩, ⟨PyData.keyHash P (Str.ofString "_module"), .str (Str.ofString "_module") b, .ref M⟩,
    ⟨PyData.keyHash P (Str.ofString "_prefixlen"), .str (Str.ofString "_prefixlen") c, .int pl tp⟩] 3
/-- the two families -/
inductive Fam : Int → Addr → Int → Int → Prop
  | v4 : Fam 4 1644 32 4294967295
  | v6 : Fam 6 2197 128 340282366920938463463374607431768211455
abbrev tup2 (v pl : Int) (t1 t2 : Tok) (k : Nat) : Obj := { cls := .type "tuple", data := .seq #[.int v t1, .int pl t2] k }
abbrev scF (nm : List (Str × NameKind)) (ig ic : Bool) (mo : List (Str × Const)) : Scope := { kind := .function, names := nm, isGenerator := ig, isCoroutine := ic, more := mo }
section
local macro_rules | `(tactic| walk_at "call ref") => `(tactic| (k_here; k_dflt (
  (refine' call_cls (by k_asm) (by k_asm) (by k_asm) (by k_is) (by k_is) (by k_is) ?_; intro x' d' h' F' N' l1 l2; (try k_lt l1); (try k_lt2 l2);
     (refine' ks_code_super ?k1 ?k2 ?k3 ?k4 ?k5 ?kA ?kF ?kK ?k6 ?k7 ?k8 ?k9 ?kB ?_ ?c1 ?c2 ?c3 ?c4; (case kA => exact rfl); (case kF => exact rfl); (case kK => exact rfl); (case k1 => k_asm); (case k2 => k_asm); (case k3 => k_asm); (case k4 => k_asm); (case k5 => k_asm); (case k6 => k_is); (case k7 => k_is); (case k8 => k_room); (case k9 => (refine' kp_binds ?kx ?ke; (case kx => k_in); (case ke => exact fun _ => rfl))); (case kB => exact locs rfl); (case c1 => decide); (case c2 => exact rfl); (case c3 => exact rfl); (case c4 => exact rfl); intro g' L' h' FG' F' N' B' X' T' l1; (try k_lt l1); (try dsimp only); (try k_lift B'))))))
local macro_rules | `(tactic| walk_at "wpAt") => `(tactic| k_dflt (ks_step "exec Expr"; refine ks_wpAt_Expr_any ?_))
local macro_rules | `(tactic| walk_at "wpAt") => `(tactic| k_dflt (ks_step "eval Call"; refine ks_wpAt_MethodCall ?_))
theorem net_led {h₀ h : Heap} {L : Addr} {q1 q2 q3 q4 x d t : Addr × Obj} {news : List (Addr × Obj)} (N : News h₀ L h (q1 :: q2 :: q3 :: q4 :: x :: d :: t :: news)) : News h₀ L h (x :: d :: news) := by
  intro q hq
  refine N q ?_
  simp only [List.mem_cons] at hq ⊢
  rcases hq with h | h | h
  · exact .inr (.inr (.inr (.inr (.inl h))))
  · exact .inr (.inr (.inr (.inr (.inr (.inl h)))))
  · exact .inr (.inr (.inr (.inr (.inr (.inr (.inr h))))))
section
variable {w : World} {p : Program} {loose : List Str} {mean : ExcName → Option Value} {mg mb : Str → Option Value}
    {dp un : Nat} {gd : Option (List Code)} {cn : Str} {nm : List (Str × NameKind)} {ig ic : Bool} {mo : List (Str × Const)} {a : Addr} {ccd : Value} {cl : List (Str × Addr)} {outer : List Env} {A₀ : Around} {base h₀ : Heap} {L : Addr} {m : Str → Option Value} {news : List (Addr × Obj)} {s : Shared}
    {Q E : Value → Shared → Prop}
set_option maxHeartbeats 8000000 in
theorem init_4 (B : Below A₀ base outer h₀) (F : Fr h₀ L s.heap m) (X : (K0 w.params).In h₀) (T : Top p loose mean mg mb h₀) {T9 x d : Addr} {v pl : Int} {t1 t2 t3 t9 : Tok} {k : Nat} {ps : List Value} {kws : List (Str × Value)}
    (N : News h₀ L s.heap ((x, instObj 2868 d) :: (d, dictOf [] 0) :: (T9, ({ cls := .type "tuple", data := .seq #[.int v t1, .int pl t2] k } : Obj)) :: news)) (l1 : ∀ p ∈ (T9, ({ cls := .type "tuple", data := .seq #[.int v t1, .int pl t2] k } : Obj)) :: news, p.1 < d) (l2 : d < x)
    (hb : ∀ fd, (o2642 w.params).data = .func fd → ∀ S, peek (K0 w.params) S (bindArgs fd ⟨.ref x :: ps, kws⟩) = some [(Str.ofString "self", .ref x), (Str.ofString "addr", .ref T9), (Str.ofString "version", .int 4 t3), (Str.ofString "flags", .int 0 t9), (Str.ofString "expand_partial", .bool false)])
    (hd : dp + 10 < recursionLimit) (hu : un + 64 < cLine) (h1 : 0 ≤ v) (h2 : v ≤ 4294967295) (h3 : 0 ≤ pl) (h4 : pl ≤ 32)
    (ret : ∀ h' tk' a b c, Fr h₀ L h' m → News h₀ L h' ((x, instObj 2868 d) :: (d, netD w.params 1644 v pl a b c t1 t2) :: news) → Q (.ref x) { s with heap := h', toks := tk' }) :
    codeAny (model PySem.Challenge.rw_az0025_01.row.prog w) ((ktrTop dp un gd cn (scF nm ig ic mo) L a ccd cl outer).under (.builtin "type.__call__" ⟨.ref 2868 :: ps, kws⟩)) (.call (.ref 2642) ⟨.ref x :: ps, kws⟩)
      (InitBack x fun r s' => match r with | .ok (.ret v) => Q v s' | .ok _ => False | .error e => E e s') s := by
  revert X
  k_fill
  intro X
  (try k_lt l1); (try k_lt2 l2)
  k_dflt (refine' ks_code_super ?k1 ?k2 ?k3 ?k4 ?k5 ?kA ?kF ?kK ?k6 ?k7 ?k8 ?k9 ?kB ?_ ?c1 ?c2 ?c3 ?c4; (case kA => exact rfl); (case kF => exact rfl); (case kK => exact rfl); (case k1 => k_asm); (case k2 => k_asm); (case k3 => k_asm); (case k4 => k_asm); (case k5 => k_asm); (case k6 => k_is); (case k7 => k_is); (case k8 => k_room); (case k9 => (refine' kp_binds ?kx ?ke; (case kx => k_in); (case ke => exact hb _ rfl))); (case kB => exact locs rfl); (case c1 => decide); (case c2 => exact rfl); (case c3 => exact rfl); (case c4 => exact rfl); intro g' L' h' FG' F' N' B' X' T' l1; (try k_lt l1); (try dsimp only); (try k_lift B'))
  k_steps
  rename Fr h₀ _ _ m => lF
  rename News h₀ L _ _ => lN
  exact ret _ _ _ _ _ lF (net_led lN)
set_option maxHeartbeats 8000000 in
theorem net_pos4 (B : Below A₀ base outer h₀) (F : Fr h₀ L s.heap m) (X : (K0 w.params).In h₀) (T : Top p loose mean mg mb h₀) {T9 : Addr} {v pl : Int} {t1 t2 t3 : Tok} {k : Nat}
    (N : News h₀ L s.heap ((T9, ({ cls := .type "tuple", data := .seq #[.int v t1, .int pl t2] k } : Obj)) :: news))
    (hd : dp + 10 < recursionLimit) (hu : un + 64 < cLine) (h1 : 0 ≤ v) (h2 : v ≤ 4294967295) (h3 : 0 ≤ pl) (h4 : pl ≤ 32)
    (ret : ∀ x d h' tk' a b c, Fr h₀ L h' m → News h₀ L h' ((x, instObj 2868 d) :: (d, netD w.params 1644 v pl a b c t1 t2) :: news) → AllLt d news → d < x → Q (.ref x) { s with heap := h', toks := tk' }) :
    wpAny (model PySem.Challenge.rw_az0025_01.row.prog w) (ktrTop dp un gd cn (scF nm ig ic mo) L a ccd cl outer) (call (.ref 2868) [.ref T9, .int 4 t3]) Q E s := by
  k_dflt (refine' call_cls (by k_asm) (by k_asm) (by k_asm) (by k_is) (by k_is) (by k_is) ?_)
  intro x' d' h' F' N' l1 l2
  exact init_4 B F' X T N' l1 l2 (fun fd e => by cases e; exact fun _ => rfl) hd hu h1 h2 h3 h4 fun h9 tk9 a9 b9 c9 F9 N9 => ret x' d' h9 tk9 a9 b9 c9 F9 N9 (allLt_of fun p hp => l1 p (.tail _ hp)) l2
set_option maxHeartbeats 8000000 in
theorem net_kw4 (B : Below A₀ base outer h₀) (F : Fr h₀ L s.heap m) (X : (K0 w.params).In h₀) (T : Top p loose mean mg mb h₀) {T9 : Addr} {v pl : Int} {t1 t2 t3 : Tok} {k : Nat}
    (N : News h₀ L s.heap ((T9, ({ cls := .type "tuple", data := .seq #[.int v t1, .int pl t2] k } : Obj)) :: news))
    (hd : dp + 10 < recursionLimit) (hu : un + 64 < cLine) (h1 : 0 ≤ v) (h2 : v ≤ 4294967295) (h3 : 0 ≤ pl) (h4 : pl ≤ 32)
    (ret : ∀ x d h' tk' a b c, Fr h₀ L h' m → News h₀ L h' ((x, instObj 2868 d) :: (d, netD w.params 1644 v pl a b c t1 t2) :: news) → AllLt d news → d < x → Q (.ref x) { s with heap := h', toks := tk' }) :
    wpAny (model PySem.Challenge.rw_az0025_01.row.prog w) (ktrTop dp un gd cn (scF nm ig ic mo) L a ccd cl outer) (call (.ref 2868) [.ref T9] [(Str.ofString "version", .int 4 t3)]) Q E s := by
  k_dflt (refine' call_cls (by k_asm) (by k_asm) (by k_asm) (by k_is) (by k_is) (by k_is) ?_)
  intro x' d' h' F' N' l1 l2
  exact init_4 B F' X T N' l1 l2 (fun fd e => by cases e; exact fun _ => rfl) hd hu h1 h2 h3 h4 fun h9 tk9 a9 b9 c9 F9 N9 => ret x' d' h9 tk9 a9 b9 c9 F9 N9 (allLt_of fun p hp => l1 p (.tail _ hp)) l2
set_option maxHeartbeats 8000000 in
theorem init_6 (B : Below A₀ base outer h₀) (F : Fr h₀ L s.heap m) (X : (K0 w.params).In h₀) (T : Top p loose mean mg mb h₀) {T9 x d : Addr} {v pl : Int} {t1 t2 t3 t9 : Tok} {k : Nat} {ps : List Value} {kws : List (Str × Value)}
    (N : News h₀ L s.heap ((x, instObj 2868 d) :: (d, dictOf [] 0) :: (T9, ({ cls := .type "tuple", data := .seq #[.int v t1, .int pl t2] k } : Obj)) :: news)) (l1 : ∀ p ∈ (T9, ({ cls := .type "tuple", data := .seq #[.int v t1, .int pl t2] k } : Obj)) :: news, p.1 < d) (l2 : d < x)
    (hb : ∀ fd, (o2642 w.params).data = .func fd → ∀ S, peek (K0 w.params) S (bindArgs fd ⟨.ref x :: ps, kws⟩) = some [(Str.ofString "self", .ref x), (Str.ofString "addr", .ref T9), (Str.ofString "version", .int 6 t3), (Str.ofString "flags", .int 0 t9), (Str.ofString "expand_partial", .bool false)])
    (hd : dp + 10 < recursionLimit) (hu : un + 64 < cLine) (h1 : 0 ≤ v) (h2 : v ≤ 340282366920938463463374607431768211455) (h3 : 0 ≤ pl) (h4 : pl ≤ 128)
    (ret : ∀ h' tk' a b c, Fr h₀ L h' m → News h₀ L h' ((x, instObj 2868 d) :: (d, netD w.params 2197 v pl a b c t1 t2) :: news) → Q (.ref x) { s with heap := h', toks := tk' }) :
    codeAny (model PySem.Challenge.rw_az0025_01.row.prog w) ((ktrTop dp un gd cn (scF nm ig ic mo) L a ccd cl outer).under (.builtin "type.__call__" ⟨.ref 2868 :: ps, kws⟩)) (.call (.ref 2642) ⟨.ref x :: ps, kws⟩)
      (InitBack x fun r s' => match r with | .ok (.ret v) => Q v s' | .ok _ => False | .error e => E e s') s := by
  revert X
  k_fill
  intro X
  (try k_lt l1); (try k_lt2 l2)
  k_dflt (refine' ks_code_super ?k1 ?k2 ?k3 ?k4 ?k5 ?kA ?kF ?kK ?k6 ?k7 ?k8 ?k9 ?kB ?_ ?c1 ?c2 ?c3 ?c4; (case kA => exact rfl); (case kF => exact rfl); (case kK => exact rfl); (case k1 => k_asm); (case k2 => k_asm); (case k3 => k_asm); (case k4 => k_asm); (case k5 => k_asm); (case k6 => k_is); (case k7 => k_is); (case k8 => k_room); (case k9 => (refine' kp_binds ?kx ?ke; (case kx => k_in); (case ke => exact hb _ rfl))); (case kB => exact locs rfl); (case c1 => decide); (case c2 => exact rfl); (case c3 => exact rfl); (case c4 => exact rfl); intro g' L' h' FG' F' N' B' X' T' l1; (try k_lt l1); (try dsimp only); (try k_lift B'))
  k_steps
  rename Fr h₀ _ _ m => lF
  rename News h₀ L _ _ => lN
  exact ret _ _ _ _ _ lF (net_led lN)
set_option maxHeartbeats 8000000 in
theorem net_pos6 (B : Below A₀ base outer h₀) (F : Fr h₀ L s.heap m) (X : (K0 w.params).In h₀) (T : Top p loose mean mg mb h₀) {T9 : Addr} {v pl : Int} {t1 t2 t3 : Tok} {k : Nat}
    (N : News h₀ L s.heap ((T9, ({ cls := .type "tuple", data := .seq #[.int v t1, .int pl t2] k } : Obj)) :: news))
    (hd : dp + 10 < recursionLimit) (hu : un + 64 < cLine) (h1 : 0 ≤ v) (h2 : v ≤ 340282366920938463463374607431768211455) (h3 : 0 ≤ pl) (h4 : pl ≤ 128)
    (ret : ∀ x d h' tk' a b c, Fr h₀ L h' m → News h₀ L h' ((x, instObj 2868 d) :: (d, netD w.params 2197 v pl a b c t1 t2) :: news) → AllLt d news → d < x → Q (.ref x) { s with heap := h', toks := tk' }) :
    wpAny (model PySem.Challenge.rw_az0025_01.row.prog w) (ktrTop dp un gd cn (scF nm ig ic mo) L a ccd cl outer) (call (.ref 2868) [.ref T9, .int 6 t3]) Q E s := by
  k_dflt (refine' call_cls (by k_asm) (by k_asm) (by k_asm) (by k_is) (by k_is) (by k_is) ?_)
  intro x' d' h' F' N' l1 l2
  exact init_6 B F' X T N' l1 l2 (fun fd e => by cases e; exact fun _ => rfl) hd hu h1 h2 h3 h4 fun h9 tk9 a9 b9 c9 F9 N9 => ret x' d' h9 tk9 a9 b9 c9 F9 N9 (allLt_of fun p hp => l1 p (.tail _ hp)) l2
set_option maxHeartbeats 8000000 in
theorem net_kw6 (B : Below A₀ base outer h₀) (F : Fr h₀ L s.heap m) (X : (K0 w.params).In h₀) (T : Top p loose mean mg mb h₀) {T9 : Addr} {v pl : Int} {t1 t2 t3 : Tok} {k : Nat}
    (N : News h₀ L s.heap ((T9, ({ cls := .type "tuple", data := .seq #[.int v t1, .int pl t2] k } : Obj)) :: news))
    (hd : dp + 10 < recursionLimit) (hu : un + 64 < cLine) (h1 : 0 ≤ v) (h2 : v ≤ 340282366920938463463374607431768211455) (h3 : 0 ≤ pl) (h4 : pl ≤ 128)
    (ret : ∀ x d h' tk' a b c, Fr h₀ L h' m → News h₀ L h' ((x, instObj 2868 d) :: (d, netD w.params 2197 v pl a b c t1 t2) :: news) → AllLt d news → d < x → Q (.ref x) { s with heap := h', toks := tk' }) :
    wpAny (model PySem.Challenge.rw_az0025_01.row.prog w) (ktrTop dp un gd cn (scF nm ig ic mo) L a ccd cl outer) (call (.ref 2868) [.ref T9] [(Str.ofString "version", .int 6 t3)]) Q E s := by
  k_dflt (refine' call_cls (by k_asm) (by k_asm) (by k_asm) (by k_is) (by k_is) (by k_is) ?_)
  intro x' d' h' F' N' l1 l2
  exact init_6 B F' X T N' l1 l2 (fun fd e => by cases e; exact fun _ => rfl) hd hu h1 h2 h3 h4 fun h9 tk9 a9 b9 c9 F9 N9 => ret x' d' h9 tk9 a9 b9 c9 F9 N9 (allLt_of fun p hp => l1 p (.tail _ hp)) l2
end
theorem net_led3 {h₀ h : Heap} {L : Addr} {q1 q2 q3 x d : Addr × Obj} {news : List (Addr × Obj)} (N : News h₀ L h (q1 :: q2 :: q3 :: x :: d :: news)) : News h₀ L h (x :: d :: news) :=
  fun q hq => N q (.tail _ (.tail _ (.tail _ hq)))
section
variable {w : World} {p : Program} {loose : List Str} {mean : ExcName → Option Value} {mg mb : Str → Option Value}
    {dp un : Nat} {gd : Option (List Code)} {cn : Str} {nm : List (Str × NameKind)} {ig ic : Bool} {mo : List (Str × Const)} {a : Addr} {ccd : Value} {cl : List (Str × Addr)} {outer : List Env} {A₀ : Around} {base h₀ : Heap} {L : Addr} {m : Str → Option Value} {news : List (Addr × Obj)} {s : Shared}
    {Q E : Value → Shared → Prop}
set_option maxHeartbeats 8000000 in
theorem net_copy (B : Below A₀ base outer h₀) (F : Fr h₀ L s.heap m) (X : (K0 w.params).In h₀) (T : Top p loose mean mg mb h₀) {x₀ d₀ M : Addr} {v pl : Int} {a₀ b₀ c₀ t1 t2 : Tok}
    (N : News h₀ L s.heap news) (hx : (x₀, instObj 2868 d₀) ∈ news) (hdd : (d₀, netD w.params M v pl a₀ b₀ c₀ t1 t2) ∈ news)
    (hd : dp + 10 < recursionLimit) (hu : un + 64 < cLine)
    (ret : ∀ x d h' tk' a b c, Fr h₀ L h' m → News h₀ L h' ((x, instObj 2868 d) :: (d, netD w.params M v pl a b c t1 t2) :: news) → AllLt d news → d < x → Q (.ref x) { s with heap := h', toks := tk' }) :
    wpAny (model PySem.Challenge.rw_az0025_01.row.prog w) (ktrTop dp un gd cn (scF nm ig ic mo) L a ccd cl outer) (call (.ref 2868) [.ref x₀]) Q E s := by
  revert X
  k_fill
  intro X
  k_steps
  rename Fr h₀ _ _ m => lF
  rename News h₀ L _ _ => lN
  exact ret _ _ _ _ _ _ _ lF (net_led3 lN) (allLt_of (by assumption)) (by assumption)
end
end
end
section
/-- the number's bits, as the model counts them -/
abbrev bl (x : Int) : Int := ((Builtin.Int.intBits x : Nat) : Int)

theorem pow_pos2 (k : Nat) : (0 : Int) < 2 ^ k := kbt_pos k
theorem pow_succ2 (k : Nat) : (2 : Int) ^ (k + 1) = 2 * 2 ^ k := by rw [Int.pow_succ]; omega

theorem intBits_between {x : Int} {k : Nat} (h1 : (2 : Int) ^ k ≤ x) (h2 : x < 2 ^ (k + 1)) : Builtin.Int.intBits x = k + 1 := by
  have hp := pow_pos2 k
  have h0 : x ≠ 0 := by omega
  have e : (x == 0) = false := by simpa using h0
  unfold Builtin.Int.intBits
  rw [e]
  have hn : (x.natAbs : Int) = x := by omega
  have c1 := kbt_cast k
  have c2 := kbt_cast (k + 1)
  have a1 : 2 ^ k ≤ x.natAbs := by omega
  have a2 : x.natAbs < 2 ^ (k + 1) := by omega
  have hne : x.natAbs ≠ 0 := by omega
  have b1 : k ≤ x.natAbs.log2 := (Nat.le_log2 hne).mpr a1
  have b2 : x.natAbs.log2 < k + 1 := (Nat.log2_lt hne).mpr a2
  show x.natAbs.log2 + 1 = k + 1
  omega
theorem intBits_pow (k : Nat) : Builtin.Int.intBits (2 ^ k) = k + 1 := by
  refine intBits_between (Int.le_refl _) ?_
  rw [pow_succ2]
  have := pow_pos2 k
  omega
theorem intBits_pos {x : Int} (h : 1 ≤ x) : 1 ≤ Builtin.Int.intBits x := by
  have e : (x == 0) = false := by simpa using (show x ≠ 0 by omega)
  unfold Builtin.Int.intBits
  rw [e]
  show 1 ≤ x.natAbs.log2 + 1
  omega

/-- a number above nought: a power of two times an odd one -/
theorem odd_part : ∀ (n : Nat) (x : Int), x.toNat ≤ n → 0 < x → ∃ (j : Nat) (a : Int), x = 2 ^ j * (2 * a + 1) ∧ 0 ≤ a
  | 0, x, h, h0 => by omega
  | n + 1, x, h, h0 => by
    by_cases e : x % 2 = 1
    · exact ⟨0, x / 2, by rw [Int.pow_zero]; omega, by omega⟩
    · obtain ⟨j, a, e', ha⟩ := odd_part n (x / 2) (by omega) (by omega)
      refine ⟨j + 1, a, ?_, ha⟩
      rw [pow_succ2, Int.mul_assoc, ← e']
      omega
theorem low_bit {x : Int} (h : 0 < x) : ∃ (j : Nat) (a : Int), x = 2 ^ j * (2 * a + 1) ∧ 0 ≤ a ∧ Builtin.bitAnd x (-x) = 2 ^ j := by
  obtain ⟨j, a, e, ha⟩ := odd_part x.toNat x (Nat.le_refl _) h
  exact ⟨j, a, e, ha, by rw [e]; exact kbt_low j a⟩

/-- the next block's size -/
def sz (low high : Int) : Int := if low = 0 then 2 ^ (Builtin.Int.intBits (high - low + 1) - 1) else min (2 ^ (Builtin.Int.intBits (high - low + 1) - 1)) (Builtin.bitAnd low (-low))
theorem sz_pos {low high : Int} (h : 0 ≤ low) : 1 ≤ sz low high := by
  unfold sz
  have hp := pow_pos2 (Builtin.Int.intBits (high - low + 1) - 1)
  split
  · omega
  · obtain ⟨j, _, _, _, e⟩ := low_bit (show 0 < low by omega)
    rw [e]
    have := pow_pos2 j
    omega
/-- the least list of aligned blocks, as the law's helper reckons it; at most so many turns -/
def blk (W : Int) : Nat → Int → Int → List (Int × Int)
  | 0, _, _ => []
  | f + 1, low, high => if low ≤ high then (low, W + 1 - bl (sz low high)) :: blk W f (low + sz low high) high else []
/-- so many turns are enough -/
def Enough : Nat → Int → Int → Prop
  | 0, low, high => high < low
  | f + 1, low, high => high < low ∨ Enough f (low + sz low high) high

theorem blk_none {W : Int} {f : Nat} {low high : Int} (h : high < low) : blk W f low high = [] := by
  cases f with
  | zero => rfl
  | succ f => unfold blk; rw [if_neg (by omega)]
theorem enough_none {f : Nat} {low high : Int} (h : high < low) : Enough f low high := by
  cases f with
  | zero => exact h
  | succ f => exact .inl h

/-- a start that is a multiple of 2^(k+1), and between 2^k and 2^(k+1) numbers left: the block is 2^k -/
theorem sz_left {low high m : Int} {k : Nat} (hl : low = m * 2 ^ (k + 1)) (h0 : 0 ≤ low) (h1 : (2 : Int) ^ k ≤ high - low + 1) (h2 : high - low + 1 < 2 ^ (k + 1)) : sz low high = 2 ^ k := by
  unfold sz
  rw [intBits_between h1 h2]
  show (if low = 0 then (2 : Int) ^ k else min (2 ^ k) (Builtin.bitAnd low (-low))) = 2 ^ k
  split
  · rfl
  · rename_i hne
    obtain ⟨j, a, e, ha, hb⟩ := low_bit (show 0 < low by omega)
    rw [hb]
    have hj : k + 1 ≤ j := by
      rcases Nat.lt_or_ge j (k + 1) with hlt | hge
      · exfalso
        obtain ⟨d, hd⟩ := Nat.exists_eq_add_of_lt hlt
        have e2 : (2 : Int) ^ (k + 1) = 2 ^ j * (2 * 2 ^ d) := by
          rw [show k + 1 = j + (d + 1) by omega, Int.pow_add, pow_succ2]
        have e3 : (2 : Int) ^ j * (2 * a + 1) = 2 ^ j * (m * (2 * 2 ^ d)) := by
          rw [← e, hl, e2, Int.mul_left_comm]
        have e4 := Int.eq_of_mul_eq_mul_left (Int.ne_of_gt (pow_pos2 j)) e3
        have e5 : m * (2 * 2 ^ d) = 2 * (m * 2 ^ d) := by rw [← Int.mul_assoc, Int.mul_comm m 2, Int.mul_assoc]
        omega
      · exact hge
    have hle : (2 : Int) ^ k ≤ 2 ^ j := by
      obtain ⟨d, rfl⟩ := Nat.exists_eq_add_of_le (show k ≤ j by omega)
      rw [Int.pow_add]
      have := pow_pos2 d
      have h := Int.mul_le_mul_of_nonneg_left (show (1 : Int) ≤ 2 ^ d by omega) (Int.le_of_lt (pow_pos2 k))
      omega
    omega

theorem pow_le2 {k j : Nat} (h : k ≤ j) : (2 : Int) ^ k ≤ 2 ^ j := by
  obtain ⟨d, rfl⟩ := Nat.exists_eq_add_of_le h
  rw [Int.pow_add]
  have := pow_pos2 d
  have h := Int.mul_le_mul_of_nonneg_left (show (1 : Int) ≤ 2 ^ d by omega) (Int.le_of_lt (pow_pos2 k))
  omega
/-- where at least the lowest bit is left, it is the block -/
theorem sz_low {low high a : Int} {j : Nat} (hl : low = 2 ^ j * (2 * a + 1)) (h0 : 0 < low) (h1 : (2 : Int) ^ j ≤ high - low + 1) : sz low high = 2 ^ j := by
  unfold sz
  rw [if_neg (by omega)]
  have hb : Builtin.bitAnd low (-low) = 2 ^ j := by rw [hl]; exact kbt_low j a
  rw [hb]
  have hp := pow_pos2 j
  have hk : j + 1 ≤ Builtin.Int.intBits (high - low + 1) := by
    rcases Nat.lt_or_ge (Builtin.Int.intBits (high - low + 1)) (j + 1) with hlt | hge
    · exfalso
      have h2 := intBits_le_iff.mp (show Builtin.Int.intBits (high - low + 1) ≤ j by omega)
      have c := kbt_cast j
      omega
    · exact hge
  have := pow_le2 (show j ≤ Builtin.Int.intBits (high - low + 1) - 1 by omega)
  omega
/-- a multiple's lowest bit -/
theorem mult_low {x m : Int} {K : Nat} (hx : x = m * 2 ^ K) (h0 : 0 < x) : ∃ (j : Nat) (a : Int), x = 2 ^ j * (2 * a + 1) ∧ K ≤ j := by
  obtain ⟨j, a, e, ha, _⟩ := low_bit h0
  refine ⟨j, a, e, ?_⟩
  rcases Nat.lt_or_ge j K with hlt | hge
  · exfalso
    obtain ⟨d, hd⟩ := Nat.exists_eq_add_of_lt hlt
    have e2 : (2 : Int) ^ K = 2 ^ j * (2 * 2 ^ d) := by rw [show K = j + (d + 1) by omega, Int.pow_add, pow_succ2]
    have e3 : (2 : Int) ^ j * (2 * a + 1) = 2 ^ j * (m * (2 * 2 ^ d)) := by rw [← e, hx, e2, Int.mul_left_comm]
    have e4 := Int.eq_of_mul_eq_mul_left (Int.ne_of_gt (pow_pos2 j)) e3
    have e5 : m * (2 * 2 ^ d) = 2 * (m * 2 ^ d) := by rw [← Int.mul_assoc, Int.mul_comm m 2, Int.mul_assoc]
    omega
  · exact hge
theorem sz_whole {u v : Int} {K : Nat} (hu : u = v * 2 ^ K) (h0 : 0 ≤ u) : sz u (u + 2 ^ K - 1) = 2 ^ K := by
  have hp := pow_pos2 K
  have er : u + 2 ^ K - 1 - u + 1 = 2 ^ K := by omega
  unfold sz
  rw [er, intBits_pow]
  show (if u = 0 then (2 : Int) ^ K else min (2 ^ K) (Builtin.bitAnd u (-u))) = 2 ^ K
  split
  · rfl
  · obtain ⟨j, a, e, hj⟩ := mult_low hu (show 0 < u by omega)
    have hb : Builtin.bitAnd u (-u) = 2 ^ j := by rw [e]; exact kbt_low j a
    rw [hb]
    have := pow_le2 hj
    omega
theorem bl_pow (K : Nat) : bl (2 ^ K) = (K : Int) + 1 := by
  unfold bl
  rw [intBits_pow]
  omega

/-- the last block may be taken off -/
theorem blk_app {W u v : Int} {K : Nat} (hu : u = v * 2 ^ K) : ∀ (f : Nat) (a : Int), Enough f a (u - 1) → u - 2 ^ K < a → a ≤ u → 0 < a →
    blk W (f + 1) a (u + 2 ^ K - 1) = blk W f a (u - 1) ++ [(u, W - (K : Int))] ∧ Enough (f + 1) a (u + 2 ^ K - 1) := by
  have hp := pow_pos2 K
  have last : ∀ f : Nat, 0 < u → blk W (f + 1) u (u + 2 ^ K - 1) = [(u, W - (K : Int))] ∧ Enough (f + 1) u (u + 2 ^ K - 1) := by
    intro f h0
    have hs := sz_whole hu (Int.le_of_lt h0)
    constructor
    · unfold blk
      rw [if_pos (by omega), hs, bl_pow, blk_none (by omega)]
      have : W + 1 - ((K : Int) + 1) = W - (K : Int) := by omega
      rw [this]
    · exact .inr (by rw [hs]; exact enough_none (by omega))
  intro f
  induction f with
  | zero =>
    intro a he h1 h2 h3
    have ha : a = u := by
      have : u - 1 < a := he
      omega
    subst ha
    exact last 0 h3
  | succ f ih =>
    intro a he h1 h2 h3
    by_cases hau : a = u
    · subst hau
      have q := last (f + 1) h3
      rw [blk_none (show a - 1 < a by omega)]
      exact q
    · have hlt : a < u := by omega
      have he' : Enough f (a + sz a (u - 1)) (u - 1) := he.elim (fun h => absurd h (by omega)) id
      obtain ⟨j, b, e, hb, _⟩ := low_bit h3
      have hj : j < K := by
        rcases Nat.lt_or_ge j K with h | h
        · exact h
        · exfalso
          obtain ⟨d, rfl⟩ := Nat.exists_eq_add_of_le h
          have e2 : a = (2 ^ d * (2 * b + 1)) * 2 ^ K := by rw [e, Int.pow_add, Int.mul_assoc, Int.mul_comm]
          generalize 2 ^ d * (2 * b + 1) = c at e2
          have h4 : (v - 1) * 2 ^ K < c * 2 ^ K := by rw [← e2, Int.sub_mul, ← hu]; omega
          have h5 : c * 2 ^ K < v * 2 ^ K := by rw [← e2, ← hu]; exact hlt
          have h6 := Int.lt_of_mul_lt_mul_right h4 (Int.le_of_lt hp)
          have h7 := Int.lt_of_mul_lt_mul_right h5 (Int.le_of_lt hp)
          omega
      have hd : (2 : Int) ^ j ≤ u - a := by
        obtain ⟨d, hd⟩ := Nat.exists_eq_add_of_lt hj
        have e2 : (2 : Int) ^ K = 2 ^ j * (2 * 2 ^ d) := by rw [show K = j + (d + 1) by omega, Int.pow_add, pow_succ2]
        have e3 : u - a = 2 ^ j * (v * (2 * 2 ^ d) - (2 * b + 1)) := by
          rw [Int.mul_sub, ← e, hu, e2, Int.mul_left_comm]
        have hpj := pow_pos2 j
        generalize hc : v * (2 * 2 ^ d) - (2 * b + 1) = c at e3
        have hc0 : 0 < c := by
          rcases Int.lt_or_le 0 c with h | h
          · exact h
          · exfalso
            have := Int.mul_le_mul_of_nonneg_left h (Int.le_of_lt hpj)
            omega
        have := Int.mul_le_mul_of_nonneg_left (show 1 ≤ c by omega) (Int.le_of_lt hpj)
        omega
      have s1 : sz a (u - 1) = 2 ^ j := sz_low e h3 (by omega)
      have s2 : sz a (u + 2 ^ K - 1) = 2 ^ j := sz_low e h3 (by omega)
      rw [s1] at he'
      have hpj := pow_pos2 j
      obtain ⟨q1, q2⟩ := ih (a + 2 ^ j) he' (by omega) (by omega) (by omega)
      constructor
      · rw [show f + 1 + 1 = (f + 1) + 1 from rfl]
        unfold blk
        rw [if_pos (by omega), if_pos (by omega), s1, s2, q1]
        rfl
      · exact .inr (by rw [s2]; exact q2)

/-- what the loop of cidr_partition makes: the blocks to the left in order, those to the right in the order of making -/
def part (W first : Int) (e : Nat) : Nat → Int → List (Int × Int) × List (Int × Int)
  | 0, _ => ([], [])
  | n + 1, cur => if cur + 2 ^ (e + n) ≤ first then ((cur, W - ((e + n : Nat) : Int)) :: (part W first e n (cur + 2 ^ (e + n))).1, (part W first e n (cur + 2 ^ (e + n))).2)
      else ((part W first e n cur).1, (cur + 2 ^ (e + n), W - ((e + n : Nat) : Int)) :: (part W first e n cur).2)

theorem mult_between {c q : Int} {e : Nat} (h1 : c * 2 ^ e ≤ q * 2 ^ e) (h2 : q * 2 ^ e < c * 2 ^ e + 2 ^ e) : q = c := by
  have hp := pow_pos2 e
  have a1 := Int.le_of_mul_le_mul_right h1 hp
  have a2 : q * 2 ^ e < (c + 1) * 2 ^ e := by rw [Int.add_mul, Int.one_mul]; exact h2
  have a3 := Int.lt_of_mul_lt_mul_right a2 (Int.le_of_lt hp)
  omega

theorem part_spec {W first q : Int} {e : Nat} (hq : first = q * 2 ^ e) : ∀ (n : Nat) (cur m : Int), cur = m * 2 ^ (e + n) → 0 ≤ cur → cur ≤ first → first < cur + 2 ^ (e + n) → ∀ f, n ≤ f →
    (blk W f cur (first - 1) = (part W first e n cur).1 ∧ Enough f cur (first - 1)) ∧
    (blk W f (first + 2 ^ e) (cur + 2 ^ (e + n) - 1) = (part W first e n cur).2.reverse ∧ Enough f (first + 2 ^ e) (cur + 2 ^ (e + n) - 1)) := by
  intro n
  induction n with
  | zero =>
    intro cur m hm h0 h1 h2 f _
    have hp := pow_pos2 e
    rw [Nat.add_zero] at hm h2 ⊢
    have : q = m := mult_between (by rw [← hm, ← hq]; exact h1) (by rw [← hm, ← hq]; exact h2)
    have hcf : cur = first := by rw [hm, hq, this]
    subst hcf
    exact ⟨⟨blk_none (by omega), enough_none (by omega)⟩, blk_none (by omega), enough_none (by omega)⟩
  | succ n ih =>
    intro cur m hm h0 h1 h2 f hf
    have hk : e + (n + 1) = (e + n) + 1 := rfl
    rw [hk] at hm h2 ⊢
    have hp := pow_pos2 (e + n)
    have hpe := pow_pos2 e
    have h2' : first < cur + 2 * 2 ^ (e + n) := by rw [← pow_succ2]; exact h2
    obtain ⟨f, rfl⟩ : ∃ f', f = f' + 1 := ⟨f - 1, by omega⟩
    unfold part
    by_cases hup : cur + 2 ^ (e + n) ≤ first
    · rw [if_pos hup]
      obtain ⟨⟨a1, a2⟩, b1, b2⟩ := ih (cur + 2 ^ (e + n)) (2 * m + 1) (by rw [hm, pow_succ2, Int.add_mul, Int.one_mul, ← Int.mul_assoc, Int.mul_comm m 2]) (by omega) hup (by omega) f (by omega)
      obtain ⟨_, c1, c2⟩ := ih (cur + 2 ^ (e + n)) (2 * m + 1) (by rw [hm, pow_succ2, Int.add_mul, Int.one_mul, ← Int.mul_assoc, Int.mul_comm m 2]) (by omega) hup (by omega) (f + 1) (by omega)
      have hs : sz cur (first - 1) = 2 ^ (e + n) := sz_left hm h0 (by omega) (by rw [pow_succ2]; omega)
      refine ⟨⟨?_, .inr (by rw [hs]; exact a2)⟩, ?_, ?_⟩
      · show blk W (f + 1) cur (first - 1) = _ :: _
        unfold blk
        rw [if_pos (by omega), hs, bl_pow, a1]
        have : W + 1 - (((e + n : Nat) : Int) + 1) = W - ((e + n : Nat) : Int) := by omega
        rw [this]
      · rw [show cur + 2 ^ (e + n + 1) - 1 = cur + 2 ^ (e + n) + 2 ^ (e + n) - 1 by rw [pow_succ2]; omega]
        exact c1
      · rw [show cur + 2 ^ (e + n + 1) - 1 = cur + 2 ^ (e + n) + 2 ^ (e + n) - 1 by rw [pow_succ2]; omega]
        exact c2
    · rw [if_neg hup]
      have hm2 : cur = (2 * m) * 2 ^ (e + n) := by rw [hm, pow_succ2, ← Int.mul_assoc, Int.mul_comm m 2]
      have hmu : cur + 2 ^ (e + n) = (2 * m + 1) * 2 ^ (e + n) := by rw [Int.add_mul, Int.one_mul, ← hm2]
      obtain ⟨_, b1, b2⟩ := ih cur (2 * m) hm2 h0 h1 (by omega) f (by omega)
      obtain ⟨⟨a1, a2⟩, _⟩ := ih cur (2 * m) hm2 h0 h1 (by omega) (f + 1) (by omega)
      have hle : first + 2 ^ e ≤ cur + 2 ^ (e + n) := by
        have e1 : cur + 2 ^ (e + n) = ((2 * m + 1) * 2 ^ n) * 2 ^ e := by rw [hmu, Int.pow_add, Int.mul_assoc, Int.mul_comm (2 ^ n)]
        generalize (2 * m + 1) * 2 ^ n = c at e1
        have h5 : q * 2 ^ e < c * 2 ^ e := by rw [← e1, ← hq]; omega
        have h6 := Int.lt_of_mul_lt_mul_right h5 (Int.le_of_lt hpe)
        have h7 := Int.mul_le_mul_of_nonneg_right (show q + 1 ≤ c by omega) (Int.le_of_lt hpe)
        rw [Int.add_mul, Int.one_mul, ← hq, ← e1] at h7
        exact h7
      obtain ⟨c1, c2⟩ := blk_app (W := W) hmu f (first + 2 ^ e) b2 (by omega) hle (by omega)
      refine ⟨⟨a1, a2⟩, ?_, ?_⟩
      · rw [show cur + 2 ^ (e + n + 1) - 1 = cur + 2 ^ (e + n) + 2 ^ (e + n) - 1 by rw [pow_succ2]; omega, c1, b1]
        show _ = (List.cons _ _).reverse
        rw [List.reverse_cons]
      · rw [show cur + 2 ^ (e + n + 1) - 1 = cur + 2 ^ (e + n) + 2 ^ (e + n) - 1 by rw [pow_succ2]; omega]
        exact c2
end
section
/-- a block as the datum that the law's helpers make of it -/
def tupD (kind : Int) (x : Int × Int) : Dat := .tuple [.int kind, .int x.1, .int x.2]

structure BSt where
  vs : List Value
  n : Nat
  tl : List (Addr × Obj)
  cur : Int
  tk : Tok
  f : Nat
/-- what holds between the turns of the helper's loop -/
structure BInv (W kind high : Int) (l : Addr) (news : List (Addr × Obj)) (all : List Dat) (c : BSt) : Prop where
  off : ∀ p ∈ c.tl ++ news, p.1 ≠ l
  dat : ∃ ds, DatAll c.tl c.vs ds ∧ ds ++ (blk W c.f c.cur high).map (tupD kind) = all
  cls : ∀ p ∈ c.tl, p.2.cls = .type "tuple"
  enough : Enough c.f c.cur high
  lo : 0 ≤ c.cur
  len : c.vs.length + c.f ≤ 300
def BEnd (W kind high : Int) (h₀ : Heap) (L l : Addr) (news : List (Addr × Obj)) (all : List Dat) (m₀ : Str → Option Value) (s : Shared) (c : BSt) (s₂ : Shared) : Prop :=
  ∃ (c' : BSt) (h' : Heap) (tk : Nat) (m' : Str → Option Value) (news' : List (Addr × Obj)), s₂ = { s with heap := h', toks := tk } ∧ Fr h₀ L h' m' ∧ News h₀ L h' news' ∧ (∀ p ∈ (l, listOf c'.vs.toArray c'.n) :: (c'.tl ++ news), p ∈ news') ∧
    m' "low" = some (.int c'.cur c'.tk) ∧ (∀ z : Str, z ≠ "low" → z ≠ "size" → m' z = m₀ z) ∧ BInv W kind high l news all c' ∧ c'.f < c.f
def BPost (W kind high : Int) (h₀ : Heap) (L l : Addr) (news : List (Addr × Obj)) (all : List Dat) (m₀ : Str → Option Value) (s : Shared) (Q : Flow → Shared → Prop) (c : BSt) (f : Flow) (s₂ : Shared) : Prop :=
  match f with
  | .ret v => Q (.ret v) s₂
  | .brk => Q .next s₂
  | _ => BEnd W kind high h₀ L l news all m₀ s c s₂

section
variable {prg : Program} {w : World} {A : Around} {E : Value → Shared → Prop} {Q : Flow → Shared → Prop} {s : Shared} {env : Env} {h₀ : Heap} {L : Addr}
theorem blocks_while {W kind high low : Int} {t : Tok} {l : Addr} {k : Nat} {f : Nat} {news : List (Addr × Obj)} {all : List Dat} {test : Expr} {body : List Stmt} {pos : Pos} {m₀ : Str → Option Value}
    (F : Fr h₀ L s.heap m₀) (N : News h₀ L s.heap ((l, listOf #[] k) :: news)) (hlow : m₀ "low" = some (.int low t))
    (hoff : ∀ p ∈ news, p.1 ≠ l) (hall : (blk W f low high).map (tupD kind) = all) (hen : Enough f low high) (h0 : 0 ≤ low) (hf : f ≤ 300)
    (turn : ∀ (c : BSt) (u : Str → Option Value) h tk, BInv W kind high l news all c → Fr h₀ L h (fun z : Str => if z = "low" then some (.int c.cur c.tk) else if z = "size" then u z else m₀ z) → News h₀ L h ((l, listOf c.vs.toArray c.n) :: (c.tl ++ news)) →
      wpAny (model prg w) A (isTrue test env (eval test env)) (fun b s₂ =>
        if b = true then wpAny (model prg w) A (execs body env) (BPost W kind high h₀ L l news all m₀ s Q c) E s₂ else Q .next s₂) E { s with heap := h, toks := tk })
    (hE : PassesOwn (model prg w) A env E := by passes_own) :
    wpAny (model prg w) A (exec (.While test body [] pos) env) Q E s := by
  refine ksw_while (σ := BSt) (fun c => (l, listOf c.vs.toArray c.n) :: (c.tl ++ news)) (fun c => [("low", .int c.cur c.tk)]) (fun _ => True) ["size"] (BInv W kind high l news all) (fun c => c.f) ⟨[], k, [], low, t, f⟩
    F N trivial (fun p hp => by rw [List.mem_singleton.mp hp]; exact hlow) ⟨hoff, ⟨[], .nil, hall⟩, fun _ h => (nomatch h), hen, h0, by simpa using hf⟩ (fun c u h tk _ hi F' N' => ?_) hE
  have e : (kstB (fun z : Str => if List.contains (["size"] : List Str) z = true then u z else m₀ z) [(("low" : Str), Value.int c.cur c.tk)]) = fun z : Str => if z = "low" then some (.int c.cur c.tk) else if z = "size" then u z else m₀ z := by
    funext z
    unfold kstB
    by_cases h1 : z = "low"
    · simp [h1]
    · by_cases h2 : z = "size"
      · simp [h2, kstB]
      · simp [h1, h2, kstB]
  rw [e] at F'
  refine wpAny_mono (turn c u h tk hi F' N') (fun b s₂ p => ?_) fun _ _ x => x
  cases b with
  | false => simpa using p
  | true =>
    simp only [if_true] at p ⊢
    refine wpAny_mono p (fun f s₃ q => ?_) fun _ _ x => x
    have fin : BEnd W kind high h₀ L l news all m₀ s c s₃ → KswEnd h₀ L s (fun c => (l, listOf c.vs.toArray c.n) :: (c.tl ++ news)) (fun c => [("low", .int c.cur c.tk)]) (fun _ => True) ["size"] m₀ (BInv W kind high l news all) (fun c => c.f) c s₃ := by
      rintro ⟨c', h', tk', m', news', rfl, F9, N9, hn, hl9, hr9, hi9, hm9⟩
      refine ⟨c', h', tk', m', news', rfl, F9, N9, hn, trivial, fun p hp => by rw [List.mem_singleton.mp hp]; exact hl9, fun z h1 h2 => hr9 z (h1 _ (List.mem_singleton.mpr rfl)) (fun e => by rw [e] at h2; simp at h2), hi9, hm9⟩
    cases f with
    | ret v => exact q
    | brk => exact q
    | next => exact fin q
    | cont => exact fin q
end

theorem blk_step {W low high : Int} {f : Nat} (h : low ≤ high) : blk W (f + 1) low high = (low, W + 1 - bl (sz low high)) :: blk W f (low + sz low high) high := by
  show (if low ≤ high then _ else _) = _
  rw [if_pos h]
theorem DatAll.snoc1 {news : List (Addr × Obj)} {vs : List Value} {ds : List Dat} {v : Value} {d : Dat} (h : DatAll news vs ds) (k : DatIn news v d) : DatAll news (vs ++ [v]) (ds ++ [d]) := h.append (.one k)
theorem blocks_turn {W kind high x sz' : Int} {h₀ h' : Heap} {L l D : Addr} {news : List (Addr × Obj)} {all : List Dat} {m₀ m' : Str → Option Value} {s : Shared} {c : BSt} {tk : Nat} {t1 t2 t3 t4 : Tok} {k : Nat}
    (hI : BInv W kind high l news all c) (hle : c.cur ≤ high) (hD : l < D) (F : Fr h₀ L h' m')
    (N : News h₀ L h' ((D, ({ cls := .type "tuple", data := .seq #[.int kind t1, .int c.cur t2, .int x t3] k } : Obj)) :: (l, listOf (c.vs.toArray.push (.ref D)) (c.n + 1)) :: (c.tl ++ news)))
    (hl : m' "low" = some (.int (c.cur + sz') t4)) (hr : ∀ z : Str, z ≠ "low" → z ≠ "size" → m' z = m₀ z) (hsz : sz' = sz c.cur high) (hx : x = W + 1 - bl sz') :
    BEnd W kind high h₀ L l news all m₀ s c { s with heap := h', toks := tk } := by
  obtain ⟨vs, n, tl, cur, t, f⟩ := c
  obtain ⟨off, ⟨ds, hd, hall⟩, cls, enough, lo, len⟩ := hI
  dsimp only at *
  obtain ⟨f, rfl⟩ : ∃ f', f = f' + 1 := by
    cases f with
    | zero => exact absurd (show high < cur from enough) (by omega)
    | succ f => exact ⟨f, rfl⟩
  have hen : Enough f (cur + sz cur high) high := enough.elim (fun h => absurd h (by omega)) id
  have hs := sz_pos (high := high) lo
  refine ⟨⟨vs ++ [.ref D], n + 1, (D, { cls := .type "tuple", data := .seq #[.int kind t1, .int cur t2, .int x t3] k }) :: tl, cur + sz', t4, f⟩, h', tk, m', _, rfl, F, N, ?_, hl, hr, ⟨?_, ⟨ds ++ [tupD kind (cur, W + 1 - bl (sz cur high))], ?_, ?_⟩, ?_, by rw [hsz]; exact hen, by dsimp only; omega, by dsimp only; rw [List.length_append, List.length_singleton]; omega⟩, Nat.lt_succ_self _⟩
  · intro p hp
    dsimp only at hp
    rw [List.push_toArray]
    rcases List.mem_cons.mp hp with rfl | hp
    · exact .tail _ (.head _)
    · rcases List.mem_cons.mp hp with rfl | hp
      · exact .head _
      · exact .tail _ (.tail _ hp)
  · intro p hp
    rcases List.mem_cons.mp hp with rfl | hp
    · exact Nat.ne_of_gt hD
    · exact off p hp
  · refine DatAll.snoc1 (hd.mono fun p hp => .tail _ hp) ?_
    refine .tuple (vs := [.int kind t1, .int cur t2, .int x t3]) (.head _) (.cons (.int _ _) (.cons (.int _ _) (.cons ?_ .nil)))
    rw [hx, hsz]
    exact .int _ _
  · rw [← hall, hsz, List.append_assoc]
    congr 1
    show _ = List.map (tupD kind) (blk W (f + 1) cur high)
    rw [blk_step hle]
    rfl
  · intro p hp
    rcases List.mem_cons.mp hp with rfl | hp
    · rfl
    · exact cls p hp
theorem sz_walk {cur high : Int} (h : ¬ cur = 0) : (if Builtin.bitAnd cur (-cur) < 1 * 2 ^ (((Builtin.Int.intBits (high - cur + 1) : Nat) : Int) - 1).toNat then Builtin.bitAnd cur (-cur) else 1 * 2 ^ (((Builtin.Int.intBits (high - cur + 1) : Nat) : Int) - 1).toNat) = sz cur high := by
  unfold sz
  rw [if_neg h, Int.one_mul]
  have e : (((Builtin.Int.intBits (high - cur + 1) : Nat) : Int) - 1).toNat = Builtin.Int.intBits (high - cur + 1) - 1 := by omega
  rw [e]
  generalize (2 : Int) ^ (Builtin.Int.intBits (high - cur + 1) - 1) = a
  generalize Builtin.bitAnd cur (-cur) = b
  split <;> omega
theorem sz_walk0 {cur high : Int} (h : cur = 0) : 1 * 2 ^ (((Builtin.Int.intBits (high - cur + 1) : Nat) : Int) - 1).toNat = sz cur high := by
  unfold sz
  rw [if_pos h, Int.one_mul]
  have e : (((Builtin.Int.intBits (high - cur + 1) : Nat) : Int) - 1).toNat = Builtin.Int.intBits (high - cur + 1) - 1 := by omega
  rw [e]
end
section
section
local macro_rules | `(tactic| walk_at "BPost") => `(tactic| (dsimp only [BPost]))
theorem bl_bounds {high cur : Int} (h0 : 0 ≤ cur) (hhi : high ≤ 2 ^ 130) : high < cur ∨ (1 ≤ bl (high - cur + 1) ∧ bl (high - cur + 1) ≤ 131) := by
  rcases Int.lt_or_le high cur with h | h
  · exact .inl h
  · refine .inr ⟨?_, ?_⟩
    · have := intBits_pos (show 1 ≤ high - cur + 1 by omega)
      unfold bl; omega
    · have h2 : Builtin.Int.intBits (high - cur + 1) ≤ 131 := intBits_le_iff.mpr (by omega)
      unfold bl; omega
set_option maxHeartbeats 8000000 in
theorem blocks_call {w : World} {p : Program} {loose : List Str} {mean : ExcName → Option Value} {mg mb : Str → Option Value}
    {dp un : Nat} {gd : Option (List Code)} {cn : Str} {cs : Scope} {a : Addr} {ccd : Value} {cl : List (Str × Addr)} {outer : List Env} {A₀ : Around} {base h₀ : Heap} {L : Addr} {m : Str → Option Value} {news : List (Addr × Obj)} {s : Shared}
    {Q E : Value → Shared → Prop} (B : Below A₀ base outer h₀) (F : Fr h₀ L s.heap m) (X : (K0 w.params).In h₀) (N : News h₀ L s.heap news) (T : Top p loose mean mg mb h₀) (hk : cs.kind = .function)
    (hd : dp + 4 < recursionLimit) (hu : un + 64 < cLine) (W kind low high : Int) (t1 t2 t3 : Tok) (f : Nat) (hkd : (kind = 4 ∧ W = 32) ∨ (kind = 6 ∧ W = 128)) (h0 : 0 ≤ low) (hhi : high ≤ 2 ^ 130) (hf : f ≤ 300) (hen : Enough f low high)
    (ret : ∀ l vs n tl h' tk', Fr h₀ L h' m → News h₀ L h' ((l, listOf vs.toArray n) :: (tl ++ news)) → DatAll tl vs ((blk W f low high).map (tupD kind)) → (∀ p ∈ tl, p.2.cls = .type "tuple") → vs.length ≤ 300 → Q (.ref l) { s with heap := h', toks := tk' }) :
    wpAny (model PySem.Challenge.rw_az0025_01.row.prog w) (ktrTop dp un gd cn cs L a ccd cl outer) (call (.ref 2977) [.int kind t1, .int low t2, .int high t3]) Q E s := by
  revert X
  k_fill
  intro X
  refine wpAny_call ?_
  k_dflt ktr_enter
  k_steps
  refine Halt.of ?_
  rename Fr _ _ _ _ => lF
  rename News _ _ _ _ => lN
  rename (∀ p ∈ news, p.1 < _) => lO
  with_unfolding_all refine' blocks_while (W := W) (kind := kind) (high := high) (f := f) (all := (blk W f low high).map (tupD kind)) lF lN ?wl ?wo rfl hen h0 hf ?wt
  case wl => rfl
  case wo => exact fun p hp => Nat.ne_of_lt (lO p hp)
  case wt =>
    clear lF lN lO
    intro bc bu bh btk hI F' N'
    have hlo := hI.lo
    have hb := bl_bounds hlo hhi
    unfold bl at hb
    have hoff := hI.off
    have hlen := hI.len
    k_steps
    iterate 4 (
      (refine Halt.of ?_)
      (rename _ < _ ∧ AllLt _ _ => l1)
      (rename Fr _ _ _ _ => lF)
      (rename News _ _ _ _ => lN)
      (refine' append_K lF lN (Upd.tail (Nat.ne_of_gt l1.1) (Upd.head hoff)) ?_ (by rw [List.size_toArray, sizeLine_eq]; omega))
      (intro h9 F9 N9)
      (try clear lF lN)
      rotate_left)
    all_goals k_steps
    all_goals first
      | (rename Fr h₀ _ _ m => lF
         rename News h₀ _ _ _ => lN
         obtain ⟨ds, hd9, ha9⟩ := hI.dat
         have hz : blk W bc.f bc.cur high = [] := blk_none (by omega)
         rw [hz, List.map_nil, List.append_nil] at ha9
         rw [ha9] at hd9
         exact ret _ _ _ _ _ _ lF lN hd9 hI.cls (by omega))
      | (rename Fr _ _ _ _ => lF
         rename News _ _ _ _ => lN
         rename _ < _ ∧ AllLt _ _ => l1
         refine blocks_turn hI (by omega) l1.1 lF lN rfl (by intro z h1 h2; simp [h1, h2]) (by first | exact sz_walk (by assumption) | exact sz_walk0 (by omega)) ?_
         rcases hkd with ⟨hk1, hk2⟩ | ⟨hk1, hk2⟩ <;> first | (exfalso; omega) | rw [hk2])
end
end
section
section
variable {prog : Program} {w : World} {A : Around} {h₀ : Heap} {L : Addr} {m : Str → Option Value} {env : Env} {elt : Expr} {x : Str} {scope : Scope} {cl : List (Str × Addr)} {s : Shared} {S : List (Addr × Obj) → Prop} {P : Nat → Value → Prop}
    {Fin : List Value → List (Addr × Obj) → Prop}
/-- a comprehension's turns by what holds between them -/
theorem comp_ind (Inv : Nat → List Value → List (Addr × Obj) → Prop) (n : Nat)
    (turn : ∀ i ys nw v I oI C oC D m₂ h tk (E' : Value → Shared → Prop), i < n → Inv i ys nw → P i v → LCg.NsObj oC m₂ → m₂ x = some v → Fr h₀ L h m → News h₀ L h ((I, oI) :: (C, oC) :: (D, LCg.lst ys) :: nw) → LCg.Off3 I C D nw → ((@Ne Nat I C) ∧ (@Ne Nat I D) ∧ (@Ne Nat C D)) →
      wpAny (model prog w) A (eval elt (compEnvC scope cl C env)) (LCg.CompEnd h₀ L m { s with heap := h, toks := tk } I oI C oC D (LCg.lst ys) S (fun y nw' => Inv (i + 1) (ys ++ [y]) nw')) E' { s with heap := h, toks := tk })
    (fin : ∀ ys nw, Inv n ys nw → Fin ys nw) {news : List (Addr × Obj)} (start : Inv 0 [] news) : LCg.CompRest prog w A h₀ L m env elt x scope cl s S P Fin n 0 [] news := by
  have all : ∀ k i ys nw, i + k = n → Inv i ys nw → LCg.CompRest prog w A h₀ L m env elt x scope cl s S P Fin k i ys nw := by
    intro k
    induction k with
    | zero =>
      intro i ys nw e hi
      obtain rfl : i = n := by omega
      exact LCg.CompRest.zero (fin _ _ hi)
    | succ k ih =>
      intro i ys nw e hi
      refine LCg.CompRest.succ fun v I oI C oC D m₂ h tk E' hP hC hx F N off ne => ?_
      refine wpAny_mono (turn i ys nw v I oI C oC D m₂ h tk E' (by omega) hi hP hC hx F N off ne) (fun y s₂ q => ?_) fun _ _ e => e
      obtain ⟨h', tk', nw', e', F', N', off', hS, hI⟩ := q
      exact ⟨h', tk', nw', e', F', N', off', hS, ih (i + 1) _ _ (by omega) hI⟩
  exact all n 0 [] news (by omega) start
end
end
section
/-- a list of networks of one family: numbers and prefixes -/
inductive NetAll (P : Params) (M : Addr) (W mx : Int) (news : List (Addr × Obj)) : List Value → List (Int × Int) → Prop
  | nil : NetAll P M W mx news [] []
  | cons {x d : Addr} {v pl : Int} {a b c tv tp : Tok} {vs : List Value} {xs : List (Int × Int)} : (x, instObj 2868 d) ∈ news → (d, netD P M v pl a b c tv tp) ∈ news → 0 ≤ v → v ≤ mx → 0 ≤ pl → pl ≤ W →
      NetAll P M W mx news vs xs → NetAll P M W mx news (.ref x :: vs) ((v, pl) :: xs)
theorem NetAll.mono {P : Params} {M : Addr} {W mx : Int} {news news' : List (Addr × Obj)} (hs : ∀ p ∈ news, p ∈ news') {vs : List Value} {xs : List (Int × Int)} (h : NetAll P M W mx news vs xs) : NetAll P M W mx news' vs xs := by
  induction h with
  | nil => exact .nil
  | cons h1 h2 a b c d _ ih => exact .cons (hs _ h1) (hs _ h2) a b c d ih
theorem NetAll.length {P : Params} {M : Addr} {W mx : Int} {news : List (Addr × Obj)} {vs : List Value} {xs : List (Int × Int)} (h : NetAll P M W mx news vs xs) : vs.length = xs.length := by
  induction h with
  | nil => rfl
  | cons _ _ _ _ _ _ _ ih => rw [List.length_cons, List.length_cons, ih]
theorem NetAll.get {P : Params} {M : Addr} {W mx : Int} {news : List (Addr × Obj)} {vs : List Value} {xs : List (Int × Int)} (h : NetAll P M W mx news vs xs) {i : Nat} {v : Value} (hi : vs[i]? = some v) :
    ∃ x d n pl a b c tv tp, v = .ref x ∧ (x, instObj 2868 d) ∈ news ∧ (d, netD P M n pl a b c tv tp) ∈ news ∧ 0 ≤ n ∧ n ≤ mx ∧ 0 ≤ pl ∧ pl ≤ W ∧ xs[i]? = some (n, pl) := by
  induction h generalizing i with
  | nil => simp at hi
  | cons h1 h2 a b c d _ ih =>
    cases i with
    | zero => simp only [List.getElem?_cons_zero, Option.some.injEq] at hi; subst hi; exact ⟨_, _, _, _, _, _, _, _, _, rfl, h1, h2, a, b, c, d, rfl⟩
    | succ i => simpa using ih (by simpa using hi)
/-- what the law's helper tells of a network -/
def told (mx W : Int) (x : Int × Int) : Int × Int := (Builtin.bitAnd x.1 (Builtin.bitXor mx (1 * 2 ^ (W - x.2).toNat - 1)), x.2)
theorem told_turn {h₀ h' : Heap} {L D' I C D l : Addr} {m : Str → Option Value} {s₁ : Shared} {oI oC : Obj} {ys vs : List Value} {n i k : Nat} {tl news : List (Addr × Obj)} {tk : Nat} {ver mx W v9 pl : Int} {xs : List (Int × Int)} {t1 t2 t3 : Tok}
    (F : Fr h₀ L h' m)
    (N : News h₀ L h' ((D', ({ cls := .type "tuple", data := .seq #[.int ver t1, .int (Builtin.bitAnd v9 (Builtin.bitXor mx (1 * 2 ^ (W - pl).toNat - 1))) t2, .int pl t3] k } : Obj)) :: (I, oI) :: (C, oC) :: (D, LCg.lst ys) :: (tl ++ news)))
    (l1 : I < D' ∧ C < D' ∧ D < D' ∧ AllLt D' (tl ++ news)) (off : LCg.Off3 I C D (tl ++ news)) (hl : (l, listOf vs.toArray n) ∈ news) (hda : DatAll tl ys (((xs.take i).map (told mx W)).map (tupD ver)))
    (hcl : ∀ p ∈ tl, p.2.cls = .type "tuple") (e9 : xs[i]? = some (v9, pl)) :
    LCg.CompEnd h₀ L m s₁ I oI C oC D (LCg.lst ys) (LCg.SrcAt h₀ l vs.toArray) (fun y nw' => ∃ tl, nw' = tl ++ news ∧ DatAll tl (ys ++ [y]) (((xs.take (i + 1)).map (told mx W)).map (tupD ver)) ∧ (∀ p ∈ tl, p.2.cls = .type "tuple")) (.ref D') { s₁ with heap := h', toks := tk } := by
  refine LCg.CompEnd.intro F N ((D', ({ cls := .type "tuple", data := .seq #[.int ver t1, .int (Builtin.bitAnd v9 (Builtin.bitXor mx (1 * 2 ^ (W - pl).toNat - 1))) t2, .int pl t3] k } : Obj)) :: (tl ++ news)) (fun q hq => ?_) ⟨⟨Nat.ne_of_gt l1.1, Nat.ne_of_gt l1.2.1, Nat.ne_of_gt l1.2.2.1⟩, off⟩ (.inr ⟨_, .tail _ (List.mem_append.mpr (.inr hl)), rfl, _, rfl⟩)
    ⟨(D', _) :: tl, rfl, ?_, fun q hq => ?_⟩
  · simp only [List.mem_cons] at hq ⊢
    rcases hq with h | h | h | h | h
    · exact .inr (.inl h)
    · exact .inr (.inr (.inl h))
    · exact .inr (.inr (.inr (.inl h)))
    · exact .inl h
    · exact .inr (.inr (.inr (.inr h)))
  · rw [List.take_add_one, e9, List.map_append, List.map_append]
    refine DatAll.snoc1 (hda.mono fun p hp => .tail _ hp) ?_
    exact .tuple (vs := [.int ver t1, .int _ t2, .int pl t3]) (.head _) (.cons (.int _ _) (.cons (.int _ _) (.cons (.int _ _) .nil)))
  · rcases List.mem_cons.mp hq with rfl | hq
    · rfl
    · exact hcl q hq
end
section
theorem bitAnd_bounds {x y : Int} (h : 0 ≤ x) : 0 ≤ Builtin.bitAnd x y ∧ Builtin.bitAnd x y ≤ x := by
  by_cases hy : 0 ≤ y
  · rw [bitAnd_pp h hy]
    have := @Nat.and_le_left x.toNat y.toNat
    omega
  · rw [bitAnd_pn h hy]
    have := @Nat.and_le_left x.toNat (Builtin.bitNot y).toNat
    omega
theorem NetAll.append {P : Params} {M : Addr} {W mx : Int} {news : List (Addr × Obj)} {vs ws : List Value} {xs ys : List (Int × Int)} (h : NetAll P M W mx news vs xs) (k : NetAll P M W mx news ws ys) : NetAll P M W mx news (vs ++ ws) (xs ++ ys) := by
  induction h with
  | nil => exact k
  | cons h1 h2 a b c d _ ih => exact .cons h1 h2 a b c d ih

structure PSt where
  ls : List Value
  rs : List Value
  n1 : Nat
  n2 : Nat
  tl : List (Addr × Obj)
  cur : Int
  np : Int
  up : Int
  t1 : Tok
  t2 : Tok
  t3 : Tok
  n : Nat
structure PInv (P : Params) (M : Addr) (W mx first o : Int) (e : Nat) (lA rA : Addr) (news : List (Addr × Obj)) (Lw Rw : List (Int × Int)) (c : PSt) : Prop where
  off : ∀ p ∈ c.tl ++ news, p.1 ≠ lA ∧ p.1 ≠ rA
  dat : ∃ A B, NetAll P M W mx c.tl c.ls A ∧ A ++ (part W first e c.n c.cur).1 = Lw ∧ NetAll P M W mx c.tl c.rs B ∧ B ++ (part W first e c.n c.cur).2 = Rw
  np : c.np = o - c.n + 1
  up : c.up = c.cur + 2 ^ (e + c.n - 1)
  lo : 0 ≤ c.cur
  hi : c.cur + 2 ^ (e + c.n) ≤ mx + 1
  len : c.ls.length + c.n ≤ 300 ∧ c.rs.length + c.n ≤ 300
  no : (c.n : Int) ≤ o
/-- the loop is over -/
def PFin (P : Params) (M : Addr) (W mx : Int) (h₀ : Heap) (L lA rA : Addr) (news : List (Addr × Obj)) (Lw Rw : List (Int × Int)) (m₀ : Str → Option Value) (s : Shared) (s₂ : Shared) : Prop :=
  ∃ ls rs n1 n2 tl h' tk m', s₂ = { s with heap := h', toks := tk } ∧ Fr h₀ L h' m' ∧ News h₀ L h' ((rA, listOf rs.toArray n2) :: (lA, listOf ls.toArray n1) :: (tl ++ news)) ∧
    (∀ z : Str, z ≠ "matched" → z ≠ "new_prefixlen" → z ≠ "i_lower" → z ≠ "i_upper" → m' z = m₀ z) ∧ NetAll P M W mx tl ls Lw ∧ NetAll P M W mx tl rs Rw ∧ ls.length ≤ 300 ∧ rs.length ≤ 300 ∧ (∀ p ∈ tl, p.1 ≠ lA ∧ p.1 ≠ rA)
def PEnd (P : Params) (M : Addr) (W mx first o : Int) (e : Nat) (h₀ : Heap) (L lA rA : Addr) (news : List (Addr × Obj)) (Lw Rw : List (Int × Int)) (m₀ : Str → Option Value) (s : Shared) (c : PSt) (s₂ : Shared) : Prop :=
  ∃ (c' : PSt) (h' : Heap) (tk : Nat) (m' : Str → Option Value), s₂ = { s with heap := h', toks := tk } ∧ Fr h₀ L h' m' ∧ News h₀ L h' ((rA, listOf c'.rs.toArray c'.n2) :: (lA, listOf c'.ls.toArray c'.n1) :: (c'.tl ++ news)) ∧
    m' "new_prefixlen" = some (.int c'.np c'.t1) ∧ m' "i_lower" = some (.int c'.cur c'.t2) ∧ m' "i_upper" = some (.int c'.up c'.t3) ∧
    (∀ z : Str, z ≠ "matched" → z ≠ "new_prefixlen" → z ≠ "i_lower" → z ≠ "i_upper" → m' z = m₀ z) ∧ PInv P M W mx first o e lA rA news Lw Rw c' ∧ c'.n < c.n
def PPost (P : Params) (M : Addr) (W mx first o : Int) (e : Nat) (h₀ : Heap) (L lA rA : Addr) (news : List (Addr × Obj)) (Lw Rw : List (Int × Int)) (m₀ : Str → Option Value) (s : Shared) (c : PSt) (f : Flow) (s₂ : Shared) : Prop :=
  match f with
  | .ret _ => False
  | .brk => PFin P M W mx h₀ L lA rA news Lw Rw m₀ s s₂
  | _ => PEnd P M W mx first o e h₀ L lA rA news Lw Rw m₀ s c s₂

section
variable {prg : Program} {w : World} {A : Around} {E : Value → Shared → Prop} {s : Shared} {env : Env} {h₀ : Heap} {L : Addr}
theorem part_while {P : Params} {M : Addr} {W mx first o low np up : Int} {e n k1 k2 : Nat} {t1 t2 t3 : Tok} {lA rA : Addr} {news : List (Addr × Obj)} {Lw Rw : List (Int × Int)} {test : Expr} {body : List Stmt} {pos : Pos} {m₀ : Str → Option Value}
    (F : Fr h₀ L s.heap m₀) (N : News h₀ L s.heap ((rA, listOf #[] k2) :: (lA, listOf #[] k1) :: news)) (v1 : m₀ "new_prefixlen" = some (.int np t1)) (v2 : m₀ "i_lower" = some (.int low t2)) (v3 : m₀ "i_upper" = some (.int up t3))
    (hoff : ∀ p ∈ news, p.1 ≠ lA ∧ p.1 ≠ rA) (hL : (part W first e n low).1 = Lw) (hR : (part W first e n low).2 = Rw) (hnp : np = o - n + 1) (hup : up = low + 2 ^ (e + n - 1)) (h0 : 0 ≤ low) (hhi : low + 2 ^ (e + n) ≤ mx + 1) (hn : n ≤ 300) (hno : (n : Int) ≤ o)
    (turn : ∀ (c : PSt) (u : Str → Option Value) h tk, PInv P M W mx first o e lA rA news Lw Rw c →
      Fr h₀ L h (fun z : Str => if z = "new_prefixlen" then some (.int c.np c.t1) else if z = "i_lower" then some (.int c.cur c.t2) else if z = "i_upper" then some (.int c.up c.t3) else if z = "matched" then u z else m₀ z) →
      News h₀ L h ((rA, listOf c.rs.toArray c.n2) :: (lA, listOf c.ls.toArray c.n1) :: (c.tl ++ news)) →
      wpAny (model prg w) A (isTrue test env (eval test env)) (fun b s₂ =>
        if b = true then wpAny (model prg w) A (execs body env) (PPost P M W mx first o e h₀ L lA rA news Lw Rw m₀ s c) E s₂ else PFin P M W mx h₀ L lA rA news Lw Rw m₀ s s₂) E { s with heap := h, toks := tk })
    (hE : PassesOwn (model prg w) A env E := by passes_own) :
    wpAny (model prg w) A (exec (.While test body [] pos) env) (fun f s₂ => f = .next ∧ PFin P M W mx h₀ L lA rA news Lw Rw m₀ s s₂) E s := by
  refine ksw_while (σ := PSt) (fun c => (rA, listOf c.rs.toArray c.n2) :: (lA, listOf c.ls.toArray c.n1) :: (c.tl ++ news)) (fun c => [("new_prefixlen", .int c.np c.t1), ("i_lower", .int c.cur c.t2), ("i_upper", .int c.up c.t3)]) (fun _ => True) ["matched"] (PInv P M W mx first o e lA rA news Lw Rw) (fun c => c.n)
    ⟨[], [], k1, k2, [], low, np, up, t1, t2, t3, n⟩
    F N trivial (fun p hp => ?_) ⟨hoff, ⟨[], [], .nil, hL, .nil, hR⟩, hnp, hup, h0, hhi, by constructor <;> simpa using hn, hno⟩ (fun c u h tk _ hi F' N' => ?_) hE
  · rcases List.mem_cons.mp hp with rfl | hp
    · exact v1
    · rcases List.mem_cons.mp hp with rfl | hp
      · exact v2
      · rw [List.mem_singleton.mp hp]; exact v3
  have e9 : (kstB (fun z : Str => if List.contains (["matched"] : List Str) z = true then u z else m₀ z) [(("new_prefixlen" : Str), Value.int c.np c.t1), ("i_lower", .int c.cur c.t2), ("i_upper", .int c.up c.t3)]) =
      fun z : Str => if z = "new_prefixlen" then some (.int c.np c.t1) else if z = "i_lower" then some (.int c.cur c.t2) else if z = "i_upper" then some (.int c.up c.t3) else if z = "matched" then u z else m₀ z := by
    funext z
    unfold kstB
    by_cases h1 : z = "new_prefixlen"
    · simp [h1]
    · unfold kstB
      by_cases h2 : z = "i_lower"
      · simp [h2]
      · unfold kstB
        by_cases h3 : z = "i_upper"
        · simp [h3]
        · by_cases h4 : z = "matched"
          · simp [h4, kstB]
          · simp [h1, h2, h3, h4, kstB]
  rw [e9] at F'
  refine wpAny_mono (turn c u h tk hi F' N') (fun b s₂ p => ?_) fun _ _ x => x
  cases b with
  | false => exact ⟨rfl, by simpa using p⟩
  | true =>
    simp only [if_true] at p ⊢
    refine wpAny_mono p (fun f s₃ q => ?_) fun _ _ x => x
    have fin : PEnd P M W mx first o e h₀ L lA rA news Lw Rw m₀ s c s₃ → KswEnd h₀ L s (fun c => (rA, listOf c.rs.toArray c.n2) :: (lA, listOf c.ls.toArray c.n1) :: (c.tl ++ news)) (fun c => [("new_prefixlen", .int c.np c.t1), ("i_lower", .int c.cur c.t2), ("i_upper", .int c.up c.t3)]) (fun _ => True) ["matched"] m₀ (PInv P M W mx first o e lA rA news Lw Rw) (fun c => c.n) c s₃ := by
      rintro ⟨c', h', tk', m', rfl, F9, N9, hl1, hl2, hl3, hr9, hi9, hm9⟩
      refine ⟨c', h', tk', m', _, rfl, F9, N9, fun _ h => h, trivial, fun p hp => ?_, fun z h1 h2 => hr9 z (fun e => by rw [e] at h2; simp at h2) (h1 _ (.head _)) (h1 _ (.tail _ (.head _))) (h1 _ (.tail _ (.tail _ (.head _)))), hi9, hm9⟩
      rcases List.mem_cons.mp hp with rfl | hp
      · exact hl1
      · rcases List.mem_cons.mp hp with rfl | hp
        · exact hl2
        · rw [List.mem_singleton.mp hp]; exact hl3
    cases f with
    | ret v => exact q.elim
    | brk => exact ⟨rfl, q⟩
    | next => exact fin q
    | cont => exact fin q
end
/-- where no turn is left, the lists are whole -/
theorem PInv.done {P : Params} {M : Addr} {W mx first o : Int} {e : Nat} {h₀ h : Heap} {L lA rA : Addr} {news : List (Addr × Obj)} {Lw Rw : List (Int × Int)} {m₀ m' : Str → Option Value} {s : Shared} {c : PSt} {tk : Nat}
    (hi : PInv P M W mx first o e lA rA news Lw Rw c) (h0 : c.n = 0) (F : Fr h₀ L h m') (N : News h₀ L h ((rA, listOf c.rs.toArray c.n2) :: (lA, listOf c.ls.toArray c.n1) :: (c.tl ++ news)))
    (hr : ∀ z : Str, z ≠ "matched" → z ≠ "new_prefixlen" → z ≠ "i_lower" → z ≠ "i_upper" → m' z = m₀ z) : PFin P M W mx h₀ L lA rA news Lw Rw m₀ s { s with heap := h, toks := tk } := by
  obtain ⟨A, B, d1, e1, d2, e2⟩ := hi.dat
  rw [h0] at e1 e2
  have e1' : A = Lw := by rw [← e1]; exact (List.append_nil A).symm
  have e2' : B = Rw := by rw [← e2]; exact (List.append_nil B).symm
  have := hi.len
  exact ⟨c.ls, c.rs, c.n1, c.n2, c.tl, h, tk, m', rfl, F, N, hr, e1' ▸ d1, e2' ▸ d2, by omega, by omega, fun p hp => hi.off p (List.mem_append.mpr (.inl hp))⟩

theorem PInv.left {P : Params} {M : Addr} {W mx first o : Int} {e k : Nat} {lA rA x d : Addr} {news : List (Addr × Obj)} {Lw Rw : List (Int × Int)} {c : PSt} {a b d9 tv tp u1 u2 u3 : Tok}
    (hi : PInv P M W mx first o e lA rA news Lw Rw c) (hn : c.n = k + 1) (hW : W = o + e) (hge : c.up ≤ first) (hx : x ≠ lA ∧ x ≠ rA) (hd : d ≠ lA ∧ d ≠ rA) :
    PInv P M W mx first o e lA rA news Lw Rw ⟨c.ls ++ [.ref x], c.rs, c.n1 + 1, c.n2, (x, instObj 2868 d) :: (d, netD P M c.cur c.np a b d9 tv tp) :: c.tl, c.up, c.np + 1, c.up + 2 ^ (e + k - 1), u1, u2, u3, k⟩ := by
  obtain ⟨off, ⟨A, B, d1, e1, d2, e2⟩, np, up, lo, hi9, len, no⟩ := hi
  rw [hn] at e1 e2 np up hi9 len no
  have hp := pow_pos2 (e + k)
  have up' : c.up = c.cur + 2 ^ (e + k) := by rw [up]; congr 2
  have hpow : (2 : Int) ^ (e + (k + 1)) = 2 * 2 ^ (e + k) := by rw [← pow_succ2]; rfl
  have hle : c.cur + 2 ^ (e + k) ≤ first := by rw [← up']; exact hge
  have hpt : part W first e (k + 1) c.cur = ((c.cur, W - ((e + k : Nat) : Int)) :: (part W first e k (c.cur + 2 ^ (e + k))).1, (part W first e k (c.cur + 2 ^ (e + k))).2) := by
    show (if c.cur + 2 ^ (e + k) ≤ first then _ else _) = _
    rw [if_pos hle]
  rw [hpt] at e1 e2
  have sub : ∀ p ∈ c.tl, p ∈ (x, instObj 2868 d) :: (d, netD P M c.cur c.np a b d9 tv tp) :: c.tl := fun p hp => .tail _ (.tail _ hp)
  have enp : c.np = W - ((e + k : Nat) : Int) := by rw [np, hW]; push_cast; omega
  refine ⟨?_, ⟨A ++ [(c.cur, c.np)], B, (d1.mono sub).append (.cons (.head _) (.tail _ (.head _)) lo (by omega) (by push_cast at np no; omega) (by push_cast at np no; omega) .nil), ?_, d2.mono sub, ?_⟩, ?_, rfl, ?_, ?_, ?_, ?_⟩
  · intro p hp
    rcases List.mem_cons.mp hp with rfl | hp
    · exact hx
    · rcases List.mem_cons.mp hp with rfl | hp
      · exact hd
      · exact off p hp
  · dsimp only
    rw [up', enp, List.append_assoc]
    exact e1
  · dsimp only
    rw [up']
    exact e2
  · dsimp only; rw [np]; push_cast; omega
  · dsimp only; omega
  · dsimp only; rw [up']; rw [hpow] at hi9; omega
  · dsimp only; rw [List.length_append, List.length_singleton]; omega
  · dsimp only; push_cast at no; omega
theorem PInv.right {P : Params} {M : Addr} {W mx first o : Int} {e k : Nat} {lA rA x d : Addr} {news : List (Addr × Obj)} {Lw Rw : List (Int × Int)} {c : PSt} {a b d9 tv tp u1 u2 u3 : Tok}
    (hi : PInv P M W mx first o e lA rA news Lw Rw c) (hn : c.n = k + 1) (hW : W = o + e) (hge : ¬ c.up ≤ first) (hx : x ≠ lA ∧ x ≠ rA) (hd : d ≠ lA ∧ d ≠ rA) :
    PInv P M W mx first o e lA rA news Lw Rw ⟨c.ls, c.rs ++ [.ref x], c.n1, c.n2 + 1, (x, instObj 2868 d) :: (d, netD P M c.up c.np a b d9 tv tp) :: c.tl, c.cur, c.np + 1, c.cur + 2 ^ (e + k - 1), u1, u2, u3, k⟩ := by
  obtain ⟨off, ⟨A, B, d1, e1, d2, e2⟩, np, up, lo, hi9, len, no⟩ := hi
  rw [hn] at e1 e2 np up hi9 len no
  have hp := pow_pos2 (e + k)
  have up' : c.up = c.cur + 2 ^ (e + k) := by rw [up]; congr 2
  have hpow : (2 : Int) ^ (e + (k + 1)) = 2 * 2 ^ (e + k) := by rw [← pow_succ2]; rfl
  have hle : ¬ c.cur + 2 ^ (e + k) ≤ first := by rw [← up']; exact hge
  have hpt : part W first e (k + 1) c.cur = ((part W first e k c.cur).1, (c.cur + 2 ^ (e + k), W - ((e + k : Nat) : Int)) :: (part W first e k c.cur).2) := by
    show (if c.cur + 2 ^ (e + k) ≤ first then _ else _) = _
    rw [if_neg hle]
  rw [hpt] at e1 e2
  have sub : ∀ p ∈ c.tl, p ∈ (x, instObj 2868 d) :: (d, netD P M c.up c.np a b d9 tv tp) :: c.tl := fun p hp => .tail _ (.tail _ hp)
  have enp : c.np = W - ((e + k : Nat) : Int) := by rw [np, hW]; push_cast; omega
  rw [hpow] at hi9
  refine ⟨?_, ⟨A, B ++ [(c.up, c.np)], d1.mono sub, e1, (d2.mono sub).append (.cons (.head _) (.tail _ (.head _)) (by omega) (by omega) (by push_cast at np no; omega) (by push_cast at np no; omega) .nil), ?_⟩, ?_, rfl, ?_, ?_, ?_, ?_⟩
  · intro p hp
    rcases List.mem_cons.mp hp with rfl | hp
    · exact hx
    · rcases List.mem_cons.mp hp with rfl | hp
      · exact hd
      · exact off p hp
  · dsimp only
    rw [up', enp, List.append_assoc]
    exact e2
  · dsimp only; rw [np]; push_cast; omega
  · dsimp only; omega
  · dsimp only; omega
  · dsimp only; rw [List.length_append, List.length_singleton]; omega
  · dsimp only; push_cast at no; omega

theorem nat_top (n W k : Nat) (hk : k ≤ W) (hn : n < 2 ^ W) : n &&& (2 ^ W - 2 ^ k) = n / 2 ^ k * 2 ^ k := by
  have e1 : 2 ^ W - 2 ^ k = (2 ^ (W - k) - 1) <<< k := by
    rw [Nat.shiftLeft_eq, Nat.sub_mul, ← Nat.pow_add, Nat.one_mul]
    congr 2
    omega
  have e2 : n / 2 ^ k * 2 ^ k = (n >>> k) <<< k := by rw [Nat.shiftLeft_eq, Nat.shiftRight_eq_div_pow]
  rw [e1, e2]
  apply Nat.eq_of_testBit_eq
  intro i
  rw [Nat.testBit_and, Nat.testBit_shiftLeft, Nat.testBit_shiftLeft, Nat.testBit_two_pow_sub_one, Nat.testBit_shiftRight]
  by_cases h : k ≤ i
  · have h3 : k + (i - k) = i := by omega
    rw [h3]
    by_cases h4 : i < W
    · have : i - k < W - k := by omega
      simp [h, this]
    · have h5 : n.testBit i = false := Nat.testBit_lt_two_pow (Nat.lt_of_lt_of_le hn (Nat.pow_le_pow_right (by decide) (by omega)))
      simp [h5]
  · simp [h]
theorem nat_sum (n W k : Nat) (hk : k ≤ W) (hn : n < 2 ^ W) : (n &&& (2 ^ W - 2 ^ k)) + (n &&& (2 ^ k - 1)) = n := by
  rw [nat_top n W k hk hn, Nat.and_two_pow_sub_one_eq_mod, Nat.mul_comm]
  exact Nat.div_add_mod n (2 ^ k)
/-- a number's net: the number less its rest -/
theorem net_first {v : Int} {W k : Nat} (h0 : 0 ≤ v) (h1 : v < 2 ^ W) (hk : k ≤ W) : Builtin.bitAnd v (Builtin.bitXor (2 ^ W - 1) (1 * 2 ^ k - 1)) = v - v % 2 ^ k := by
  have hpk := pow_pos2 k
  have hpW := pow_pos2 W
  have hle := pow_le2 hk
  rw [Int.one_mul]
  have hm : Builtin.bitAnd ((2 : Int) ^ W - 1) (2 ^ k - 1) = 2 ^ k - 1 := by
    rw [kbt_mask]
    obtain ⟨d, rfl⟩ := Nat.exists_eq_add_of_le hk
    rw [Int.pow_add]
    have hpd := pow_pos2 d
    have e : (2 : Int) ^ k * 2 ^ d - 1 = (2 ^ k - 1) + 2 ^ k * (2 ^ d - 1) := by rw [Int.mul_sub]; omega
    rw [e, Int.add_mul_emod_self_left, Int.emod_eq_of_lt (by omega) (by omega)]
  have hx : Builtin.bitXor ((2 : Int) ^ W - 1) (2 ^ k - 1) = 2 ^ W - 2 ^ k := by rw [bitXor_and, hm]; omega
  rw [hx]
  have hn : Builtin.bitAnd ((2 : Int) ^ W - 1) (Builtin.bitNot (2 ^ k - 1)) = 2 ^ W - 2 ^ k := by rw [bitAnd_not, hm]; omega
  have hvw : Builtin.bitAnd v (2 ^ W - 1) = v := by rw [kbt_mask]; exact Int.emod_eq_of_lt h0 h1
  have key : Builtin.bitAnd v (2 ^ W - 2 ^ k) = Builtin.bitAnd v (Builtin.bitNot (2 ^ k - 1)) := by
    have hneg : ¬ 0 ≤ Builtin.bitNot ((2 : Int) ^ k - 1) := by show ¬ 0 ≤ -((2 : Int) ^ k - 1) - 1; omega
    have hbn : Builtin.bitNot (Builtin.bitNot ((2 : Int) ^ k - 1)) = 2 ^ k - 1 := by show -(-((2 : Int) ^ k - 1) - 1) - 1 = _; omega
    rw [bitAnd_pn h0 hneg, hbn, bitAnd_pp h0 (by omega)]
    have c1 := kbt_cast k
    have c2 := kbt_cast W
    have e1 : ((2 : Int) ^ W - 2 ^ k).toNat = 2 ^ W - 2 ^ k := by omega
    have e2 : ((2 : Int) ^ k - 1).toNat = 2 ^ k - 1 := by omega
    rw [e1, e2, Nat.and_two_pow_sub_one_eq_mod]
    have hvN : v.toNat < 2 ^ W := by omega
    have hsum : (v.toNat &&& (2 ^ W - 2 ^ k)) + (v.toNat &&& (2 ^ k - 1)) = v.toNat := nat_sum _ _ _ hk hvN
    rw [Nat.and_two_pow_sub_one_eq_mod] at hsum
    omega
  rw [key, bitAnd_not, kbt_mask]

theorem fst_hi {v mx : Int} {W k : Nat} (hm : mx = 2 ^ W - 1) (h0 : 0 ≤ v) (h1 : v ≤ mx) (hk : k ≤ W) : Builtin.bitAnd v (Builtin.bitXor mx (1 * 2 ^ k - 1)) + 2 ^ k ≤ mx + 1 := by
  rw [hm, net_first h0 (by omega) hk]
  have hp := pow_pos2 k
  obtain ⟨d, rfl⟩ := Nat.exists_eq_add_of_le hk
  have e1 := Int.emod_add_mul_ediv v (2 ^ k)
  have e2 : (2 : Int) ^ (k + d) = 2 ^ k * 2 ^ d := Int.pow_add ..
  have h2 : 2 ^ k * (v / 2 ^ k) < 2 ^ k * 2 ^ d := by
    have := Int.emod_nonneg v (Int.ne_of_gt hp)
    omega
  have h3 : v / 2 ^ k < 2 ^ d := Int.lt_of_mul_lt_mul_left h2 (Int.le_of_lt hp)
  have h4 := Int.mul_le_mul_of_nonneg_left (show v / 2 ^ k + 1 ≤ 2 ^ d by omega) (Int.le_of_lt hp)
  rw [Int.mul_add, Int.mul_one] at h4
  omega
theorem newsPerm {h₀ h : Heap} {L : Addr} {x d r l : Addr × Obj} {rest : List (Addr × Obj)} (N : News h₀ L h (x :: d :: r :: l :: rest)) : News h₀ L h (r :: l :: (x :: d :: rest)) := fun q hq => N q (by
  simp only [List.mem_cons] at hq ⊢
  rcases hq with h | h | h | h | h
  · exact .inr (.inr (.inl h))
  · exact .inr (.inr (.inr (.inl h)))
  · exact .inl h
  · exact .inr (.inl h)
  · exact .inr (.inr (.inr (.inr h))))
section
variable {P : Params} {M : Addr} {W mx first o : Int} {e : Nat} {h₀ h : Heap} {L lA rA x d : Addr} {news : List (Addr × Obj)} {Lw Rw : List (Int × Int)} {m₀ m' : Str → Option Value} {s : Shared} {c : PSt} {tk : Nat} {a b d9 tv tp u1 u2 u3 : Tok} {np9 c9 up9 : Int}
theorem left_brk (hi : PInv P M W mx first o e lA rA news Lw Rw c) (hn : c.n = 1) (hW : W = o + e) (hge : c.up ≤ first) (hx : x ≠ lA ∧ x ≠ rA) (hd : d ≠ lA ∧ d ≠ rA) (F : Fr h₀ L h m')
    (N : News h₀ L h ((x, instObj 2868 d) :: (d, netD P M c.cur c.np a b d9 tv tp) :: (rA, listOf c.rs.toArray c.n2) :: (lA, listOf (c.ls.toArray.push (.ref x)) (c.n1 + 1)) :: (c.tl ++ news)))
    (hr : ∀ z : Str, z ≠ "matched" → z ≠ "new_prefixlen" → z ≠ "i_lower" → z ≠ "i_upper" → m' z = m₀ z) : PFin P M W mx h₀ L lA rA news Lw Rw m₀ s { s with heap := h, toks := tk } :=
  PInv.done (hi.left (a := a) (b := b) (d9 := d9) (tv := tv) (tp := tp) (u1 := 0) (u2 := 0) (u3 := 0) (k := 0) hn hW hge hx hd) rfl F (by rw [List.push_toArray] at N; exact newsPerm N) hr
theorem right_brk (hi : PInv P M W mx first o e lA rA news Lw Rw c) (hn : c.n = 1) (hW : W = o + e) (hge : ¬ c.up ≤ first) (hx : x ≠ lA ∧ x ≠ rA) (hd : d ≠ lA ∧ d ≠ rA) (F : Fr h₀ L h m')
    (N : News h₀ L h ((x, instObj 2868 d) :: (d, netD P M c.up c.np a b d9 tv tp) :: (rA, listOf (c.rs.toArray.push (.ref x)) (c.n2 + 1)) :: (lA, listOf c.ls.toArray c.n1) :: (c.tl ++ news)))
    (hr : ∀ z : Str, z ≠ "matched" → z ≠ "new_prefixlen" → z ≠ "i_lower" → z ≠ "i_upper" → m' z = m₀ z) : PFin P M W mx h₀ L lA rA news Lw Rw m₀ s { s with heap := h, toks := tk } :=
  PInv.done (hi.right (a := a) (b := b) (d9 := d9) (tv := tv) (tp := tp) (u1 := 0) (u2 := 0) (u3 := 0) (k := 0) hn hW hge hx hd) rfl F (by rw [List.push_toArray] at N; exact newsPerm N) hr
theorem left_next {k : Nat} (hi : PInv P M W mx first o e lA rA news Lw Rw c) (hn : c.n = k + 1) (hW : W = o + e) (hge : c.up ≤ first) (hx : x ≠ lA ∧ x ≠ rA) (hd : d ≠ lA ∧ d ≠ rA) (F : Fr h₀ L h m')
    (N : News h₀ L h ((x, instObj 2868 d) :: (d, netD P M c.cur c.np a b d9 tv tp) :: (rA, listOf c.rs.toArray c.n2) :: (lA, listOf (c.ls.toArray.push (.ref x)) (c.n1 + 1)) :: (c.tl ++ news)))
    (v1 : m' "new_prefixlen" = some (.int np9 u1)) (v2 : m' "i_lower" = some (.int c9 u2)) (v3 : m' "i_upper" = some (.int up9 u3))
    (hr : ∀ z : Str, z ≠ "matched" → z ≠ "new_prefixlen" → z ≠ "i_lower" → z ≠ "i_upper" → m' z = m₀ z) (h1 : np9 = c.np + 1) (h2 : c9 = c.up) (h3 : up9 = c.up + 2 ^ (e + k - 1)) :
    PEnd P M W mx first o e h₀ L lA rA news Lw Rw m₀ s c { s with heap := h, toks := tk } := by
  subst h1; subst h2; subst h3
  exact ⟨_, h, tk, m', rfl, F, by rw [List.push_toArray] at N; exact newsPerm N, v1, v2, v3, hr, hi.left (a := a) (b := b) (d9 := d9) (tv := tv) (tp := tp) hn hW hge hx hd, by rw [hn]; exact Nat.lt_succ_self k⟩
theorem right_next {k : Nat} (hi : PInv P M W mx first o e lA rA news Lw Rw c) (hn : c.n = k + 1) (hW : W = o + e) (hge : ¬ c.up ≤ first) (hx : x ≠ lA ∧ x ≠ rA) (hd : d ≠ lA ∧ d ≠ rA) (F : Fr h₀ L h m')
    (N : News h₀ L h ((x, instObj 2868 d) :: (d, netD P M c.up c.np a b d9 tv tp) :: (rA, listOf (c.rs.toArray.push (.ref x)) (c.n2 + 1)) :: (lA, listOf c.ls.toArray c.n1) :: (c.tl ++ news)))
    (v1 : m' "new_prefixlen" = some (.int np9 u1)) (v2 : m' "i_lower" = some (.int c9 u2)) (v3 : m' "i_upper" = some (.int up9 u3))
    (hr : ∀ z : Str, z ≠ "matched" → z ≠ "new_prefixlen" → z ≠ "i_lower" → z ≠ "i_upper" → m' z = m₀ z) (h1 : np9 = c.np + 1) (h2 : c9 = c.cur) (h3 : up9 = c.cur + 2 ^ (e + k - 1)) :
    PEnd P M W mx first o e h₀ L lA rA news Lw Rw m₀ s c { s with heap := h, toks := tk } := by
  subst h1; subst h2; subst h3
  exact ⟨_, h, tk, m', rfl, F, by rw [List.push_toArray] at N; exact newsPerm N, v1, v2, v3, hr, hi.right (a := a) (b := b) (d9 := d9) (tv := tv) (tp := tp) hn hW hge hx hd, by rw [hn]; exact Nat.lt_succ_self k⟩
end
/-- a network's first and last number, as its properties reckon them -/
def nfst (mx W v p : Int) : Int := Builtin.bitAnd v (Builtin.bitXor mx (1 * 2 ^ (W - p).toNat - 1))
def nlst (W v p : Int) : Int := Builtin.bitOr v (1 * 2 ^ (W - p).toNat - 1)
/-- what cidr_partition gives back -/
inductive PartSpec (mx W v1 p1 v2 p2 : Int) : List (Int × Int) → List (Int × Int) → List (Int × Int) → Prop
  | below : nlst W v2 p2 < nfst mx W v1 p1 → PartSpec mx W v1 p1 v2 p2 [] [] [(nfst mx W v1 p1, p1)]
  | above : ¬ nlst W v2 p2 < nfst mx W v1 p1 → nlst W v1 p1 < nfst mx W v2 p2 → PartSpec mx W v1 p1 v2 p2 [(nfst mx W v1 p1, p1)] [] []
  | within : ¬ nlst W v2 p2 < nfst mx W v1 p1 → ¬ nlst W v1 p1 < nfst mx W v2 p2 → p2 ≤ p1 → PartSpec mx W v1 p1 v2 p2 [] [(v1, p1)] []
  | parted : ¬ nlst W v2 p2 < nfst mx W v1 p1 → ¬ nlst W v1 p1 < nfst mx W v2 p2 → p1 < p2 →
      PartSpec mx W v1 p1 v2 p2 (part W (nfst mx W v2 p2) (W - p2).toNat (p2 - p1).toNat (nfst mx W v1 p1)).1 [(v2, p2)] (part W (nfst mx W v2 p2) (W - p2).toNat (p2 - p1).toNat (nfst mx W v1 p1)).2.reverse

theorem off4 {x d x1 d1 lA rA : Addr} {ox od ox1 od1 : Obj} {news : List (Addr × Obj)} (hL : x < lA ∧ d < lA ∧ x1 < lA ∧ d1 < lA ∧ AllLt lA news) (hR : lA < rA ∧ x < rA ∧ d < rA ∧ x1 < rA ∧ d1 < rA ∧ AllLt rA news) :
    ∀ q ∈ (x, ox) :: (d, od) :: (x1, ox1) :: (d1, od1) :: news, q.1 ≠ lA ∧ q.1 ≠ rA := by
  intro q hq
  have a1 : AllLt lA ((x, ox) :: (d, od) :: (x1, ox1) :: (d1, od1) :: news) := hL
  have a2 : AllLt rA ((x, ox) :: (d, od) :: (x1, ox1) :: (d1, od1) :: news) := hR.2
  exact ⟨Nat.ne_of_lt (ktn_ltOf a1 q hq), Nat.ne_of_lt (ktn_ltOf a2 q hq)⟩

theorem apart3 {h₀ h : Heap} {L x d lA rA : Addr} {ox od oR oL : Obj} {rest : List (Addr × Obj)} (_N : News h₀ L h ((x, ox) :: (d, od) :: (rA, oR) :: (lA, oL) :: rest))
    (h1 : AllLt d ((rA, oR) :: (lA, oL) :: rest)) (h2 : d < x) : (x ≠ lA ∧ x ≠ rA) ∧ (d ≠ lA ∧ d ≠ rA) := by
  have h3 : rA < d ∧ lA < d ∧ AllLt d rest := h1
  have a1 := h3.1
  have a2 := h3.2.1
  exact ⟨⟨Nat.ne_of_gt (Nat.lt_trans a2 h2), Nat.ne_of_gt (Nat.lt_trans a1 h2)⟩, ⟨Nat.ne_of_gt a2, Nat.ne_of_gt a1⟩⟩

theorem fr_but4 {h₀ h : Heap} {L : Addr} {m₀ m' : Str → Option Value} (F : Fr h₀ L h m') (hr : ∀ z : Str, z ≠ "matched" → z ≠ "new_prefixlen" → z ≠ "i_lower" → z ≠ "i_upper" → m' z = m₀ z) :
    Fr h₀ L h (fun z : Str => if z = "matched" then m' z else if z = "new_prefixlen" then m' z else if z = "i_lower" then m' z else if z = "i_upper" then m' z else m₀ z) := by
  have e : (fun z : Str => if z = "matched" then m' z else if z = "new_prefixlen" then m' z else if z = "i_lower" then m' z else if z = "i_upper" then m' z else m₀ z) = m' := by
    funext z
    by_cases h1 : z = "matched"
    · simp only [if_pos h1]
    · by_cases h2 : z = "new_prefixlen"
      · simp only [if_neg h1, if_pos h2]
      · by_cases h3 : z = "i_lower"
        · simp only [if_neg h1, if_neg h2, if_pos h3]
        · by_cases h4 : z = "i_upper"
          · simp only [if_neg h1, if_neg h2, if_neg h3, if_pos h4]
          · simp only [if_neg h1, if_neg h2, if_neg h3, if_neg h4]; exact (hr z h1 h2 h3 h4).symm
  rw [e]; exact F

theorem NetAll.reverse {P : Params} {M : Addr} {W mx : Int} {news : List (Addr × Obj)} {vs : List Value} {xs : List (Int × Int)} (h : NetAll P M W mx news vs xs) : NetAll P M W mx news vs.reverse xs.reverse := by
  induction h with
  | nil => exact .nil
  | cons h1 h2 a b c d _ ih => rw [List.reverse_cons, List.reverse_cons]; exact ih.append (.cons h1 h2 a b c d .nil)
section
variable {h₀ h : Heap} {L : Addr} {t lr lm ll x d x1 d1 x2 d2 rA lA : Addr × Obj} {tl news : List (Addr × Obj)}
theorem newsA (N : News h₀ L h (t :: lr :: x :: d :: lm :: ll :: x1 :: d1 :: x2 :: d2 :: news)) : News h₀ L h (t :: ll :: lm :: lr :: ([x, d, x1, d1, x2, d2] ++ news)) := fun q hq => N q (by
  simp only [List.cons_append, List.nil_append, List.mem_cons] at hq ⊢
  rcases hq with h | h | h | h | h | h | h | h | h | h | h <;> simp only [h, true_or, or_true])
theorem newsB (N : News h₀ L h (t :: lr :: lm :: ll :: x :: d :: x1 :: d1 :: x2 :: d2 :: news)) : News h₀ L h (t :: ll :: lm :: lr :: ([x, d, x1, d1, x2, d2] ++ news)) := fun q hq => N q (by
  simp only [List.cons_append, List.nil_append, List.mem_cons] at hq ⊢
  rcases hq with h | h | h | h | h | h | h | h | h | h | h <;> simp only [h, true_or, or_true])
theorem newsC (N : News h₀ L h (t :: lr :: lm :: ll :: x1 :: d1 :: x2 :: d2 :: news)) : News h₀ L h (t :: ll :: lm :: lr :: ([x1, d1, x2, d2] ++ news)) := fun q hq => N q (by
  simp only [List.cons_append, List.nil_append, List.mem_cons] at hq ⊢
  rcases hq with h | h | h | h | h | h | h | h | h <;> simp only [h, true_or, or_true])
theorem newsD (N : News h₀ L h (t :: lr :: lm :: rA :: lA :: (tl ++ (x1 :: d1 :: x2 :: d2 :: news)))) : News h₀ L h (t :: lA :: lm :: lr :: ((x1 :: d1 :: x2 :: d2 :: tl) ++ news)) := fun q hq => N q (by
  simp only [List.cons_append, List.mem_append, List.mem_cons] at hq ⊢
  rcases hq with h | h | h | h | h | h | h | h | h | h <;> simp only [h, true_or, or_true])
end
/-- what a caller of cidr_partition is handed -/
def PRet (P : Params) (M : Addr) (W mx v1 p1 v2 p2 : Int) (h₀ : Heap) (L : Addr) (m : Str → Option Value) (news : List (Addr × Obj)) (s : Shared) (Q : Value → Shared → Prop) : Prop :=
  ∀ (t ll lm lr : Addr) (ls ms rs : List Value) (n1 n2 n3 k : Nat) (tl : List (Addr × Obj)) (Lx Mx Rx : List (Int × Int)) (h' : Heap) (tk' : Nat), Fr h₀ L h' m →
    News h₀ L h' ((t, ({ cls := .type "tuple", data := .seq #[.ref ll, .ref lm, .ref lr] k } : Obj)) :: (ll, listOf ls.toArray n1) :: (lm, listOf ms.toArray n2) :: (lr, listOf rs.toArray n3) :: (tl ++ news)) →
    NetAll P M W mx tl ls Lx → NetAll P M W mx tl ms Mx → NetAll P M W mx tl rs Rx → PartSpec mx W v1 p1 v2 p2 Lx Mx Rx → ls.length ≤ 300 → ms.length ≤ 300 → rs.length ≤ 300 → Q (.ref t) { s with heap := h', toks := tk' }
section
variable {P : Params} {M : Addr} {W mx v1 p1 v2 p2 : Int} {h₀ h : Heap} {L t lr lm ll x d x1 d1 x2 d2 rA lA : Addr} {m : Str → Option Value} {tl news : List (Addr × Obj)} {s : Shared} {Q : Value → Shared → Prop} {tk k n1 n2 n3 n4 : Nat}
  {a b c tv tp a1 b1 c1 t1 t2 a2 b2 c2 t3 t4 : Tok}
theorem ret_below (R : PRet P M W mx v1 p1 v2 p2 h₀ L m news s Q) (F : Fr h₀ L h m)
    (N : News h₀ L h ((t, ({ cls := .type "tuple", data := .seq #[.ref ll, .ref lm, .ref lr] k } : Obj)) :: (lr, listOf #[.ref x] n3) :: (x, instObj 2868 d) :: (d, netD P M (nfst mx W v1 p1) p1 a b c tv tp) :: (lm, listOf #[] n2) :: (ll, listOf #[] n1) ::
      (x2, instObj 2868 d2) :: (d2, netD P M v2 p2 a2 b2 c2 t3 t4) :: (x1, instObj 2868 d1) :: (d1, netD P M v1 p1 a1 b1 c1 t1 t2) :: news))
    (q1 : 0 ≤ v1) (q2 : v1 ≤ mx) (q3 : 0 ≤ p1) (q4 : p1 ≤ W) (c9 : nlst W v2 p2 < nfst mx W v1 p1) : Q (.ref t) { s with heap := h, toks := tk } := by
  have hb := bitAnd_bounds (y := Builtin.bitXor mx (1 * 2 ^ (W - p1).toNat - 1)) q1
  exact R t ll lm lr [] [] [.ref x] n1 n2 n3 k _ [] [] [(nfst mx W v1 p1, p1)] h tk F (newsA N) .nil .nil (.cons (.head _) (.tail _ (.head _)) hb.1 (Int.le_trans hb.2 q2) q3 q4 .nil) (.below c9) (by decide) (by decide) (by simp)
theorem ret_above (R : PRet P M W mx v1 p1 v2 p2 h₀ L m news s Q) (F : Fr h₀ L h m)
    (N : News h₀ L h ((t, ({ cls := .type "tuple", data := .seq #[.ref ll, .ref lm, .ref lr] k } : Obj)) :: (lr, listOf #[] n3) :: (lm, listOf #[] n2) :: (ll, listOf #[.ref x] n1) :: (x, instObj 2868 d) :: (d, netD P M (nfst mx W v1 p1) p1 a b c tv tp) ::
      (x2, instObj 2868 d2) :: (d2, netD P M v2 p2 a2 b2 c2 t3 t4) :: (x1, instObj 2868 d1) :: (d1, netD P M v1 p1 a1 b1 c1 t1 t2) :: news))
    (q1 : 0 ≤ v1) (q2 : v1 ≤ mx) (q3 : 0 ≤ p1) (q4 : p1 ≤ W) (c8 : ¬ nlst W v2 p2 < nfst mx W v1 p1) (c9 : nlst W v1 p1 < nfst mx W v2 p2) : Q (.ref t) { s with heap := h, toks := tk } := by
  have hb := bitAnd_bounds (y := Builtin.bitXor mx (1 * 2 ^ (W - p1).toNat - 1)) q1
  exact R t ll lm lr [.ref x] [] [] n1 n2 n3 k _ [(nfst mx W v1 p1, p1)] [] [] h tk F (newsB N) (.cons (.head _) (.tail _ (.head _)) hb.1 (Int.le_trans hb.2 q2) q3 q4 .nil) .nil .nil (.above c8 c9) (by simp) (by decide) (by decide)
theorem ret_within (R : PRet P M W mx v1 p1 v2 p2 h₀ L m news s Q) (F : Fr h₀ L h m)
    (N : News h₀ L h ((t, ({ cls := .type "tuple", data := .seq #[.ref ll, .ref lm, .ref lr] k } : Obj)) :: (lr, listOf #[] n3) :: (lm, listOf #[.ref x1] n2) :: (ll, listOf #[] n1) ::
      (x2, instObj 2868 d2) :: (d2, netD P M v2 p2 a2 b2 c2 t3 t4) :: (x1, instObj 2868 d1) :: (d1, netD P M v1 p1 a1 b1 c1 t1 t2) :: news))
    (q1 : 0 ≤ v1) (q2 : v1 ≤ mx) (q3 : 0 ≤ p1) (q4 : p1 ≤ W) (c7 : ¬ nlst W v2 p2 < nfst mx W v1 p1) (c8 : ¬ nlst W v1 p1 < nfst mx W v2 p2) (c9 : p2 ≤ p1) : Q (.ref t) { s with heap := h, toks := tk } :=
  R t ll lm lr [] [.ref x1] [] n1 n2 n3 k _ [] [(v1, p1)] [] h tk F (newsC N) .nil (.cons (.tail _ (.tail _ (.head _))) (.tail _ (.tail _ (.tail _ (.head _)))) q1 q2 q3 q4 .nil) .nil (.within c7 c8 c9) (by decide) (by simp) (by decide)
theorem ret_parted {ls rs : List Value} (R : PRet P M W mx v1 p1 v2 p2 h₀ L m news s Q) (F : Fr h₀ L h m)
    (N : News h₀ L h ((t, ({ cls := .type "tuple", data := .seq #[.ref lA, .ref lm, .ref lr] k } : Obj)) :: (lr, listOf rs.toArray.toList.reverse.toArray n3) :: (lm, listOf #[.ref x2] n2) :: (rA, listOf rs.toArray n4) :: (lA, listOf ls.toArray n1) ::
      (tl ++ ((x2, instObj 2868 d2) :: (d2, netD P M v2 p2 a2 b2 c2 t3 t4) :: (x1, instObj 2868 d1) :: (d1, netD P M v1 p1 a1 b1 c1 t1 t2) :: news))))
    (q5 : 0 ≤ v2) (q6 : v2 ≤ mx) (q7 : 0 ≤ p2) (q8 : p2 ≤ W) (c7 : ¬ nlst W v2 p2 < nfst mx W v1 p1) (c8 : ¬ nlst W v1 p1 < nfst mx W v2 p2) (c9 : p1 < p2)
    (hL : NetAll P M W mx tl ls (part W (nfst mx W v2 p2) (W - p2).toNat (p2 - p1).toNat (nfst mx W v1 p1)).1) (hR : NetAll P M W mx tl rs (part W (nfst mx W v2 p2) (W - p2).toNat (p2 - p1).toNat (nfst mx W v1 p1)).2)
    (l1 : ls.length ≤ 300) (l2 : rs.length ≤ 300) : Q (.ref t) { s with heap := h, toks := tk } := by
  have sub : ∀ q ∈ tl, q ∈ (x2, instObj 2868 d2) :: (d2, netD P M v2 p2 a2 b2 c2 t3 t4) :: (x1, instObj 2868 d1) :: (d1, netD P M v1 p1 a1 b1 c1 t1 t2) :: tl := fun q hq => .tail _ (.tail _ (.tail _ (.tail _ hq)))
  exact R t lA lm lr ls [.ref x2] rs.reverse n1 n2 n3 k _ _ [(v2, p2)] _ h tk F (newsD N) (hL.mono sub) (.cons (.head _) (.tail _ (.head _)) q5 q6 q7 q8 .nil) (hR.mono sub).reverse (.parted c7 c8 c9) l1 (by simp) (by rw [List.length_reverse]; exact l2)
end
end
theorem Fam.facts {ver W mx : Int} {M : Addr} (h : Fam ver M W mx) : (ver = 4 ∨ ver = 6) ∧ 0 ≤ W ∧ W ≤ 128 ∧ mx = 2 ^ W.toNat - 1 ∧ 0 ≤ mx := by cases h <;> decide
/-- what a family's names hold -/
inductive ModVal (ver W mx : Int) : Str → Int → Prop
  | width : ModVal ver W mx "width" W
  | version : ModVal ver W mx "version" ver
  | top : ModVal ver W mx "max_int" mx
/-- what a network's properties tell -/
inductive PropVal (ver W mx v pl : Int) : Str → Int → Prop
  | first : PropVal ver W mx v pl "first" (nfst mx W v pl)
  | last : PropVal ver W mx v pl "last" (nlst W v pl)
  | prefixlen : PropVal ver W mx v pl "prefixlen" pl
  | version : PropVal ver W mx v pl "version" ver
  | value : PropVal ver W mx v pl "value" v
section
variable {w : World} {A : Around} {E : Value → Shared → Prop} {s : Shared} {h₀ : Heap} {L : Addr} {m : Str → Option Value} {ver W mx : Int} {M : Addr} {expr : Bool} {Q : Value → Shared → Prop}
set_option maxHeartbeats 8000000 in
theorem mod_attr {x : Str} {v : Int} (F : Fr h₀ L s.heap m) (X : (K0 w.params).In h₀) (hF : Fam ver M W mx) (hx : ModVal ver W mx x v) (h : ∀ t k, Q (.int v t) { s with toks := k }) : wpAny (model PySem.Challenge.rw_az0025_01.row.prog w) A (getAttr (.ref M) x expr) Q E s := by
  revert X
  k_fill
  intro X
  cases hF <;> cases hx <;> k_steps <;> exact h _ _
end
local macro_rules | `(tactic| walk_at "getAttr ref") => `(tactic| (k_here; k_dflt (refine' mod_attr (by k_asm) (by k_asm) (by with_reducible assumption) (by with_reducible constructor) ?_; intros)))
section
variable {w : World} {p : Program} {loose : List Str} {mean : ExcName → Option Value} {mg mb : Str → Option Value}
    {dp un : Nat} {gd : Option (List Code)} {cn : Str} {nm : List (Str × NameKind)} {ig ic : Bool} {mo : List (Str × Const)} {a : Addr} {ccd : Value} {cl : List (Str × Addr)} {outer : List Env} {A₀ : Around} {base h₀ : Heap} {L : Addr} {m : Str → Option Value} {news : List (Addr × Obj)} {s : Shared}
    {Q E : Value → Shared → Prop} {ver W mx : Int} {M : Addr} {x d : Addr} {v pl : Int} {a1 b1 c1 t1 t2 : Tok} {expr : Bool}
theorem net_kw (B : Below A₀ base outer h₀) (F : Fr h₀ L s.heap m) (X : (K0 w.params).In h₀) (T : Top p loose mean mg mb h₀) (hF : Fam ver M W mx) {T9 : Addr} {t3 : Tok} {k : Nat} (N : News h₀ L s.heap ((T9, ({ cls := .type "tuple", data := .seq #[.int v t1, .int pl t2] k } : Obj)) :: news))
    (hd : dp + 10 < recursionLimit) (hu : un + 64 < cLine) (h1 : 0 ≤ v) (h2 : v ≤ mx) (h3 : 0 ≤ pl) (h4 : pl ≤ W) (ret : ∀ x d h' tk' a b c, Fr h₀ L h' m → News h₀ L h' ((x, instObj 2868 d) :: (d, netD w.params M v pl a b c t1 t2) :: news) → AllLt d news → d < x → Q (.ref x) { s with heap := h', toks := tk' }) :
    wpAny (model PySem.Challenge.rw_az0025_01.row.prog w) (ktrTop dp un gd cn (scF nm ig ic mo) L a ccd cl outer) (call (.ref 2868) [.ref T9] [(Str.ofString "version", .int ver t3)]) Q E s := by
  cases hF
  · exact net_kw4 B F X T N hd hu h1 h2 h3 h4 ret
  · exact net_kw6 B F X T N hd hu h1 h2 h3 h4 ret
theorem net_pos (B : Below A₀ base outer h₀) (F : Fr h₀ L s.heap m) (X : (K0 w.params).In h₀) (T : Top p loose mean mg mb h₀) (hF : Fam ver M W mx) {T9 : Addr} {t3 : Tok} {k : Nat} (N : News h₀ L s.heap ((T9, ({ cls := .type "tuple", data := .seq #[.int v t1, .int pl t2] k } : Obj)) :: news))
    (hd : dp + 10 < recursionLimit) (hu : un + 64 < cLine) (h1 : 0 ≤ v) (h2 : v ≤ mx) (h3 : 0 ≤ pl) (h4 : pl ≤ W) (ret : ∀ x d h' tk' a b c, Fr h₀ L h' m → News h₀ L h' ((x, instObj 2868 d) :: (d, netD w.params M v pl a b c t1 t2) :: news) → AllLt d news → d < x → Q (.ref x) { s with heap := h', toks := tk' }) :
    wpAny (model PySem.Challenge.rw_az0025_01.row.prog w) (ktrTop dp un gd cn (scF nm ig ic mo) L a ccd cl outer) (call (.ref 2868) [.ref T9, .int ver t3]) Q E s := by
  cases hF
  · exact net_pos4 B F X T N hd hu h1 h2 h3 h4 ret
  · exact net_pos6 B F X T N hd hu h1 h2 h3 h4 ret
set_option maxHeartbeats 8000000 in
theorem get_val {y : Str} {r : Int} (B : Below A₀ base outer h₀) (F : Fr h₀ L s.heap m) (X : (K0 w.params).In h₀) (T : Top p loose mean mg mb h₀) (hF : Fam ver M W mx) (N : News h₀ L s.heap news) (hy : PropVal ver W mx v pl y r) (m1 : (x, instObj 2868 d) ∈ news) (m2 : (d, netD w.params M v pl a1 b1 c1 t1 t2) ∈ news)
    (h3 : 0 ≤ pl) (h4 : pl ≤ W) (hd : dp + 10 < recursionLimit) (hu : un + 64 < cLine) (ret : ∀ h' tk' t, Fr h₀ L h' m → News h₀ L h' news → Q (.int r t) { s with heap := h', toks := tk' }) :
    wpAny (model PySem.Challenge.rw_az0025_01.row.prog w) (ktrTop dp un gd cn (scF nm ig ic mo) L a ccd cl outer) (getAttr (.ref x) y expr) Q E s := by
  have hw1 := hF.facts.2.1
  have hw2 := hF.facts.2.2.1
  revert X
  k_fill
  intro X
  cases hy <;> k_steps <;> exact ret _ _ _ (by assumption) (by assumption)
end
local macro_rules | `(tactic| walk_at "call ref") => `(tactic| (k_here; k_dflt (first
  | (refine' net_kw (by k_asm) (by k_asm) (by k_asm) (by k_asm) (by with_reducible assumption) (by k_asm) (by k_room) (by ktr_units) (by first | omega | exact (bitAnd_bounds (by omega)).1) (by first | omega | exact Int.le_trans (bitAnd_bounds (by omega)).2 (by omega)) (by omega) (by omega) ?_; k_whole; intros)
  | (refine' net_copy (by k_asm) (by k_asm) (by k_asm) (by k_asm) (by k_asm) (by k_mem) (by k_mem) (by k_room) (by ktr_units) ?_; k_whole; intros))))
section
variable {w : World} {p : Program} {loose : List Str} {mean : ExcName → Option Value} {mg mb : Str → Option Value}
    {dp un : Nat} {gd : Option (List Code)} {cn : Str} {nm : List (Str × NameKind)} {ig ic : Bool} {mo : List (Str × Const)} {a : Addr} {ccd : Value} {cl : List (Str × Addr)} {outer : List Env} {A₀ : Around} {base h₀ : Heap} {L : Addr} {m : Str → Option Value} {news : List (Addr × Obj)} {s : Shared}
    {Q E : Value → Shared → Prop} {ver W mx : Int} {M : Addr} {x d : Addr} {v pl : Int} {a1 b1 c1 t1 t2 : Tok} {expr : Bool}
set_option maxHeartbeats 8000000 in
theorem get_cidr (B : Below A₀ base outer h₀) (F : Fr h₀ L s.heap m) (X : (K0 w.params).In h₀) (T : Top p loose mean mg mb h₀) (hF : Fam ver M W mx) (N : News h₀ L s.heap news) (m1 : (x, instObj 2868 d) ∈ news) (m2 : (d, netD w.params M v pl a1 b1 c1 t1 t2) ∈ news)
    (h3 : 0 ≤ pl) (h4 : pl ≤ W) (hd : dp + 14 < recursionLimit) (hu : un + 96 < cLine) (g1 : 0 ≤ v) (g2 : v ≤ mx) (ret : ∀ x d h' tk' a b c t1 t2, Fr h₀ L h' m → News h₀ L h' ((x, instObj 2868 d) :: (d, netD w.params M (nfst mx W v pl) pl a b c t1 t2) :: news) → AllLt d news → d < x → Q (.ref x) { s with heap := h', toks := tk' }) :
    wpAny (model PySem.Challenge.rw_az0025_01.row.prog w) (ktrTop dp un gd cn (scF nm ig ic mo) L a ccd cl outer) (getAttr (.ref x) "cidr" expr) Q E s := by
  have hw1 := hF.facts.2.1
  have hw2 := hF.facts.2.2.1
  revert X
  k_fill
  intro X
  k_steps
  exact ret _ _ _ _ _ _ _ _ _ (by assumption) (by assumption) (by first | assumption | exact allLt_of (by assumption)) (by assumption)
end
local macro_rules | `(tactic| walk_at "getAttr ref") => `(tactic| (k_here; k_dflt (first
  | (refine' get_val (by k_asm) (by k_asm) (by k_asm) (by k_asm) (by with_reducible assumption) (by k_asm) (by with_reducible constructor) (by k_mem) (by k_mem) (by first | assumption | omega) (by first | assumption | omega) (by k_room) (by ktr_units) ?_; k_whole; intros)
  | ((with_reducible show wpAny _ _ (getAttr _ (Str.ofString "cidr") _) _ _ _); refine' get_cidr (by k_asm) (by k_asm) (by k_asm) (by k_asm) (by with_reducible assumption) (by k_asm) (by k_mem) (by k_mem) (by first | assumption | omega) (by first | assumption | omega) (by k_room) (by ktr_units) (by first | assumption | omega) (by first | assumption | omega) ?_; k_whole; intros))))
section
/-- the number of the net's first address -/
def net0 (v : Int) (K : Nat) : Int := v - v % 2 ^ K
theorem net0_mul (v : Int) (K : Nat) : net0 v K = (v / 2 ^ K) * 2 ^ K := by
  unfold net0
  have := Int.emod_add_mul_ediv v (2 ^ K)
  rw [Int.mul_comm (v / 2 ^ K)]
  omega
theorem net0_bounds {v : Int} (h : 0 ≤ v) (K : Nat) : 0 ≤ net0 v K ∧ net0 v K ≤ v := by
  unfold net0
  have hp := pow_pos2 K
  have h1 := Int.emod_nonneg v (Int.ne_of_gt hp)
  have h2 := Int.emod_lt_of_pos v hp
  have h3 := Int.emod_add_mul_ediv v (2 ^ K)
  have h4 : 0 ≤ 2 ^ K * (v / 2 ^ K) := Int.mul_nonneg (Int.le_of_lt hp) (Int.ediv_nonneg h (Int.le_of_lt hp))
  omega
theorem net0_of_mul {c : Int} {K : Nat} : net0 (c * 2 ^ K) K = c * 2 ^ K := by
  unfold net0
  rw [Int.mul_emod_left]
  omega
theorem nfst_eq {v p : Int} {W : Nat} (h0 : 0 ≤ v) (h1 : v ≤ 2 ^ W - 1) (hp : 0 ≤ p) : nfst (2 ^ W - 1) W v p = net0 v ((W : Int) - p).toNat := by
  unfold nfst net0
  exact net_first h0 (by omega) (by omega)
theorem nlst_eq {v p W : Int} : nlst W v p = net0 v (W - p).toNat + 2 ^ (W - p).toNat - 1 := by
  unfold nlst net0
  rw [Int.one_mul, bitOr_and, kbt_mask]
  omega
theorem told_eq {W : Nat} {x : Int × Int} (h0 : 0 ≤ x.1) (h1 : x.1 ≤ 2 ^ W - 1) (hp : 0 ≤ x.2) : told (2 ^ W - 1) W x = (net0 x.1 ((W : Int) - x.2).toNat, x.2) := by
  unfold told
  exact congrArg (·, x.2) (net_first h0 (by omega) (by omega))
/-- a whole net is one block -/
theorem blk_whole {W : Int} {u c : Int} {K f : Nat} (hu : u = c * 2 ^ K) (h0 : 0 ≤ u) : blk W (f + 1) u (u + 2 ^ K - 1) = [(u, W - (K : Int))] ∧ Enough (f + 1) u (u + 2 ^ K - 1) := by
  have hp := pow_pos2 K
  have hs := sz_whole hu h0
  constructor
  · rw [blk_step (by omega), hs, bl_pow, blk_none (by omega)]
    have : W + 1 - ((K : Int) + 1) = W - (K : Int) := by omega
    rw [this]
  · exact .inr (by rw [hs]; exact enough_none (by omega))
/-- what the loop makes is told as it is -/
theorem part_told {first : Int} {W e : Nat} : ∀ (n : Nat) (cur m : Int), e + n ≤ W → cur = m * 2 ^ (e + n) → 0 ≤ cur → cur + 2 ^ (e + n) ≤ 2 ^ W →
    (∀ x ∈ (part W first e n cur).1, told (2 ^ W - 1) W x = x) ∧ (∀ x ∈ (part W first e n cur).2, told (2 ^ W - 1) W x = x) := by
  intro n
  induction n with
  | zero => intro cur m _ _ _ _; exact ⟨fun x hx => (nomatch hx), fun x hx => (nomatch hx)⟩
  | succ n ih =>
    intro cur m hW hm h0 h1
    have hp := pow_pos2 (e + n)
    have hpow : (2 : Int) ^ (e + (n + 1)) = 2 * 2 ^ (e + n) := by rw [← pow_succ2]; rfl
    rw [hpow] at hm h1
    have hm2 : cur = (2 * m) * 2 ^ (e + n) := by rw [hm, ← Int.mul_assoc, Int.mul_comm m 2]
    have hmu : cur + 2 ^ (e + n) = (2 * m + 1) * 2 ^ (e + n) := by rw [Int.add_mul, Int.one_mul, ← hm2]
    have one : ∀ u c : Int, u = c * 2 ^ (e + n) → 0 ≤ u → u + 2 ^ (e + n) ≤ 2 ^ W → told (2 ^ W - 1) W (u, (W : Int) - ((e + n : Nat) : Int)) = (u, (W : Int) - ((e + n : Nat) : Int)) := by
      intro u c hu hu0 hu1
      rw [told_eq (by dsimp only; omega) (by dsimp only; omega) (by dsimp only; omega)]
      dsimp only
      have ek : ((W : Int) - ((W : Int) - ((e + n : Nat) : Int))).toNat = e + n := by omega
      rw [ek, hu, net0_of_mul]
    unfold part
    split
    · obtain ⟨a, b⟩ := ih (cur + 2 ^ (e + n)) (2 * m + 1) (by omega) hmu (by omega) (by omega)
      refine ⟨fun x hx => ?_, b⟩
      rcases List.mem_cons.mp hx with rfl | hx
      · exact one _ _ hm2 h0 (by omega)
      · exact a x hx
    · obtain ⟨a, b⟩ := ih cur (2 * m) (by omega) hm2 h0 (by omega)
      refine ⟨a, fun x hx => ?_⟩
      rcases List.mem_cons.mp hx with rfl | hx
      · exact one _ _ hmu (by omega) (by omega)
      · exact b x hx
theorem map_told {mx W : Int} {xs : List (Int × Int)} (h : ∀ x ∈ xs, told mx W x = x) : xs.map (told mx W) = xs := by
  induction xs with
  | nil => rfl
  | cons x xs ih => rw [List.map_cons, h x (.head _), ih fun y hy => h y (.tail _ hy)]

/-- two nets, the second not smaller, that meet: the second holds the first -/
theorem nested {v1 v2 : Int} {K1 K2 : Nat} (hK : K1 ≤ K2) (h1 : net0 v1 K1 ≤ net0 v2 K2 + 2 ^ K2 - 1) (h2 : net0 v2 K2 ≤ net0 v1 K1 + 2 ^ K1 - 1) : net0 v2 K2 ≤ net0 v1 K1 ∧ net0 v1 K1 + 2 ^ K1 ≤ net0 v2 K2 + 2 ^ K2 := by
  obtain ⟨d, rfl⟩ := Nat.exists_eq_add_of_le hK
  have p1 := pow_pos2 K1
  have pd := pow_pos2 d
  have e2 : net0 v2 (K1 + d) = (v2 / 2 ^ (K1 + d) * 2 ^ d) * 2 ^ K1 := by rw [net0_mul, Int.pow_add, Int.mul_assoc, Int.mul_comm (2 ^ d)]
  have e1 := net0_mul v1 K1
  have e3 : (2 : Int) ^ (K1 + d) = 2 ^ d * 2 ^ K1 := by rw [Int.pow_add, Int.mul_comm]
  rw [e3] at h1 ⊢
  generalize net0 v2 (K1 + d) = B at *
  generalize net0 v1 K1 = A at *
  generalize v2 / 2 ^ (K1 + d) * 2 ^ d = b at *
  generalize v1 / 2 ^ K1 = c at *
  subst e1; subst e2
  have i1 : c * 2 ^ K1 < (b + 2 ^ d) * 2 ^ K1 := by rw [Int.add_mul]; omega
  have i2 : b * 2 ^ K1 < (c + 1) * 2 ^ K1 := by rw [Int.add_mul, Int.one_mul]; omega
  have j1 := Int.lt_of_mul_lt_mul_right i1 (Int.le_of_lt p1)
  have j2 := Int.lt_of_mul_lt_mul_right i2 (Int.le_of_lt p1)
  have k1 := Int.mul_le_mul_of_nonneg_right (show b ≤ c by omega) (Int.le_of_lt p1)
  have k2 := Int.mul_le_mul_of_nonneg_right (show c + 1 ≤ b + 2 ^ d by omega) (Int.le_of_lt p1)
  rw [Int.add_mul, Int.add_mul, Int.one_mul] at k2
  exact ⟨k1, k2⟩

/-- the three lists of the law, for every way to lie -/
theorem final_law {W : Nat} {v1 p1 v2 p2 : Int} (hW : W ≤ 128) (a1 : 0 ≤ v1) (a2 : v1 ≤ 2 ^ W - 1) (a3 : 0 ≤ p1) (a4 : p1 ≤ W) (b1 : 0 ≤ v2) (b2 : v2 ≤ 2 ^ W - 1) (b3 : 0 ≤ p2) (b4 : p2 ≤ W) {low high first last : Int}
    (hlow : low = net0 v1 ((W : Int) - p1).toNat) (hhigh : high = low + 2 ^ ((W : Int) - p1).toNat - 1) (hfirst : first = net0 v2 ((W : Int) - p2).toNat) (hlast : last = first + 2 ^ ((W : Int) - p2).toNat - 1) :
    (Enough 200 low (min high (first - 1)) ∧ Enough 200 (max low first) (min high last) ∧ Enough 200 (max low (last + 1)) high) ∧
    ∀ L M R, PartSpec (2 ^ W - 1) W v1 p1 v2 p2 L M R → L.map (told (2 ^ W - 1) W) = blk W 200 low (min high (first - 1)) ∧ M.map (told (2 ^ W - 1) W) = blk W 200 (max low first) (min high last) ∧ R.map (told (2 ^ W - 1) W) = blk W 200 (max low (last + 1)) high := by
  have n1 := nfst_eq (p := p1) a1 a2 a3
  have n2 := nfst_eq (p := p2) b1 b2 b3
  have l1 := nlst_eq (v := v1) (p := p1) (W := W)
  have l2 := nlst_eq (v := v2) (p := p2) (W := W)
  have k1 : (((W : Int) - p1).toNat : Int) = W - p1 := by omega
  have k2 : (((W : Int) - p2).toNat : Int) = W - p2 := by omega
  have kk : p1 < p2 → ((W : Int) - p1).toNat = ((W : Int) - p2).toNat + (p2 - p1).toNat := by intro h; omega
  have kw : p2 ≤ p1 → ((W : Int) - p1).toNat ≤ ((W : Int) - p2).toNat := by intro h; omega
  have kl : ((W : Int) - p1).toNat ≤ W := by omega
  generalize hK1 : ((W : Int) - p1).toNat = K1 at *
  generalize hK2 : ((W : Int) - p2).toNat = K2 at *
  have q1 := pow_pos2 K1
  have q2 := pow_pos2 K2
  have z1 := net0_bounds a1 K1
  have z2 := net0_bounds b1 K2
  have w1 := net0_mul v1 K1
  have w2 := net0_mul v2 K2
  rw [← hlow] at z1 w1 n1 l1
  rw [← hfirst] at z2 w2 n2 l2
  have wt1 : told (2 ^ W - 1) W (v1, p1) = (low, p1) := by rw [told_eq a1 a2 a3, hK1, ← hlow]
  have wt2 : told (2 ^ W - 1) W (v2, p2) = (first, p2) := by rw [told_eq b1 b2 b3, hK2, ← hfirst]
  have wt3 : told (2 ^ W - 1) W (low, p1) = (low, p1) := by
    rw [told_eq z1.1 (by dsimp only; omega) a3, hK1]
    dsimp only
    rw [w1, net0_of_mul]
  have bW1 := blk_whole (W := W) (f := 199) w1 z1.1
  have bW2 := blk_whole (W := W) (f := 199) w2 z2.1
  have ew1 : (W : Int) - (K1 : Int) = p1 := by omega
  have ew2 : (W : Int) - (K2 : Int) = p2 := by omega
  rw [ew1, ← hhigh] at bW1
  rw [ew2, ← hlast] at bW2
  by_cases c1 : last < low
  · -- wholly below
    rw [show min high (first - 1) = first - 1 by omega, show max low first = low by omega, show min high last = last by omega, show max low (last + 1) = low by omega]
    refine ⟨⟨enough_none (by omega), enough_none (by omega), bW1.2⟩, fun L M R h => ?_⟩
    rw [blk_none (show first - 1 < low by omega), blk_none (show last < low by omega), bW1.1]
    cases h with
    | below h => rw [n1]; exact ⟨rfl, rfl, by rw [List.map_cons, List.map_nil, wt3]⟩
    | above h h' => exact absurd h (by omega)
    | within h h' h'' => exact absurd h (by omega)
    | parted h h' h'' => exact absurd h (by omega)
  · by_cases c2 : high < first
    · rw [show min high (first - 1) = high by omega, show max low first = first by omega, show min high last = high by omega, show max low (last + 1) = last + 1 by omega]
      refine ⟨⟨bW1.2, enough_none (by omega), enough_none (by omega)⟩, fun L M R h => ?_⟩
      rw [blk_none (show high < first by omega), blk_none (show high < last + 1 by omega), bW1.1]
      cases h with
      | below h => exact absurd h (by omega)
      | above h h' => rw [n1]; exact ⟨by rw [List.map_cons, List.map_nil, wt3], rfl, rfl⟩
      | within h h' h'' => exact absurd h' (by omega)
      | parted h h' h'' => exact absurd h' (by omega)
    · by_cases c3 : p2 ≤ p1
      · obtain ⟨y1, y2⟩ := nested (v1 := v1) (v2 := v2) (kw c3) (by rw [← hlow, ← hfirst]; omega) (by rw [← hlow, ← hfirst]; omega)
        rw [← hlow, ← hfirst] at y1 y2
        rw [show min high (first - 1) = first - 1 by omega, show max low first = low by omega, show min high last = high by omega, show max low (last + 1) = last + 1 by omega]
        refine ⟨⟨enough_none (by omega), bW1.2, enough_none (by omega)⟩, fun L M R h => ?_⟩
        rw [blk_none (show first - 1 < low by omega), blk_none (show high < last + 1 by omega), bW1.1]
        cases h with
        | below h => exact absurd h (by omega)
        | above h h' => exact absurd h' (by omega)
        | within h h' h'' => exact ⟨rfl, by rw [List.map_cons, List.map_nil, wt1], rfl⟩
        | parted h h' h'' => exact absurd h'' (by omega)
      · have hlt : p1 < p2 := by omega
        have ek := kk hlt
        obtain ⟨y1, y2⟩ := nested (v1 := v2) (v2 := v1) (K1 := K2) (K2 := K1) (by omega) (by rw [← hlow, ← hfirst]; omega) (by rw [← hlow, ← hfirst]; omega)
        rw [← hlow, ← hfirst] at y1 y2
        rw [show min high (first - 1) = first - 1 by omega, show max low first = first by omega, show min high last = last by omega, show max low (last + 1) = last + 1 by omega]
        have w1' : low = (v1 / 2 ^ K1) * 2 ^ (K2 + (p2 - p1).toNat) := by rw [← ek]; exact w1
        obtain ⟨⟨s1, s2⟩, s3, s4⟩ := part_spec (W := W) w2 (p2 - p1).toNat low _ w1' z1.1 y1 (by rw [← ek]; omega) 200 (by omega)
        have el : first + 2 ^ K2 = last + 1 := by omega
        have eh : low + 2 ^ (K2 + (p2 - p1).toNat) - 1 = high := by rw [← ek]; omega
        rw [el, eh] at s3 s4
        have hup : low + 2 ^ (K2 + (p2 - p1).toNat) ≤ 2 ^ W := by
          have := fst_hi (v := v1) (mx := 2 ^ W - 1) (W := W) (k := K1) rfl a1 a2 kl
          rw [net_first a1 (by omega) kl] at this
          rw [← ek, hlow]
          unfold net0
          omega
        obtain ⟨t1, t2⟩ := part_told (first := first) (W := W) (e := K2) (p2 - p1).toNat low _ (by omega) w1' z1.1 hup
        refine ⟨⟨s2, bW2.2, s4⟩, fun L M R h => ?_⟩
        rw [s1, bW2.1, s3]
        cases h with
        | below h => exact absurd h (by omega)
        | above h h' => exact absurd h' (by omega)
        | within h h' h'' => exact absurd h'' (by omega)
        | parted h h' h'' =>
          rw [n1, n2, hK2]
          refine ⟨map_told t1, by rw [List.map_cons, List.map_nil, wt2], map_told fun x hx => t2 x (List.mem_reverse.mp hx)⟩
end
section
section
local macro_rules | `(tactic| walk_at "eval ListComp") => `(tactic| (k_here; refine Halt.go ?_))
section
variable {w : World} {p : Program} {loose : List Str} {mean : ExcName → Option Value} {mg mb : Str → Option Value}
    {dp un : Nat} {gd : Option (List Code)} {cn : Str} {nm : List (Str × NameKind)} {ig ic : Bool} {mo : List (Str × Const)} {a : Addr} {ccd : Value} {cl : List (Str × Addr)} {outer : List Env} {A₀ : Around} {base h₀ : Heap} {L : Addr} {m : Str → Option Value} {news : List (Addr × Obj)} {s : Shared}
    {Q E : Value → Shared → Prop} {ver W mx : Int} {M : Addr}
set_option maxHeartbeats 8000000 in
theorem told_call (B : Below A₀ base outer h₀) (F : Fr h₀ L s.heap m) (X : (K0 w.params).In h₀) (T : Top p loose mean mg mb h₀) (hFam : Fam ver M W mx) {l : Addr} {vs : List Value} {n : Nat} {xs : List (Int × Int)}
    (N : News h₀ L s.heap news) (hl : (l, listOf vs.toArray n) ∈ news) (hv : NetAll w.params M W mx news vs xs) (hlen : vs.length ≤ 600)
    (hd : dp + 24 < recursionLimit) (hu : un + 128 < cLine)
    (ret : ∀ D ys tl h' tk', Fr h₀ L h' m → News h₀ L h' ((D, LCg.lst ys) :: (tl ++ news)) → DatAll tl ys ((xs.map (told mx W)).map (tupD ver)) → (∀ p ∈ tl, p.2.cls = .type "tuple") → Q (.ref D) { s with heap := h', toks := tk' }) :
    wpAny (model PySem.Challenge.rw_az0025_01.row.prog w) (ktrTop dp un gd cn (scF nm ig ic mo) L a ccd cl outer) (call (.ref 2982) [.ref l]) Q E s := by
  have hw1 := hFam.facts.2.1
  have hw2 := hFam.facts.2.2.1
  revert X
  k_fill
  intro X
  have hk0 : (envX cn (scF nm ig ic mo) L a ccd cl).scope.kind = ScopeKind.function := rfl
  refine wpAny_call ?_
  k_dflt ktr_enter
  k_steps
  refine Halt.of ?_
  rename Fr _ _ _ _ => lF
  rename News _ _ _ _ => lN
  k_dflt (refine LCg.ListComp_U (F₀ := lF) (by rfl) (by decide) (by rfl) (by decide) (by rfl) ?_)
  k_steps
  refine LCg.CompSrc.ledger rfl lF lN hl (by rw [List.size_toArray, sizeLine_eq]; omega) ?_
  intro g9
  refine comp_ind (fun i ys nw => ∃ tl, nw = tl ++ news ∧ DatAll tl ys (((xs.take i).map (told mx W)).map (tupD ver)) ∧ (∀ p ∈ tl, p.2.cls = .type "tuple")) _ ?turn ?fin ⟨[], rfl, by simpa using DatAll.nil, fun _ h => nomatch h⟩
  case turn =>
    clear lF lN
    intro i ys nw v I oI C oC D m2 h9 tk9 E9 hi9 hInv hP hC hx F9 N9 off9 ne9
    obtain ⟨tl, rfl, hda, hcl⟩ := hInv
    obtain ⟨x, d, v9, pl, a9, b9, c9, tv, tp, rfl, m1, m2', q1, q2, q3, q4, e9⟩ := hv.get (show vs[i]? = some v by simpa using hP)
    have m3 : (x, instObj 2868 d) ∈ tl ++ news := List.mem_append.mpr (.inr m1)
    have m4 : (d, netD w.params M v9 pl a9 b9 c9 tv tp) ∈ tl ++ news := List.mem_append.mpr (.inr m2')
    k_steps
    rename News _ _ _ _ => lN9
    rename I < _ ∧ _ => l9
    exact told_turn (by assumption) lN9 l9 off9 hl hda hcl e9
  case fin =>
    intro ys nw hInv
    obtain ⟨tl, rfl, hda, hcl⟩ := hInv
    have hx9 : xs.take vs.toArray.size = xs := by rw [List.size_toArray, hv.length, List.take_length]
    rw [hx9] at hda
    k_steps
    rename Fr h₀ _ _ m => lF9
    rename News h₀ L _ _ => lN9
    exact ret _ _ _ _ _ lF9 lN9 hda hcl
end
end
end
section
local macro_rules | `(tactic| walk_at "PPost") => `(tactic| (dsimp only [PPost]))
local macro_rules | `(tactic| walk_at "subscriptTail Name Slice ref ref") => `(tactic| (k_here; k_dflt (refine' krv_lit ?F ?N ?l ?k ?e ?_ ?s ?t ?z; (case F => k_asm); (case N => k_asm); (case l => kmk_list); (case k => exact IsPart.int _ _); (case e => exact rfl); (case s => with_unfolding_all rfl); (case t => kmk_pure); (case z => (rw [List.size_toArray, sizeLine_eq]; omega))); intro D' h' F' N' l1; (try k_lt l1)))
section
variable {w : World} {p : Program} {loose : List Str} {mean : ExcName → Option Value} {mg mb : Str → Option Value}
    {dp un : Nat} {gd : Option (List Code)} {cn : Str} {nm : List (Str × NameKind)} {ig ic : Bool} {mo : List (Str × Const)} {a : Addr} {ccd : Value} {cl : List (Str × Addr)} {outer : List Env} {A₀ : Around} {base h₀ : Heap} {L : Addr} {m : Str → Option Value} {news : List (Addr × Obj)} {s : Shared}
    {Q E : Value → Shared → Prop} {ver W mx : Int} {M : Addr}
set_option maxHeartbeats 8000000 in
theorem part_call (B : Below A₀ base outer h₀) (F : Fr h₀ L s.heap m) (X : (K0 w.params).In h₀) (T : Top p loose mean mg mb h₀) (hFam : Fam ver M W mx) {x1 d1 x2 d2 : Addr} {v1 p1 v2 p2 : Int} {a1 b1 c1 t1 t2 a2 b2 c2 t3 t4 : Tok}
    (N : News h₀ L s.heap news) (m1 : (x1, instObj 2868 d1) ∈ news) (m2 : (d1, netD w.params M v1 p1 a1 b1 c1 t1 t2) ∈ news) (m3 : (x2, instObj 2868 d2) ∈ news) (m4 : (d2, netD w.params M v2 p2 a2 b2 c2 t3 t4) ∈ news)
    (q1 : 0 ≤ v1) (q2 : v1 ≤ mx) (q3 : 0 ≤ p1) (q4 : p1 ≤ W) (q5 : 0 ≤ v2) (q6 : v2 ≤ mx) (q7 : 0 ≤ p2) (q8 : p2 ≤ W)
    (hd : dp + 20 < recursionLimit) (hu : un + 128 < cLine)
    (ret : PRet w.params M W mx v1 p1 v2 p2 h₀ L m news s Q) :
    wpAny (model PySem.Challenge.rw_az0025_01.row.prog w) (ktrTop dp un gd cn (scF nm ig ic mo) L a ccd cl outer) (call (.ref 2962) [.ref x1, .ref x2]) Q E s := by
  have hw1 := hFam.facts.2.1
  have hw2 := hFam.facts.2.2.1
  revert X
  k_fill
  intro X
  have hk0 : (envX cn (scF nm ig ic mo) L a ccd cl).scope.kind = ScopeKind.function := rfl
  refine wpAny_call ?_
  k_dflt (refine' code_def (binds := [(Str.ofString "target", .ref x1), (Str.ofString "exclude", .ref x2)]) ?k1 ?k2 ?k3 ?k4 ?k5 ?kA ?kF ?kK ?k6 ?k7 ?k8 ?k9 ?kB ?_ ?c2 ?c3 ?c4 ?c5; (case kA => exact rfl); (case kF => exact rfl); (case kK => assumption); (case k1 => k_asm); (case k2 => k_asm); (case k3 => k_asm); (case k4 => k_asm); (case k5 => k_asm); (case k6 => k_is); (case k7 => k_is); (case k8 => ktr_room); (case k9 => exact BindsTo.of_eq rfl); (case c5 => decide); (case kB => exact locs rfl); (case c2 => exact rfl); (case c3 => exact rfl); (case c4 => exact rfl); k_whole; intro g' L' h' FG' F' N' B' X' T'; (try dsimp only); (try k_fold))
  k_steps
  · rename Fr h₀ _ _ m => lF
    rename News h₀ L _ _ => lN
    exact ret_below ret lF lN q1 q2 q3 q4 (by assumption)
  · rename Fr h₀ _ _ m => lF
    rename News h₀ L _ _ => lN
    exact ret_above ret lF lN q1 q2 q3 q4 (by assumption) (by assumption)
  · rename Fr h₀ _ _ m => lF
    rename News h₀ L _ _ => lN
    exact ret_within ret lF lN q1 q2 q3 q4 (by assumption) (by assumption) (by assumption)
  refine Halt.of ?_
  rename Fr _ _ _ _ => lF
  rename News _ _ _ _ => lN
  rename _ < _ ∧ _ < _ ∧ _ < _ ∧ _ < _ ∧ _ < _ ∧ AllLt _ news => lR
  rename _ < _ ∧ _ < _ ∧ _ < _ ∧ _ < _ ∧ AllLt _ news => lL
  have hLR := lR.1
  have hfh := fst_hi (v := v1) (mx := mx) (W := W.toNat) (k := (W - p1).toNat) hFam.facts.2.2.2.1 q1 q2 (by omega)
  have hW2 : W = p2 + ((W - p2).toNat : Int) := by omega
  have hfn : (W - p1).toNat = (W - p2).toNat + (p2 - p1).toNat := by omega
  have hf0 : 0 ≤ nfst mx W v1 p1 := (bitAnd_bounds q1).1
  k_dflt (refine wpAny_mono (part_while (P := w.params) (M := M) (W := W) (mx := mx) (first := nfst mx W v2 p2) (o := p2) (e := (W - p2).toNat) (n := (p2 - p1).toNat) lF lN rfl rfl rfl (off4 lL lR) rfl rfl (by omega) (by congr 2; omega) hf0 (by rw [← hfn]; exact hfh) (by omega) (by omega) ?turn) ?cont (fun _ _ h => h))
  case cont =>
    rintro f s₂ ⟨rfl, ls, rs, n1, n2, tl, h9, tk9, m9, rfl, F9, N9, hr9, hd1, hd2, hl1, hl2, ho9⟩
    replace F9 := fr_but4 F9 hr9
    clear lF lN
    k_steps
    rename Fr h₀ _ _ m => lF
    rename News h₀ L _ _ => lN
    exact ret_parted ret lF lN q5 q6 q7 q8 (by assumption) (by assumption) (by omega) hd1 hd2 hl1 hl2
  case turn =>
    clear lF lN
    intro c u h9 tk9 hI F9 N9
    have i1 := hI.np
    have i2 := hI.up
    have i3 := hI.lo
    have i4 := hI.hi
    have i5 := hI.no
    have i6 := hI.off
    have i7 := hI.len
    have i8 : p2 < c.np ∨ (∃ k, c.n = k + 1 ∧ 0 ≤ c.up ∧ c.up ≤ mx ∧ c.cur ≤ mx ∧ (W - (c.np + 1)).toNat = (W - p2).toNat + k - 1) := by
      rcases Int.lt_or_le p2 c.np with h | h
      · exact .inl h
      · refine .inr ⟨c.n - 1, by omega, ?_, ?_, ?_, by omega⟩
        · have := pow_pos2 ((W - p2).toNat + c.n - 1); omega
        · have h2 : (2 : Int) ^ ((W - p2).toNat + c.n) = 2 * 2 ^ ((W - p2).toNat + c.n - 1) := by rw [← pow_succ2]; congr 1; omega
          have := pow_pos2 ((W - p2).toNat + c.n - 1)
          omega
        · have := pow_pos2 ((W - p2).toNat + c.n)
          omega
    rcases i8 with i8 | ⟨k, i8, i9, i10, i12, i11⟩
    · k_steps
      rename Fr _ _ _ _ => lF
      rename News _ _ _ _ => lN
      exact PInv.done hI (by omega) lF lN (by intro z a b c d; simp [a, b, c, d])
    · k_steps
      · refine Halt.of ?_
        rename Fr _ _ _ _ => lF
        rename News _ _ _ _ => lN
        obtain ⟨hx9, hd9⟩ := apart3 lN (by assumption) (by assumption)
        refine' append_K lF lN (Upd.tail hx9.1 (Upd.tail hd9.1 (Upd.tail (Nat.ne_of_gt hLR) (Upd.head fun q hq => (i6 q hq).1)))) ?_ (by rw [List.size_toArray, sizeLine_eq]; omega)
        intro h8 F8 N8
        clear lF lN
        k_steps
        · rename Fr _ _ _ _ => lF
          rename News _ _ _ _ => lN
          exact left_brk hI (by omega) hW2 (by assumption) hx9 hd9 lF lN (by intro z a b c d; simp [a, b, c, d])
        · rename Fr _ _ _ _ => lF
          rename News _ _ _ _ => lN
          exact left_next hI i8 hW2 (by assumption) hx9 hd9 lF lN rfl rfl rfl (by intro z a b c d; simp [a, b, c, d]) rfl rfl (by rw [i11])
      · refine Halt.of ?_
        rename Fr _ _ _ _ => lF
        rename News _ _ _ _ => lN
        obtain ⟨hx9, hd9⟩ := apart3 lN (by assumption) (by assumption)
        refine' append_K lF lN (Upd.tail hx9.2 (Upd.tail hd9.2 (Upd.head (List.forall_mem_cons.mpr ⟨Nat.ne_of_lt hLR, fun q hq => (i6 q hq).2⟩)))) ?_ (by rw [List.size_toArray, sizeLine_eq]; omega)
        intro h8 F8 N8
        clear lF lN
        k_steps
        · rename Fr _ _ _ _ => lF
          rename News _ _ _ _ => lN
          exact right_brk hI (by omega) hW2 (by assumption) hx9 hd9 lF lN (by intro z a b c d; simp [a, b, c, d])
        · rename Fr _ _ _ _ => lF
          rename News _ _ _ _ => lN
          exact right_next hI i8 hW2 (by assumption) hx9 hd9 lF lN rfl rfl rfl (by intro z a b c d; simp [a, b, c, d]) rfl rfl (by rw [i11])
end
end
local macro_rules | `(tactic| walk_at "call ref") => `(tactic| (k_here; k_dflt (refine' part_call (by k_asm) (by k_asm) (by k_asm) (by k_asm) (by with_reducible assumption) (by k_asm) (by k_mem) (by k_mem) (by k_mem) (by k_mem) (by assumption) (by assumption) (by assumption) (by assumption) (by assumption) (by assumption) (by assumption) (by assumption) (by k_room) (by ktr_units) ?_; k_whole; intro; intros)))
section
theorem newsE {h₀ h : Heap} {L : Addr} {q t a b c : Addr × Obj} {rest : List (Addr × Obj)} (N : News h₀ L h (q :: t :: a :: b :: c :: rest)) : News h₀ L h (q :: rest) := fun p hp => N p (by
  simp only [List.mem_cons] at hp ⊢
  rcases hp with h | h <;> simp only [h, true_or, or_true])
section
variable {w : World} {p : Program} {loose : List Str} {mean : ExcName → Option Value} {mg mb : Str → Option Value}
    {dp un : Nat} {gd : Option (List Code)} {cn : Str} {nm : List (Str × NameKind)} {ig ic : Bool} {mo : List (Str × Const)} {a : Addr} {ccd : Value} {cl : List (Str × Addr)} {outer : List Env} {A₀ : Around} {base h₀ : Heap} {L : Addr} {m : Str → Option Value} {news : List (Addr × Obj)} {s : Shared}
    {Q E : Value → Shared → Prop} {ver W mx : Int} {M : Addr}
set_option maxHeartbeats 8000000 in
theorem excl_call (B : Below A₀ base outer h₀) (F : Fr h₀ L s.heap m) (X : (K0 w.params).In h₀) (T : Top p loose mean mg mb h₀) (hFam : Fam ver M W mx) {x1 d1 x2 d2 : Addr} {v1 p1 v2 p2 : Int} {a1 b1 c1 t1 t2 a2 b2 c2 t3 t4 : Tok}
    (N : News h₀ L s.heap news) (m1 : (x1, instObj 2868 d1) ∈ news) (m2 : (d1, netD w.params M v1 p1 a1 b1 c1 t1 t2) ∈ news) (m3 : (x2, instObj 2868 d2) ∈ news) (m4 : (d2, netD w.params M v2 p2 a2 b2 c2 t3 t4) ∈ news)
    (q1 : 0 ≤ v1) (q2 : v1 ≤ mx) (q3 : 0 ≤ p1) (q4 : p1 ≤ W) (q5 : 0 ≤ v2) (q6 : v2 ≤ mx) (q7 : 0 ≤ p2) (q8 : p2 ≤ W)
    (hd : dp + 30 < recursionLimit) (hu : un + 160 < cLine)
    (ret : ∀ l ls n tl Lx Mx Rx h' tk', Fr h₀ L h' m → News h₀ L h' ((l, listOf (List.toArray ls) n) :: (tl ++ news)) → NetAll w.params M W mx tl ls (Lx ++ Rx) → PartSpec mx W v1 p1 v2 p2 Lx Mx Rx → ls.length ≤ 600 → Q (.ref l) { s with heap := h', toks := tk' }) :
    wpAny (model PySem.Challenge.rw_az0025_01.row.prog w) (ktrTop dp un gd cn (scF nm ig ic mo) L a ccd cl outer) (call (.ref 2955) [.ref x1, .ref x2]) Q E s := by
  revert X
  k_fill
  intro X
  have hk0 : (envX cn (scF nm ig ic mo) L a ccd cl).scope.kind = ScopeKind.function := rfl
  refine wpAny_call ?_
  k_dflt (refine' code_def (binds := [(Str.ofString "target", .ref x1), (Str.ofString "exclude", .ref x2)]) ?k1 ?k2 ?k3 ?k4 ?k5 ?kA ?kF ?kK ?k6 ?k7 ?k8 ?k9 ?kB ?_ ?c2 ?c3 ?c4 ?c5; (case kA => exact rfl); (case kF => exact rfl); (case kK => assumption); (case k1 => k_asm); (case k2 => k_asm); (case k3 => k_asm); (case k4 => k_asm); (case k5 => k_asm); (case k6 => k_is); (case k7 => k_is); (case k8 => ktr_room); (case k9 => exact BindsTo.of_eq rfl); (case c5 => decide); (case kB => exact locs rfl); (case c2 => exact rfl); (case c3 => exact rfl); (case c4 => exact rfl); k_whole; intro g' L' h' FG' F' N' B' X' T'; (try dsimp only); (try k_fold))
  k_steps
  rename Fr h₀ _ _ m => lF
  rename News h₀ L _ _ => lN
  exact ret _ _ _ _ _ _ _ _ _ lF (newsE lN) (NetAll.append (by assumption) (by assumption)) (by assumption) (by rw [List.length_append]; omega)
end
end
section
set_option maxHeartbeats 8000000
theorem ints_cut {xs : List Value} {ns : List Int} {n : Nat} (h : IntsAre xs ns) (hn : n + 1 ≤ ns.length) : ∃ a t ys ms, xs = .int a t :: ys ∧ ns = a :: ms ∧ IntsAre ys ms ∧ n ≤ ms.length := by
  cases h with
  | nil => exact absurd hn (by simp)
  | cons a t h => exact ⟨a, t, _, _, rfl, rfl, h, Nat.le_of_succ_le_succ hn⟩
theorem ints_six {xs : List Value} {ns : List Int} (h : IntsAre xs ns) (h6 : 6 ≤ ns.length) : ∃ a b c d e g ta tb tc td te tg, xs.take 6 = [.int a ta, .int b tb, .int c tc, .int d td, .int e te, .int g tg] ∧ (a ∈ ns ∧ b ∈ ns ∧ c ∈ ns ∧ d ∈ ns ∧ e ∈ ns ∧ g ∈ ns) := by
  obtain ⟨a, ta, x1, m1, rfl, rfl, h, h6⟩ := ints_cut h h6
  obtain ⟨b, tb, x2, m2, rfl, rfl, h, h6⟩ := ints_cut h h6
  obtain ⟨c, tc, x3, m3, rfl, rfl, h, h6⟩ := ints_cut h h6
  obtain ⟨d, td, x4, m4, rfl, rfl, h, h6⟩ := ints_cut h h6
  obtain ⟨e, te, x5, m5, rfl, rfl, h, h6⟩ := ints_cut h h6
  obtain ⟨g, tg, x6, m6, rfl, rfl, h, h6⟩ := ints_cut h h6
  exact ⟨a, b, c, d, e, g, ta, tb, tc, td, te, tg, rfl, .head _, .tail _ (.head _), .tail _ (.tail _ (.head _)), .tail _ (.tail _ (.tail _ (.head _))), .tail _ (.tail _ (.tail _ (.tail _ (.head _)))), .tail _ (.tail _ (.tail _ (.tail _ (.tail _ (.head _)))))⟩
theorem bits_zeros {ns : List Int} (h : PyData.layable0 (.list (ns.map .int)) = true) : ∀ x ∈ ns ++ [0, 0, 0, 0, 0, 0], Builtin.Int.intBits x ≤ 1048576 := fun x hx => by
  rcases List.mem_append.mp hx with hx | hx
  · exact PySem.PyData.bits_item_of_ints h hx
  · have : x = 0 := by simpa using hx
    subst this
    decide
section
variable {prog : Program} {w : World} {A : Around} {E : Value → Shared → Prop} {s : Shared} {h₀ : Heap} {L : Addr} {m : Str → Option Value} {news : List (Addr × Obj)}
theorem six_slice {value slice : Expr} {l : Addr} {its : List Value} {ns : List Int} {Q : Value → Shared → Prop} {t : Tok} (F : Fr h₀ L s.heap m) (N : News h₀ L s.heap news) (hl : s.heap.IsList l its.toArray) (hi : IntsAre its ns) (h6 : 6 ≤ ns.length) (hz : ns.length ≤ sizeLine) (hb : ∀ x ∈ ns, Builtin.Int.intBits x ≤ 1048576)
    (h : ∀ D h' a b c d e g ta tb tc td te tg, Builtin.Int.intBits a ≤ 1048576 → Builtin.Int.intBits b ≤ 1048576 → Builtin.Int.intBits c ≤ 1048576 → Builtin.Int.intBits d ≤ 1048576 → Builtin.Int.intBits e ≤ 1048576 → Builtin.Int.intBits g ≤ 1048576 → Fr h₀ L h' m → News h₀ L h' ((D, listOf #[.int a ta, .int b tb, .int c tc, .int d td, .int e te, .int g tg] 0) :: news) → (∀ p ∈ news, p.1 < D) → Q (.ref D) { s with heap := h' })
    (hs : subscripted slice false (.ref l) (.ref s.heap.objs.size) = operate [.ref s.heap.objs.size, .ref l] (getItem (.ref l) (.ref s.heap.objs.size))) (ht : ∀ r, letTemporaryGo value (.ref l) r = pure ()) :
    wpAny (model prog w) A (subscriptTail value slice (.ref l) (.ref s.heap.objs.size)) Q E { s with heap := s.heap.push { cls := .type "slice", data := .fields #[.none, .int 6 t, .none] } } := by
  refine kmk_slice F N hl .none (.int 6 t) (fun D h' F' N' l1 => ?_) hs ht (by rw [List.size_toArray, hi.length]; exact hz)
  obtain ⟨a, b, c, d, e, g, ta, tb, tc, td, te, tg, e6, q1, q2, q3, q4, q5, q6⟩ := ints_six hi h6
  rw [show slicePick its.toArray none (some 6) none = (its.take 6).toArray from slicePick_upto its.toArray 6 (by rw [List.size_toArray, hi.length]; exact h6), e6] at N'
  exact h D h' a b c d e g ta tb tc td te tg (hb _ q1) (hb _ q2) (hb _ q3) (hb _ q4) (hb _ q5) (hb _ q6) F' N' l1
end
theorem spread_bits : Builtin.Int.intBits 210306068529402873165736369884012333109 ≤ 128 := by decide +kernel
section
variable {prog : Program} {w : World} {A : Around} {E : Value → Shared → Prop} {s : Shared} {h₀ : Heap} {L : Addr} {m : Str → Option Value} {news : List (Addr × Obj)}
theorem pick_item {value slice : Expr} {l : Addr} {vs : List Value} {ns : List Int} {k lo hi : Int} {n : Nat} {u : Tok} {Q : Value → Shared → Prop} (N : News h₀ L s.heap news) (hm : (l, listOf vs.toArray n) ∈ news) (hi' : IntsAre vs ns) (ha : ∀ x ∈ ns, lo ≤ x ∧ x ≤ hi) (h0 : 0 ≤ k) (h1 : k < ns.length) (hf : ns.length ≤ 100) (h : ∀ v t, lo ≤ v → v ≤ hi → Q (.int v t) s)
    (hs : subscripted slice false (.ref l) (.int k u) = operate [.ref l, .int k u] (getItem (.ref l) (.int k u))) :
    wpAny (model prog w) A (subscriptTail value slice (.ref l) (.int k u)) Q E s := by
  refine kba_turn (value' := PySem.Expr.Name (PySem.Str.ofString "u") ⟨0, 0, 0, 0⟩) (fun _ => rfl) ?_
  have hx : ns.getD k.toNat 0 ∈ ns := by
    have hk : k.toNat < ns.length := by omega
    rw [List.getD_eq_getElem?_getD, List.getElem?_eq_getElem hk]
    exact List.getElem_mem hk
  exact ksa_sub N hm hi' h0 h1 (by omega) (fun t => h _ t (ha _ hx).1 (ha _ hx).2) hs
theorem start_all {d e top : Int} (h : 0 ≤ top) : ∀ x ∈ [0, top, d.fmod (top + 1), e.fmod (top + 1)], 0 ≤ x ∧ x ≤ top := by
  have a1 := Int.fmod_nonneg_of_pos d (show 0 < top + 1 by omega)
  have a2 := Int.fmod_lt_of_pos d (show 0 < top + 1 by omega)
  have a3 := Int.fmod_nonneg_of_pos e (show 0 < top + 1 by omega)
  have a4 := Int.fmod_lt_of_pos e (show 0 < top + 1 by omega)
  intro x hx
  simp only [List.mem_cons, List.not_mem_nil, or_false] at hx
  rcases hx with rfl | rfl | rfl | rfl <;> omega
variable {env : Env} {x : Str} {t : Tok} {Q : Unit → Shared → Prop}
theorem store_eq {a b : Int} (e : a = b) (h : ∀ t', wpAny (model prog w) A (storeName env x (.int b t')) Q E s) : wpAny (model prog w) A (storeName env x (.int a t)) Q E s := e ▸ h t
theorem store_tok {a : Int} (h : ∀ t', wpAny (model prog w) A (storeName env x (.int a t')) Q E s) : wpAny (model prog w) A (storeName env x (.int a t)) Q E s := h t
theorem store_gen {a : Int} (P : Int → Prop) (e : P a) (h : ∀ b t', P b → wpAny (model prog w) A (storeName env x (.int b t')) Q E s) : wpAny (model prog w) A (storeName env x (.int a t)) Q E s := h a t e
theorem store_mod {W b : Int} (hW : 0 ≤ W) (h : ∀ p t', 0 ≤ p → p ≤ W → wpAny (model prog w) A (storeName env x (.int p t')) Q E s) : wpAny (model prog w) A (storeName env x (.int (b.fmod (W + 1)) t)) Q E s :=
  h _ _ (Int.fmod_nonneg_of_pos b (by omega)) (by have := Int.fmod_lt_of_pos b (show 0 < W + 1 by omega); omega)
theorem store_size {W p : Int} (h : ∀ z t', z = (2 : Int) ^ (W - p).toNat → 0 < z → wpAny (model prog w) A (storeName env x (.int z t')) Q E s) : wpAny (model prog w) A (storeName env x (.int (1 * 2 ^ (W - p).toNat) t)) Q E s :=
  h _ _ (by rw [Int.one_mul]) (by rw [Int.one_mul]; exact pow_pos2 _)
theorem store_low {v z : Int} {K : Nat} (hz : z = 2 ^ K) (h0 : 0 < z) (hv : 0 ≤ v) (h : ∀ l t', l = net0 v K → 0 ≤ l → l ≤ v → wpAny (model prog w) A (storeName env x (.int l t')) Q E s) :
    wpAny (model prog w) A (storeName env x (.int (v - v.fmod z) t)) Q E s := by
  have e : v - v.fmod z = net0 v K := by unfold net0; rw [Int.fmod_eq_emod_of_nonneg _ (Int.le_of_lt h0), hz]
  have b := net0_bounds hv K
  rw [← e] at b
  exact h _ _ e b.1 b.2
theorem net0_top {v W : Int} {p : Int} {M : Int} (hM : M = 2 ^ W.toNat - 1) (hv : 0 ≤ v) (h1 : v ≤ M) (hp : 0 ≤ p) : net0 v (W - p).toNat + 2 ^ (W - p).toNat - 1 ≤ M := by
  have hw := net0_mul v (W - p).toNat
  have hb := net0_bounds hv (W - p).toNat
  have hle : (W - p).toNat ≤ W.toNat := by omega
  obtain ⟨j, hj⟩ : ∃ j, W.toNat = (W - p).toNat + j := ⟨W.toNat - (W - p).toNat, by omega⟩
  have e : (2 : Int) ^ W.toNat = 2 ^ j * 2 ^ (W - p).toNat := by rw [hj, Int.pow_add, Int.mul_comm]
  have hp2 := pow_pos2 (W - p).toNat
  generalize (2 : Int) ^ (W - p).toNat = Z at *
  rw [hM, e] at h1 ⊢
  rw [hw] at hb ⊢
  have : v / Z < 2 ^ j := by
    rcases Int.lt_or_le (v / Z) (2 ^ j) with q | q
    · exact q
    · have := Int.mul_le_mul_of_nonneg_right q (Int.le_of_lt hp2)
      omega
  have := Int.mul_le_mul_of_nonneg_right (show v / Z + 1 ≤ 2 ^ j by omega) (Int.le_of_lt hp2)
  rw [Int.add_mul, Int.one_mul] at this
  omega
theorem store_high {v z l p W M : Int} (hz : z = 2 ^ (W - p).toNat) (h0 : 0 < z) (hl : l = net0 v (W - p).toNat) (hM : M = 2 ^ W.toNat - 1) (hv : 0 ≤ v) (h1 : v ≤ M) (hp : 0 ≤ p) (h : ∀ g t', g = l + 2 ^ (W - p).toNat - 1 → l ≤ g → g ≤ M → wpAny (model prog w) A (storeName env x (.int g t')) Q E s) :
    wpAny (model prog w) A (storeName env x (.int (l + z - 1) t)) Q E s :=
  h _ _ (by rw [hz]) (by omega) (by rw [hl, hz]; exact net0_top hM hv h1 hp)
end
theorem place_all {l z g M a b c : Int} {K : Nat} (h0 : 0 ≤ l) (hz : z = 2 ^ K) (hz0 : 0 < z) (hg : g = l + 2 ^ K - 1) (hM : g ≤ M) :
    ∀ x ∈ [l + a.fmod z, l + b.fmod z, g - b.fmod z, (if l - 1 > 0 then l - 1 else 0), (if g + 1 < M then g + 1 else M), c.fmod (M + 1)], 0 ≤ x ∧ x ≤ M := by
  have a1 := Int.fmod_nonneg_of_pos a hz0
  have a2 := Int.fmod_lt_of_pos a hz0
  have a3 := Int.fmod_nonneg_of_pos b hz0
  have a4 := Int.fmod_lt_of_pos b hz0
  have hM0 : 0 < M + 1 := by omega
  have a5 := Int.fmod_nonneg_of_pos c hM0
  have a6 := Int.fmod_lt_of_pos c hM0
  rw [← hz] at hg
  intro x hx
  simp only [List.mem_cons, List.not_mem_nil, or_false] at hx
  rcases hx with rfl | rfl | rfl | rfl | rfl | rfl
  · omega
  · omega
  · omega
  · split <;> omega
  · split <;> omega
  · omega
theorem store_clamp {prog : Program} {w : World} {A : Around} {E : Value → Shared → Prop} {s : Shared} {env : Env} {x : Str} {t : Tok} {Q : Unit → Shared → Prop} {X W : Int} (hW : 0 ≤ W) (h : ∀ o t', 0 ≤ o → o ≤ W → wpAny (model prog w) A (storeName env x (.int o t')) Q E s) :
    wpAny (model prog w) A (storeName env x (.int (if (if X < W then X else W) > 0 then (if X < W then X else W) else 0) t)) Q E s :=
  h _ _ (by split <;> omega) (by split <;> (try split) <;> omega)
theorem ite_min {a b : Int} : (if b < a then b else a) = min a b := by
  rw [Int.min_def]; split <;> split <;> omega
theorem ite_max {a b : Int} : (if b > a then b else a) = max a b := by
  rw [Int.max_def]; split <;> split <;> omega
/-- the plain law, in the walk's words -/
theorem final_walk {W : Nat} {Wi M v1 p1 v2 p2 low high first last : Int} (hWi : Wi = W) (hM : M = 2 ^ W - 1) (hW : W ≤ 128) (a1 : 0 ≤ v1) (a2 : v1 ≤ M) (a3 : 0 ≤ p1) (a4 : p1 ≤ Wi) (b1 : 0 ≤ v2) (b2 : v2 ≤ M) (b3 : 0 ≤ p2) (b4 : p2 ≤ Wi)
    (hlow : low = net0 v1 (Wi - p1).toNat) (hhigh : high = low + 2 ^ (Wi - p1).toNat - 1) (hfirst : first = net0 v2 (Wi - p2).toNat) (hlast : last = first + 2 ^ (Wi - p2).toNat - 1) :
    Enough 200 low (if first - 1 < high then first - 1 else high) ∧ Enough 200 (if first > low then first else low) (if last < high then last else high) ∧ Enough 200 (if last + 1 > low then last + 1 else low) high ∧
    ∀ L Mx R, PartSpec M Wi v1 p1 v2 p2 L Mx R → L.map (told M Wi) = blk Wi 200 low (if first - 1 < high then first - 1 else high) ∧ Mx.map (told M Wi) = blk Wi 200 (if first > low then first else low) (if last < high then last else high) ∧ R.map (told M Wi) = blk Wi 200 (if last + 1 > low then last + 1 else low) high := by
  subst hWi hM
  rw [ite_min, ite_max, ite_min, ite_max]
  obtain ⟨⟨e1, e2, e3⟩, e4⟩ := final_law hW a1 a2 a3 a4 b1 b2 b3 b4 hlow hhigh hfirst hlast
  exact ⟨e1, e2, e3, e4⟩
/-- what cidr_partition tells is what the law's helper reckons -/
def FinalAll (M Wi v1 p1 v2 p2 low high first last : Int) : Prop :=
  ∀ L Mx R, PartSpec M Wi v1 p1 v2 p2 L Mx R → L.map (told M Wi) = blk Wi 200 low (if first - 1 < high then first - 1 else high) ∧ Mx.map (told M Wi) = blk Wi 200 (if first > low then first else low) (if last < high then last else high) ∧ R.map (told M Wi) = blk Wi 200 (if last + 1 > low then last + 1 else low) high
theorem FinalAll.both {M Wi v1 p1 v2 p2 low high first last : Int} (h : FinalAll M Wi v1 p1 v2 p2 low high first last) {L Mx R : List (Int × Int)} (k : PartSpec M Wi v1 p1 v2 p2 L Mx R) :
    (L ++ R).map (told M Wi) = blk Wi 200 low (if first - 1 < high then first - 1 else high) ++ blk Wi 200 (if last + 1 > low then last + 1 else low) high := by
  rw [List.map_append, (h _ _ _ k).1, (h _ _ _ k).2.2]
section
variable {prog : Program} {w : World} {A : Around} {E : Value → Shared → Prop} {s : Shared} {h₀ : Heap} {L : Addr} {m : Str → Option Value} {news : List (Addr × Obj)}
theorem add_vals {a b : Addr} {vs ws : List Value} {n1 n2 : Nat} {Q : Value → Shared → Prop} (F : Fr h₀ L s.heap m) (N : News h₀ L s.heap news) (ha : (a, listOf vs.toArray n1) ∈ news) (hb : (b, listOf ws.toArray n2) ∈ news) (h1 : vs.length ≤ 300) (h2 : ws.length ≤ 300)
    (h : ∀ D h', Fr h₀ L h' m → News h₀ L h' ((D, listOf (vs ++ ws).toArray 0) :: news) → (∀ p ∈ news, p.1 < D) → Q (.ref D) { s with heap := h' }) : wpAny (model prog w) A (binaryOp .Add (.ref a) (.ref b)) Q E s :=
  kmk_add_lit F N (PySem.IsL.isList (n := n1) (N _ ha).1) (PySem.IsL.isList (n := n2) (N _ hb).1) rfl h (by show vs.length + ws.length ≤ _; rw [sizeLine_eq]; omega)
theorem with_final {W : Nat} {Wi M v1 p1 v2 p2 low high first last kd : Int} {t1 t2 t3 : Tok} {f : Addr} {Q : Value → Shared → Prop} (hWi : Wi = W) (hM : M = 2 ^ W - 1) (hW : W ≤ 128)
    (hlow : low = net0 v1 (Wi - p1).toNat) (hhigh : high = low + 2 ^ (Wi - p1).toNat - 1) (hfirst : first = net0 v2 (Wi - p2).toNat) (hlast : last = first + 2 ^ (Wi - p2).toNat - 1)
    (a1 : 0 ≤ v1) (a2 : v1 ≤ M) (a3 : 0 ≤ p1) (a4 : p1 ≤ Wi) (b1 : 0 ≤ v2) (b2 : v2 ≤ M) (b3 : 0 ≤ p2) (b4 : p2 ≤ Wi)
    (h : Enough 200 low (if first - 1 < high then first - 1 else high) → Enough 200 (if first > low then first else low) (if last < high then last else high) → Enough 200 (if last + 1 > low then last + 1 else low) high →
      FinalAll M Wi v1 p1 v2 p2 low high first last →
      wpAny (model prog w) A (call (.ref f) [.int kd t1, .int low t2, .int (if first - 1 < high then first - 1 else high) t3]) Q E s) :
    wpAny (model prog w) A (call (.ref f) [.int kd t1, .int low t2, .int (if first - 1 < high then first - 1 else high) t3]) Q E s := by
  obtain ⟨e1, e2, e3, e4⟩ := final_walk hWi hM hW a1 a2 a3 a4 b1 b2 b3 b4 hlow hhigh hfirst hlast
  exact h e1 e2 e3 e4
/-- two lists of three lists of blocks -/
theorem cmp3 {k : Int} {a b x1 x2 x3 z1 z2 z3 : Addr} {ka kb n1 n2 n3 : Nat} {ys1 ys2 ys3 vs1 vs2 vs3 : List Value} {tl1 tl2 tl3 ul1 ul2 ul3 : List (Addr × Obj)} {X1 X2 X3 Y1 Y2 Y3 : List (Int × Int)} {Q : Value → Shared → Prop} (N : News h₀ L s.heap news)
    (ma : (a, listOf #[.ref x1, .ref x2, .ref x3] ka) ∈ news) (mb : (b, listOf #[.ref z1, .ref z2, .ref z3] kb) ∈ news)
    (h1 : (x1, LCg.lst ys1) ∈ news) (h2 : (x2, LCg.lst ys2) ∈ news) (h3 : (x3, LCg.lst ys3) ∈ news)
    (g1 : (z1, listOf vs1.toArray n1) ∈ news) (g2 : (z2, listOf vs2.toArray n2) ∈ news) (g3 : (z3, listOf vs3.toArray n3) ∈ news)
    (d1 : DatAll tl1 ys1 (X1.map (tupD k))) (d2 : DatAll tl2 ys2 (X2.map (tupD k))) (d3 : DatAll tl3 ys3 (X3.map (tupD k)))
    (e1 : DatAll ul1 vs1 (Y1.map (tupD k))) (e2 : DatAll ul2 vs2 (Y2.map (tupD k))) (e3 : DatAll ul3 vs3 (Y3.map (tupD k)))
    (s1 : ∀ p ∈ tl1, p ∈ news) (s2 : ∀ p ∈ tl2, p ∈ news) (s3 : ∀ p ∈ tl3, p ∈ news) (r1 : ∀ p ∈ ul1, p ∈ news) (r2 : ∀ p ∈ ul2, p ∈ news) (r3 : ∀ p ∈ ul3, p ∈ news)
    (eq : X1 = Y1 ∧ X2 = Y2 ∧ X3 = Y3) (hu : A.units + 64 < cLine) (h : Q (.bool false) s) : wpAny (model prog w) A (compareOp .NotEq (.ref a) (.ref b)) Q E s := by
  obtain ⟨rfl, rfl, rfl⟩ := eq
  have ok : ∀ Z : List (Int × Int), ∀ d ∈ Z.map (tupD k), kqdOk 7 d = true := fun Z d hd => by
    obtain ⟨x, _, rfl⟩ := List.mem_map.mp hd
    rfl
  have ok3 : ∀ d ∈ [Dat.list (X1.map (tupD k)), Dat.list (X2.map (tupD k)), Dat.list (X3.map (tupD k))], kqdOk 8 d = true := fun d hd => by
    simp only [List.mem_cons, List.not_mem_nil, or_false] at hd
    rcases hd with rfl | rfl | rfl
    · rw [kqdOk]; exact List.all_eq_true.mpr (ok X1)
    · rw [kqdOk]; exact List.all_eq_true.mpr (ok X2)
    · rw [kqdOk]; exact List.all_eq_true.mpr (ok X3)
  refine kqd_ne (xs := [.ref x1, .ref x2, .ref x3]) (ys := [.ref z1, .ref z2, .ref z3]) (ds := [Dat.list (X1.map (tupD k)), Dat.list (X2.map (tupD k)), Dat.list (X3.map (tupD k))]) (es := [Dat.list (X1.map (tupD k)), Dat.list (X2.map (tupD k)), Dat.list (X3.map (tupD k))]) N ma rfl rfl
    (.cons (.list h1 (d1.mono s1)) (.cons (.list h2 (d2.mono s2)) (.cons (.list h3 (d3.mono s3)) .nil))) (fun _ x => x) mb rfl rfl (.cons (.list g1 (e1.mono r1)) (.cons (.list g2 (e2.mono r2)) (.cons (.list g3 (e3.mono r3)) .nil))) (fun _ x => x) ok3 ok3 hu ?_
  simpa using h
/-- a list of blocks and two lists of blocks in one -/
theorem cmp2 {k : Int} {a b : Addr} {kb : Nat} {ys vs1 vs2 : List Value} {tl ul1 ul2 : List (Addr × Obj)} {X Y1 Y2 : List (Int × Int)} {Q : Value → Shared → Prop} (N : News h₀ L s.heap news)
    (ma : (a, LCg.lst ys) ∈ news) (mb : (b, listOf (vs1 ++ vs2).toArray kb) ∈ news) (d : DatAll tl ys (X.map (tupD k))) (e1 : DatAll ul1 vs1 (Y1.map (tupD k))) (e2 : DatAll ul2 vs2 (Y2.map (tupD k)))
    (s1 : ∀ p ∈ tl, p ∈ news) (r1 : ∀ p ∈ ul1, p ∈ news) (r2 : ∀ p ∈ ul2, p ∈ news) (eq : X = Y1 ++ Y2) (hu : A.units + 64 < cLine) (h : Q (.bool false) s) : wpAny (model prog w) A (compareOp .NotEq (.ref a) (.ref b)) Q E s := by
  subst eq
  have ok : ∀ Z : List (Int × Int), ∀ d ∈ Z.map (tupD k), kqdOk 8 d = true := fun Z d hd => by
    obtain ⟨x, _, rfl⟩ := List.mem_map.mp hd
    rfl
  refine kqd_ne (xs := ys) (ys := vs1 ++ vs2) (es := (Y1 ++ Y2).map (tupD k)) N ma rfl rfl (d.mono s1) (fun _ x => x) mb rfl rfl (by rw [List.map_append]; exact (e1.mono r1).append (e2.mono r2)) (fun _ x => x) (ok _) (ok _) hu ?_
  simpa using h
end
theorem Fam.kd {ver W mx : Int} {M : Addr} (h : Fam ver M W mx) : (ver = 4 ∧ W = 32) ∨ (ver = 6 ∧ W = 128) := by cases h <;> decide
theorem Fam.le {ver W mx : Int} {M : Addr} (h : Fam ver M W mx) : mx ≤ 340282366920938463463374607431768211455 := by cases h <;> decide
section
variable {prog : Program} {w : World} {A : Around} {E : Value → Shared → Prop} {s : Shared} {env : Env} {x : Str} {t : Tok}
theorem ifexp_ints {test : Expr} {a b : Int} {k1 k2 : Nat} {p1 p2 pos : Pos} {Q : Value → Shared → Prop} (h : wpAny (model prog w) A (isTrue test env (eval test env)) (fun c s₁ => Q (.int (if c = true then a else b) s₁.toks) { s₁ with toks := s₁.toks + 1 }) E s) :
    wpAny (model prog w) A (eval (.IfExp test (.Constant (.int a) k1 p1) (.Constant (.int b) k2 p2) pos) env) Q E s := by
  refine wpAny_IfExp (wpAny_mono h (fun c s₁ h₁ => ?_) fun _ _ e => e)
  cases c
  · exact wpAny_Constant_int h₁
  · exact wpAny_Constant_int h₁
theorem store_kind {c : Bool} {Q : Unit → Shared → Prop} (h : ∀ k t', (k = 4 ∨ k = 6) → wpAny (model prog w) A (storeName env x (.int k t')) Q E s) : wpAny (model prog w) A (storeName env x (.int (if c = true then 6 else 4) t)) Q E s := by
  cases c
  · exact h 4 t (.inl rfl)
  · exact h 6 t (.inr rfl)
theorem store_bits {k : Int} {Q : Unit → Shared → Prop} (hk : k = 4 ∨ k = 6) (h : ∀ W M mx t', Fam k M W mx → 0 ≤ W → W ≤ 128 → 0 ≤ mx → mx = 2 ^ W.toNat - 1 → wpAny (model prog w) A (storeName env x (.int W t')) Q E s) : wpAny (model prog w) A (storeName env x (.int (if (k == 4) = true then 32 else 128) t)) Q E s := by
  rcases hk with rfl | rfl
  · exact h 32 _ _ t .v4 (by decide) (by decide) (by decide) (by decide)
  · exact h 128 _ _ t .v6 (by decide) (by decide) (by decide) (by decide)
theorem store_top {W mx : Int} {Q : Unit → Shared → Prop} (e : mx = 2 ^ W.toNat - 1) (h : ∀ t', wpAny (model prog w) A (storeName env x (.int mx t')) Q E s) : wpAny (model prog w) A (storeName env x (.int (2 ^ W.toNat - 1) t)) Q E s := e ▸ h t
end
theorem fam_final {prog : Program} {w : World} {A : Around} {E : Value → Shared → Prop} {s : Shared} {ver Wi M v1 p1 v2 p2 low high first last kd : Int} {Ma : Addr} {t1 t2 t3 : Tok} {f : Addr} {Q : Value → Shared → Prop} (hF : Fam ver Ma Wi M)
    (hlow : low = net0 v1 (Wi - p1).toNat) (hhigh : high = low + 2 ^ (Wi - p1).toNat - 1) (hfirst : first = net0 v2 (Wi - p2).toNat) (hlast : last = first + 2 ^ (Wi - p2).toNat - 1)
    (a1 : 0 ≤ v1) (a2 : v1 ≤ M) (a3 : 0 ≤ p1) (a4 : p1 ≤ Wi) (b1 : 0 ≤ v2) (b2 : v2 ≤ M) (b3 : 0 ≤ p2) (b4 : p2 ≤ Wi)
    (h : Enough 200 low (if first - 1 < high then first - 1 else high) → Enough 200 (if first > low then first else low) (if last < high then last else high) → Enough 200 (if last + 1 > low then last + 1 else low) high →
      FinalAll M Wi v1 p1 v2 p2 low high first last →
      wpAny (model prog w) A (call (.ref f) [.int kd t1, .int low t2, .int (if first - 1 < high then first - 1 else high) t3]) Q E s) :
    wpAny (model prog w) A (call (.ref f) [.int kd t1, .int low t2, .int (if first - 1 < high then first - 1 else high) t3]) Q E s :=
  with_final (W := Wi.toNat) (by have := hF.facts; omega) hF.facts.2.2.2.1 (by have := hF.facts; omega) hlow hhigh hfirst hlast a1 a2 a3 a4 b1 b2 b3 b4 h
local macro_rules | `(tactic| kqd_sub) => `(tactic| (intro p hp; k_mem))
local macro_rules | `(tactic| walk_at "binaryOp Add ref ref") => `(tactic| (k_here; k_dflt (first
  | (refine' add_vals (by k_asm) (by k_asm) (by k_mem) (by k_mem) (by with_reducible assumption) (by with_reducible assumption) ?_; k_whole; intros; (try k_sweep); (try dsimp only))
  | (refine' add_arrays_ints (by k_asm) (by k_asm) ?k3 ?k4 ?k5 ?k6 ?_ ?k7; (case k3 => kmk_list); (case k4 => kmk_list); (case k5 => l_ints); (case k6 => l_ints); (case k7 => (have hb1' := len_ints_list (by lay_of)); simp only [sizeLine_eq, List.length_cons, List.length_nil]; omega); k_whole; intros; (try dsimp only)))))
local macro_rules | `(tactic| walk_at "subscriptTail") => `(tactic| (k_here; (try dsimp only); (with_reducible show wpAny _ _ (subscriptTail _ (PySem.Expr.Slice _ _ none _) (Value.ref _) (Value.ref _)) _ _ _); k_dflt (refine kba_turn (value' := PySem.Expr.Name (PySem.Str.ofString "u") ⟨0, 0, 0, 0⟩) (fun _ => rfl) ?_; refine' six_slice (s := ⟨_, _, _, _, _⟩) ?k1 ?k2 ?k3 ?k4 ?k5 ?k6 ?kb ?_ ?k7 ?k8; (case kb => exact bits_zeros (by assumption)); (case k1 => k_asm); (case k2 => k_asm); (case k3 => kmk_list); (case k4 => k_asm); (case k5 => simp only [List.length_append, List.length_cons, List.length_nil]; omega); (case k6 => (have hb1' := len_ints_list (by lay_of)); simp only [sizeLine_eq, List.length_append, List.length_cons, List.length_nil]; omega); (case k7 => with_unfolding_all rfl); (case k8 => kmk_pure); k_whole); intro D' h' a1 b1 c1 d1 e1 g1 ta tb tc td te tg b1' b2' b3' b4' b5' b6' F' N' l1; (try k_lt l1); (try k_sweep); (try dsimp only)))
local macro_rules | `(tactic| walk_at "subscriptTail") => `(tactic| (k_here; (with_reducible show wpAny _ _ (subscriptTail (PySem.Expr.List _ _) _ (Value.ref _) (Value.int _ _)) _ _ _); k_dflt (refine' pick_item (lo := 0) ?k1 ?k2 ?k3 ?k4 ?k5 ?k6 ?k7 ?_ ?k8; (case k8 => with_unfolding_all rfl); (case k1 => k_asm); (case k2 => exact .head _); (case k3 => l_ints); (case k4 => first | exact start_all (by with_reducible assumption) | exact place_all (by with_reducible assumption) (by with_reducible assumption) (by with_reducible assumption) (by with_reducible assumption) (by with_reducible assumption)); (case k5 => exact Int.fmod_nonneg_of_pos _ (by decide)); (case k6 => exact Int.fmod_lt_of_pos _ (by decide)); (case k7 => exact Nat.le_of_ble_eq_true rfl); intros)))
local macro_rules | `(tactic| walk_at "binaryOp Mult int int") => `(tactic| (k_here; with_reducible refine PyProof.Rows.mul_int ?_ (PyProof.Rows.mulOk_of_bits (by assumption) spread_bits (by decide))))
local macro_rules | `(tactic| walk_at "eval IfExp") => `(tactic| (k_here; with_reducible refine ifexp_ints ?_))
local macro_rules | `(tactic| walk_at "storeName") => `(tactic| (k_here; with_reducible (first | refine store_kind ?_ | refine store_bits (by assumption) ?_ | refine store_top (by assumption) ?_ | refine store_mod (by assumption) ?_ | refine store_size ?_ | refine store_low (by assumption) (by assumption) (by assumption) ?_ | refine store_high (by assumption) (by assumption) (by assumption) (by assumption) (by assumption) (by assumption) (by assumption) ?_ | refine store_clamp (by assumption) ?_); intros))
local macro_rules | `(tactic| walk_at "compareOp NotEq ref ref") => `(tactic| (k_here; k_dflt (first
  | (refine' cmp3 (by k_asm) (by k_mem) (by k_mem) (by k_mem) (by k_mem) (by k_mem) (by k_mem) (by k_mem) (by k_mem) (by with_reducible assumption) (by with_reducible assumption) (by with_reducible assumption) (by with_reducible assumption) (by with_reducible assumption) (by with_reducible assumption) (by kqd_sub) (by kqd_sub) (by kqd_sub) (by kqd_sub) (by kqd_sub) (by kqd_sub)
      (by rename FinalAll _ _ _ _ _ _ _ _ _ _ => hq9; exact hq9 _ _ _ (by with_reducible assumption)) (by ke_room) ?_; k_whole)
  | (refine' cmp2 (by k_asm) (by k_mem) (by k_mem) (by with_reducible assumption) (by with_reducible assumption) (by with_reducible assumption) (by kqd_sub) (by kqd_sub) (by kqd_sub) (by rename FinalAll _ _ _ _ _ _ _ _ _ _ => hq9; exact hq9.both (by with_reducible assumption)) (by ke_room) ?_; k_whole))))
local macro_rules | `(tactic| walk_at "call ref") => `(tactic| (k_here; k_dflt (first
  | (refine' net_pos (by k_asm) (by k_asm) (by k_asm) (by k_asm) (by with_reducible assumption) (by k_asm) (by k_room) (by ktr_units) (by assumption) (by assumption) (by assumption) (by assumption) ?_; k_whole; intros)
  | ((fail_if_success (with_reducible rename Enough _ _ _ => hq)); refine fam_final (by with_reducible assumption) (by with_reducible assumption) (by with_reducible assumption) (by with_reducible assumption) (by with_reducible assumption) (by with_reducible assumption) (by with_reducible assumption) (by with_reducible assumption) (by with_reducible assumption) (by with_reducible assumption) (by with_reducible assumption) (by with_reducible assumption) (by with_reducible assumption) ?_; intros)
  | (refine' blocks_call (by k_asm) (by k_asm) (by k_asm) (by k_asm) (by k_asm) (by rfl) (by k_room) (by ktr_units) _ _ _ _ _ _ _ 200 (by rename Fam _ _ _ _ => hq; exact hq.kd) (by first | assumption | (split <;> omega)) (by rename Fam _ _ _ _ => hq; have hq9 := hq.le; refine Int.le_trans (b := 340282366920938463463374607431768211455) ?_ (by decide); first | omega | (split <;> omega)) (by decide) (by with_reducible assumption) ?_; k_whole; intros)
  | (refine' told_call (by k_asm) (by k_asm) (by k_asm) (by k_asm) (by with_reducible assumption) (by k_asm) (by k_mem) (by refine NetAll.mono ?_ (by with_reducible assumption); kqd_sub) (by omega) (by k_room) (by ktr_units) ?_; k_whole; intros)
  | (refine' part_call (by k_asm) (by k_asm) (by k_asm) (by k_asm) (by with_reducible assumption) (by k_asm) (by k_mem) (by k_mem) (by k_mem) (by k_mem) (by assumption) (by assumption) (by assumption) (by assumption) (by assumption) (by assumption) (by assumption) (by assumption) (by k_room) (by ktr_units) ?_; k_whole; intro; intros)
  | (refine' excl_call (by k_asm) (by k_asm) (by k_asm) (by k_asm) (by with_reducible assumption) (by k_asm) (by k_mem) (by k_mem) (by k_mem) (by k_mem) (by assumption) (by assumption) (by assumption) (by assumption) (by assumption) (by assumption) (by assumption) (by assumption) (by k_room) (by ktr_units) ?_; k_whole; intros))))
theorem t2 (top : ∀ w, Behind prog0 view0 loose0 (XL view0 lv0) (kmHook K0 as0 as0_K [1352]).says w) : PySem.Challenge.rw_az0025_01.Holds := hd3 top (by rfl) rfl (by
  w_on
  w_strict (k_go0; (all_goals try k_fold); k_steps))
end
end Mine
end
section
open PySem PySem.W PyProof.Rows
namespace Mine
theorem top_all (w : World) : Behind prog0 view0 loose0 (XL view0 lv0) (kmHook K0 as0 as0_K [1352]).says w :=
  behind_of (fun g os => K0_says w g os) (fun os => by
    obtain ⟨gg, h9⟩ := Z9 w (fun _ => default) os
    exact ⟨_, gg, chain h9 (Z31 w gg os) (Z32 w gg os) (Z33 w gg os) (Z56 w gg os) (Z57 w gg os) (Z58 w gg os)⟩)
end Mine
end
theorem PySem.Challenge.cw_az0025_01_holds : PySem.Challenge.rw_az0025_01.Holds := by
  exact Mine.t2 Mine.top_all
