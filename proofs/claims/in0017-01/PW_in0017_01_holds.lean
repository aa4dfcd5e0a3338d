import PyProof.Rows.All
import Wide.All
import OpenK.AllK
import Wide.FinOn
import PyProof.SliceStr2
import KE.KEqSeq
import PySem.Challenge.RW_in0017_01
set_option Elab.async false
set_option maxRecDepth 100000
set_option maxHeartbeats 0
set_option linter.unusedVariables false
set_option linter.unusedSimpArgs false
section
open PySem PySem.W PyProof.Rows
namespace Mine
section
noncomputable abbrev pw : Program := PySem.Challenge.pw_in0017_01
noncomputable def topS (i : Nat) : Stmt := (pw.main.body[i]?).getD (.Pass default)
noncomputable def clsS (i j : Nat) : Stmt := match topS i with
 | .ClassDef _ _ _ b _ _ _ _ _ _ _ => (b[j]?).getD (.Pass default)
 | _ => .Pass default
noncomputable def fnD (st : Stmt) (qual : Str) (globals : Addr) (closure : List (Str × Addr)) (dV kV doc pm : Value) (ann : Option Addr) (code ct : Value) (bl : Addr) : FuncData := match st with
 | .FunctionDef n a b _ _ _ sc _ _ _ => { name := n, qualname := qual, params := a, body := .stmts b, scope := sc, globals := globals, closure := closure, defaults := dV, kwdefaults := kV, doc := doc, pyModule := pm, annotations := ann, code := code, closureTuple := ct, builtins := bl }
 | _ => default
noncomputable def clD (name : Str) (bases mro : List Value) (ns : Addr) (qual : Str) (hasDict : Bool) (slots : List Str) (subs : List Value) : ClassData := { name := name, bases := bases, mro := mro, ns := ns, qualname := qual, hasDict := hasDict, slotNames := slots, subclasses := subs }
noncomputable def docB : List Stmt → Str
 | .Expr (.Constant (.str x) _ _) _ :: _ => x
 | _ => Str.empty
noncomputable def sc (l : List String) : Str := ⟨⟨l.flatMap fun s => (Str.ofString s).cps.toList⟩⟩
noncomputable def doc4 : Str := "\nOften it is desirable to prevent the mutation of\na default dict after its initial construction, such\nas to prevent mutation during iteration.\n\n>>> dd = FreezableDefaultDict(list)\n>>> dd[0].append('1')\n>>> dd.freeze()\n>>> dd[1]\n[]\n>>> len(dd)\n1\n"
noncomputable def doc5 : Str := "Pair(name, value)"
noncomputable def docF (i j : Nat) : Str := match clsS i j with
 | .FunctionDef _ _ b _ _ _ _ _ _ _ => docB b
 | _ => Str.empty
noncomputable def en (P : Params) (k : Str) (t : Tok) (v : Value) : DictEntry := ⟨PyData.keyHash P k, .str k t, v⟩
noncomputable abbrev co (n : Str) (t : Tok) (q : Str) (t1 t2 l a k r : Nat) (b : Bool) (z r2 : Nat) (x y v : Value) (l1 t3 : Nat) : Obj := ⟨.type "code", none, .fields #[.str n t, .str q t1, .str "/claim/cut.py" t2, .int l 0, .int a 0, .int 0 0, .int 0 0, .int k 0, .ref r, .bool b, .int z 0, .ref r2, .none, x, y, v, .int l1 0, .int l 0, .str "/claim/cut.py" t3], #[]⟩
noncomputable def es3 (P : Params) : List DictEntry := [en P "__doc__" 166 (.none), en P "__package__" 167 (.none), en P "__loader__" 168 (.builtin "__main__.__loader__#opaque"), en P "__spec__" 169 (.none), en P "__annotations__" 170 (.ref 6), en P "__builtins__" 171 (.ref 4), en P "__file__" 173 (.str "/claim/cut.py" 172), en P "__cached__" 174 (.none), en P "defaultdict" 272 (.type "collections.defaultdict"), en P "_wall" 285 (.ref 39), en P "_tuplegetter" 344 (.ref 78), en P "FreezableDefaultDict" 387 (.ref 108), en P "Pair" 502 (.ref 203), en P "ENDMARKER" 544 (.int 0 543), en P "LPAR" 546 (.int 7 545), en P "RPAR" 548 (.int 8 547), en P "LSQB" 550 (.int 9 549), en P "RSQB" 552 (.int 10 551), en P "COLON" 554 (.int 11 553), en P "COMMA" 556 (.int 12 555), en P "SEMI" 558 (.int 13 557), en P "PLUS" 560 (.int 14 559), en P "MINUS" 562 (.int 15 561), en P "STAR" 564 (.int 16 563), en P "SLASH" 566 (.int 17 565), en P "VBAR" 568 (.int 18 567), en P "AMPER" 570 (.int 19 569), en P "LESS" 572 (.int 20 571), en P "GREATER" 574 (.int 21 573), en P "EQUAL" 576 (.int 22 575), en P "DOT" 578 (.int 23 577), en P "PERCENT" 580 (.int 24 579), en P "LBRACE" 582 (.int 25 581), en P "RBRACE" 584 (.int 26 583), en P "EQEQUAL" 586 (.int 27 585), en P "NOTEQUAL" 588 (.int 28 587), en P "LESSEQUAL" 590 (.int 29 589), en P "GREATEREQUAL" 592 (.int 30 591), en P "TILDE" 594 (.int 31 593), en P "CIRCUMFLEX" 596 (.int 32 595), en P "LEFTSHIFT" 598 (.int 33 597), en P "RIGHTSHIFT" 600 (.int 34 599), en P "DOUBLESTAR" 602 (.int 35 601), en P "PLUSEQUAL" 604 (.int 36 603), en P "MINEQUAL" 606 (.int 37 605), en P "STAREQUAL" 608 (.int 38 607), en P "SLASHEQUAL" 610 (.int 39 609), en P "PERCENTEQUAL" 612 (.int 40 611), en P "AMPEREQUAL" 614 (.int 41 613), en P "VBAREQUAL" 616 (.int 42 615), en P "CIRCUMFLEXEQUAL" 618 (.int 43 617), en P "LEFTSHIFTEQUAL" 620 (.int 44 619), en P "RIGHTSHIFTEQUAL" 622 (.int 45 621), en P "DOUBLESTAREQUAL" 624 (.int 46 623), en P "DOUBLESLASH" 626 (.int 47 625), en P "DOUBLESLASHEQUAL" 628 (.int 48 627), en P "AT" 630 (.int 49 629), en P "ATEQUAL" 632 (.int 50 631), en P "RARROW" 634 (.int 51 633), en P "ELLIPSIS" 636 (.int 52 635), en P "COLONEQUAL" 638 (.int 53 637), en P "EXCLAMATION" 640 (.int 54 639), en P "NT_OFFSET" 642 (.int 256 641), en P "EXACT_TOKEN_TYPES" 739 (.ref 207), en P "ISTERMINAL" 746 (.ref 216), en P "ISNONTERMINAL" 753 (.ref 223), en P "ISEOF" 760 (.ref 230), en P "_law_node" 768 (.ref 237), en P "_law_walk" 777 (.ref 244), en P "_law_shut" 785 (.ref 251), en P "_law_listed" 791 (.ref 256), en P "_law_longest" 802 (.ref 263), en P "_law_run" 823 (.ref 270), en P "_law_gone" 833 (.ref 277), en P "_law_drawn" 839 (.ref 282), en P "_law_best" 845 (.ref 287), en P "_law_plain" 851 (.ref 292), en P "_law_deeds" 857 (.ref 297), en P "law" 863 (.ref 302)]
noncomputable def o0a (P : Params) : Obj := ⟨.type "dict", none, .dict #[en P "__name__" 1 (.str "builtins" 160), en P "__doc__" 2 (.builtin "builtins.__doc__:str#opaque"), en P "__package__" 3 (.builtin "builtins.__package__:str#opaque"), en P "__loader__" 4 (.builtin "builtins.__loader__:shared#opaque"), en P "__spec__" 5 (.builtin "builtins.__spec__#opaque"), en P "__build_class__" 6 (.builtin "__build_class__"), en P "__import__" 7 (.builtin "__import__"), en P "abs" 8 (.builtin "abs"), en P "all" 9 (.builtin "all"), en P "any" 10 (.builtin "any"), en P "ascii" 11 (.builtin "ascii"), en P "bin" 12 (.builtin "bin"), en P "breakpoint" 13 (.builtin "breakpoint"), en P "callable" 14 (.builtin "callable"), en P "chr" 15 (.builtin "chr"), en P "compile" 16 (.builtin "compile"), en P "delattr" 17 (.builtin "delattr"), en P "dir" 18 (.builtin "dir"), en P "divmod" 19 (.builtin "divmod"), en P "eval" 20 (.builtin "eval"), en P "exec" 21 (.builtin "exec"), en P "format" 22 (.builtin "format"), en P "getattr" 23 (.builtin "getattr"), en P "globals" 24 (.builtin "globals"), en P "hasattr" 25 (.builtin "hasattr"), en P "hash" 26 (.builtin "hash"), en P "hex" 27 (.builtin "hex"), en P "id" 28 (.builtin "id"), en P "input" 29 (.builtin "input"), en P "isinstance" 30 (.builtin "isinstance"), en P "issubclass" 31 (.builtin "issubclass"), en P "iter" 32 (.builtin "iter"), en P "aiter" 33 (.builtin "aiter"), en P "len" 34 (.builtin "len"), en P "locals" 35 (.builtin "locals"), en P "max" 36 (.builtin "max"), en P "min" 37 (.builtin "min"), en P "next" 38 (.builtin "next"), en P "anext" 39 (.builtin "anext"), en P "oct" 40 (.builtin "oct"), en P "ord" 41 (.builtin "ord"), en P "pow" 42 (.builtin "pow"), en P "print" 43 (.builtin "print"), en P "repr" 44 (.builtin "repr"), en P "round" 45 (.builtin "round"), en P "setattr" 46 (.builtin "setattr"), en P "sorted" 47 (.builtin "sorted"), en P "sum" 48 (.builtin "sum"), en P "vars" 49 (.builtin "vars"), en P "None" 50 (.none), en P "Ellipsis" 51 (.ellipsis), en P "NotImplemented" 52 (.notImplemented), en P "False" 53 (.bool false), en P "True" 54 (.bool true), en P "bool" 55 (.type "bool"), en P "memoryview" 56 (.type "memoryview"), en P "bytearray" 57 (.type "bytearray"), en P "bytes" 58 (.type "bytes"), en P "classmethod" 59 (.type "classmethod"), en P "complex" 60 (.type "complex"), en P "dict" 61 (.type "dict"), en P "enumerate" 62 (.type "enumerate"), en P "filter" 63 (.type "filter"), en P "float" 64 (.type "float"), en P "frozenset" 65 (.type "frozenset"), en P "property" 66 (.type "property"), en P "int" 67 (.type "int"), en P "list" 68 (.type "list"), en P "map" 69 (.type "map"), en P "object" 70 (.type "object"), en P "range" 71 (.type "range"), en P "reversed" 72 (.type "reversed"), en P "set" 73 (.type "set"), en P "slice" 74 (.type "slice"), en P "staticmethod" 75 (.type "staticmethod"), en P "str" 76 (.type "str"), en P "super" 77 (.type "super"), en P "tuple" 78 (.type "tuple"), en P "type" 79 (.type "type"), en P "zip" 80 (.type "zip"), en P "__debug__" 81 (.bool true), en P "BaseException" 82 (.type "BaseException"), en P "BaseExceptionGroup" 83 (.type "BaseExceptionGroup"), en P "Exception" 84 (.type "Exception"), en P "GeneratorExit" 85 (.type "GeneratorExit"), en P "KeyboardInterrupt" 86 (.type "KeyboardInterrupt"), en P "SystemExit" 87 (.type "SystemExit"), en P "ArithmeticError" 88 (.type "ArithmeticError"), en P "AssertionError" 89 (.type "AssertionError"), en P "AttributeError" 90 (.type "AttributeError"), en P "BufferError" 91 (.type "BufferError"), en P "EOFError" 92 (.type "EOFError"), en P "ImportError" 93 (.type "ImportError"), en P "LookupError" 94 (.type "LookupError"), en P "MemoryError" 95 (.type "MemoryError"), en P "NameError" 96 (.type "NameError"), en P "OSError" 97 (.type "OSError"), en P "ReferenceError" 98 (.type "ReferenceError"), en P "RuntimeError" 99 (.type "RuntimeError"), en P "StopAsyncIteration" 100 (.type "StopAsyncIteration"), en P "StopIteration" 101 (.type "StopIteration"), en P "SyntaxError" 102 (.type "SyntaxError"), en P "SystemError" 103 (.type "SystemError"), en P "TypeError" 104 (.type "TypeError"), en P "ValueError" 105 (.type "ValueError"), en P "Warning" 106 (.type "Warning"), en P "FloatingPointError" 107 (.type "FloatingPointError"), en P "OverflowError" 108 (.type "OverflowError"), en P "ZeroDivisionError" 109 (.type "ZeroDivisionError"), en P "BytesWarning" 110 (.type "BytesWarning"), en P "DeprecationWarning" 111 (.type "DeprecationWarning"), en P "EncodingWarning" 112 (.type "EncodingWarning"), en P "FutureWarning" 113 (.type "FutureWarning"), en P "ImportWarning" 114 (.type "ImportWarning"), en P "PendingDeprecationWarning" 115 (.type "PendingDeprecationWarning"), en P "ResourceWarning" 116 (.type "ResourceWarning"), en P "RuntimeWarning" 117 (.type "RuntimeWarning"), en P "SyntaxWarning" 118 (.type "SyntaxWarning"), en P "UnicodeWarning" 119 (.type "UnicodeWarning"), en P "UserWarning" 120 (.type "UserWarning"), en P "BlockingIOError" 121 (.type "BlockingIOError"), en P "ChildProcessError" 122 (.type "ChildProcessError"), en P "ConnectionError" 123 (.type "ConnectionError"), en P "FileExistsError" 124 (.type "FileExistsError"), en P "FileNotFoundError" 125 (.type "FileNotFoundError"), en P "InterruptedError" 126 (.type "InterruptedError"), en P "IsADirectoryError" 127 (.type "IsADirectoryError"), en P "NotADirectoryError" 128 (.type "NotADirectoryError"), en P "PermissionError" 129 (.type "PermissionError"), en P "ProcessLookupError" 130 (.type "ProcessLookupError"), en P "TimeoutError" 131 (.type "TimeoutError"), en P "IndentationError" 132 (.type "IndentationError"), en P "_IncompleteInputError" 133 (.type "_IncompleteInputError"), en P "IndexError" 134 (.type "IndexError"), en P "KeyError" 135 (.type "KeyError"), en P "ModuleNotFoundError" 136 (.type "ModuleNotFoundError"), en P "NotImplementedError" 137 (.type "NotImplementedError"), en P "PythonFinalizationError" 138 (.type "PythonFinalizationError"), en P "RecursionError" 139 (.type "RecursionError"), en P "UnboundLocalError" 140 (.type "UnboundLocalError"), en P "UnicodeError" 141 (.type "UnicodeError"), en P "BrokenPipeError" 142 (.type "BrokenPipeError"), en P "ConnectionAbortedError" 143 (.type "ConnectionAbortedError"), en P "ConnectionRefusedError" 144 (.type "ConnectionRefusedError"), en P "ConnectionResetError" 145 (.type "ConnectionResetError"), en P "TabError" 146 (.type "TabError"), en P "UnicodeDecodeError" 147 (.type "UnicodeDecodeError"), en P "UnicodeEncodeError" 148 (.type "UnicodeEncodeError"), en P "UnicodeTranslateError" 149 (.type "UnicodeTranslateError"), en P "ExceptionGroup" 150 (.type "ExceptionGroup"), en P "EnvironmentError" 151 (.type "OSError"), en P "IOError" 152 (.type "OSError"), en P "open" 153 (.builtin "open"), en P "quit" 154 (.builtin "builtins.quit#opaque"), en P "exit" 155 (.builtin "builtins.exit#opaque"), en P "copyright" 156 (.builtin "builtins.copyright#opaque"), en P "credits" 157 (.builtin "builtins.credits#opaque"), en P "license" 158 (.builtin "builtins.license#opaque"), en P "help" 159 (.builtin "builtins.help#opaque")] 159, #[]⟩
noncomputable def o1a (P : Params) : Obj := ⟨.type "dict", none, .dict #[en P "builtins" 162 (.ref 4), en P "__main__" 163 (.ref 5), en P "_collections" 246 (.ref 13)] 3, #[]⟩
noncomputable def o2a (P : Params) : Obj := ⟨.none, none, .dict #[en P "\x69mport.loaded._collections" 185 (.bool true), en P "class._frozen_importlib.BuiltinImporter" 187 (.ref 15), en P "watched.\x69mport" 208 (.ref 19), en P "class._frozen_importlib.ModuleSpec" 218 (.ref 23), en P "sys.modules.booked-epoch" 247 (.int 3 0), en P "sys.modules.landed._collections" 248 (.bool true), en P "\x69mport.later-laid._collections" 263 (.bool true), en P "watched.library" 265 (.ref 28), en P "watched.library-objects" 0 (.str "\x0d" 0), en P "watched.library-deep._collections" 266 (.str "\x04\x00\x00\x0c\x04\x00\x00\x0c\x04\x00\x00\x03\x04\x00\x00\x0c\x08\x04dict\x02" 0)] 10, #[]⟩
noncomputable def o3a (P : Params) : Obj := ⟨.type "dict", none, .dict (en P "__name__" 165 (.str "__main__" 164) :: (es3 P).take 9).toArray 10, #[]⟩
noncomputable def o4a (P : Params) : Obj := ⟨.type "module", some 0, .plain, #[]⟩
noncomputable def o5a (P : Params) : Obj := ⟨.type "module", some 3, .plain, #[]⟩
noncomputable def o6a (P : Params) : Obj := ⟨.type "dict", none, .dict #[] 0, #[]⟩
noncomputable def o7a (P : Params) : Obj := ⟨.type "tuple", none, .seq #[] 0, #[]⟩
noncomputable def o8a (P : Params) : Obj := ⟨.none, none, .fields #[], #[]⟩
noncomputable def o9a (P : Params) : Obj := co "<module>" 176 "<module>" 177 178 1 0 0 7 false 175 8 .none .none .none 179 180
noncomputable def o10a (P : Params) : Obj := ⟨.type "frame", none, .plain, #[(some (.ref 9)), (some (.ref 3)), (some (.ref 3)), none, (some (.str "__main__" 164)), none, (some (.ref 0))]⟩
noncomputable def o11a (P : Params) : Obj := ⟨.type "tuple", none, .seq #[.str "defaultdict" 182] 0, #[]⟩
noncomputable def o12a (P : Params) : Obj := ⟨.type "dict", none, .dict #[en P "__name__" 250 (.str "_collections" 249), en P "__doc__" 251 (.builtin "off-the-table:_collections.__doc__:shared#opaque"), en P "__package__" 253 (.str "" 252), en P "__loader__" 254 (.builtin "off-the-table:_collections.__loader__:shared#opaque"), en P "__spec__" 255 (.builtin "off-the-table:_collections.__spec__:shared#opaque"), en P "_count_elements" 256 (.builtin "_collections._count_elements"), en P "deque" 257 (.type "collections.deque"), en P "defaultdict" 258 (.type "collections.defaultdict"), en P "_deque_iterator" 259 (.builtin "off-the-table:_collections._deque_iterator:shared#opaque"), en P "_deque_reverse_iterator" 260 (.builtin "off-the-table:_collections._deque_reverse_iterator:shared#opaque"), en P "_tuplegetter" 261 (.type "collections._tuplegetter"), en P "OrderedDict" 262 (.type "collections.OrderedDict")] 12, #[]⟩
noncomputable def o13a (P : Params) : Obj := ⟨.type "module", some 12, .plain, #[]⟩
noncomputable def o14a (P : Params) : Obj := ⟨.type "dict", none, .dict #[en P "__module__" 191 (.str "_frozen_importlib" 188), en P "__firstlineno__" 192 (.int 971 189), en P "__doc__" 193 (.builtin "_frozen_importlib.BuiltinImporter.__doc__:str#opaque"), en P "_ORIGIN" 194 (.str "built-in" 190), en P "find_spec" 195 (.builtin "_frozen_importlib.BuiltinImporter.find_spec#opaque"), en P "create_module" 196 (.builtin "_frozen_importlib.BuiltinImporter.create_module#opaque"), en P "exec_module" 197 (.builtin "_frozen_importlib.BuiltinImporter.exec_module#opaque"), en P "get_code" 198 (.builtin "_frozen_importlib.BuiltinImporter.get_code#opaque"), en P "get_source" 199 (.builtin "_frozen_importlib.BuiltinImporter.get_source#opaque"), en P "is_package" 200 (.builtin "_frozen_importlib.BuiltinImporter.is_package#opaque"), en P "load_module" 201 (.builtin "_frozen_importlib.BuiltinImporter.load_module#opaque"), en P "__static_attributes__" 202 (.ref 16), en P "__dict__" 204 (.ref 17), en P "__weakref__" 206 (.ref 18)] 14, #[]⟩
noncomputable def o15a (P : Params) : Obj := ⟨.type "type", none, .cls (clD "BuiltinImporter" [.type "object"] [.ref 15, .type "object"] 14 "BuiltinImporter" true [] []), #[]⟩
noncomputable def o16a (P : Params) : Obj := ⟨.type "tuple", none, .seq #[] 0, #[]⟩
noncomputable def o17a (P : Params) : Obj := ⟨.type "getset_descriptor", none, .fields #[.str "__dict__" 203, .ref 15, .builtin "function.__dict__", .builtin "function.__dict__#set"], #[]⟩
noncomputable def o18a (P : Params) : Obj := ⟨.type "getset_descriptor", none, .fields #[.str "__weakref__" 205, .ref 15, .builtin "ExceptionGroup.__weakref__", .none], #[]⟩
noncomputable def o19a (P : Params) : Obj := ⟨.none, none, .seq #[.int 14 0, .str (sc ["\x06¿\n__module__\x06¼\x11_frozen_importlib\x06À\x0f__firstlineno__\x04½\x00ϋ\x06","Á\x07__doc__\t4_frozen_importlib.BuiltinImporter.__doc__:str","#opaque\x06Â\x07_ORIGIN\x06¾\x08built-in\x06Ã\tfind_spec\t2_frozen_import","lib.BuiltinImporter.find_spec#opaque\x06Ä\x0dcreate_module\t6_f","rozen_importlib.BuiltinImporter.create_module#opaque\x06Å\x0be","xec_module\t4_frozen_importlib.BuiltinImporter.exec_modul","e#opaque\x06Æ\x08get_code\t1_frozen_importlib.BuiltinImporter.g","et_code#opaque\x06Ç\nget_source\t3_frozen_importlib.BuiltinIm","porter.get_source#opaque\x06È\nis_package\t3_frozen_importlib",".BuiltinImporter.is_package#opaque\x06É\x0bload_module\t4_froze","n_importlib.BuiltinImporter.load_module#opaque\x06Ê\x15__stati","c_attributes__\x04\x00\x00\x10\x06Ì\x08__dict__\x04\x00\x00\x11\x06Î\x0b__weakref__\x04\x00\x00\x12"]) 0, .bool true, .bool true, .str "" 207, .int 22 0, .str (sc ["\x06å\n__module__\x06Û\x11_frozen_importlib\x06æ\x0f__firstlineno__\x04Ü\x00Ȳ\x06","ç\x07__doc__\t/_frozen_importlib.ModuleSpec.__doc__:str#opaq","ue\x06è\x08__init__\t,_frozen_importlib.ModuleSpec.__init__#opa","que\x06é\x08__repr__\t,_frozen_importlib.ModuleSpec.__repr__#op","aque\x06ê\x06__eq__\t*_frozen_importlib.ModuleSpec.__eq__#opaqu","e\x06ë\x06cached\t*_frozen_importlib.ModuleSpec.cached#opaque\x06ì","\x06parent\t*_frozen_importlib.ModuleSpec.parent#opaque\x06í\x0cha","s_location\t0_frozen_importlib.ModuleSpec.has_location#op","aque\x06î\x15__static_attributes__\x04\x00\x00\x18\x06ð\x08__dict__\x04\x00\x00\x19\x06ò\x0b__weak","ref__\x04\x00\x00\x1a\x06ó\x08__hash__\x00"]) 0, .bool true, .bool true, .str "" 244] 1, #[]⟩
noncomputable def o20a (P : Params) : Obj := ⟨.type "list", none, .seq #[] 0, #[]⟩
noncomputable def o21a (P : Params) : Obj := ⟨.type "dict", none, .dict #[en P "name" 210 (.str "_collections" 209), en P "loader" 211 (.ref 15), en P "origin" 212 (.str "built-in" 186), en P "loader_state" 213 (.none), en P "submodule_search_locations" 214 (.none), en P "_uninitialized_submodules" 215 (.ref 20), en P "_set_fileattr" 216 (.bool false), en P "_cached" 217 (.none), en P "_initializing" 245 (.bool false)] 9, #[]⟩
noncomputable def o22a (P : Params) : Obj := ⟨.type "dict", none, .dict #[en P "__module__" 229 (.str "_frozen_importlib" 219), en P "__firstlineno__" 230 (.int 562 220), en P "__doc__" 231 (.builtin "_frozen_importlib.ModuleSpec.__doc__:str#opaque"), en P "__init__" 232 (.builtin "_frozen_importlib.ModuleSpec.__init__#opaque"), en P "__repr__" 233 (.builtin "_frozen_importlib.ModuleSpec.__repr__#opaque"), en P "__eq__" 234 (.builtin "_frozen_importlib.ModuleSpec.__eq__#opaque"), en P "cached" 235 (.builtin "_frozen_importlib.ModuleSpec.cached#opaque"), en P "parent" 236 (.builtin "_frozen_importlib.ModuleSpec.parent#opaque"), en P "has_location" 237 (.builtin "_frozen_importlib.ModuleSpec.has_location#opaque"), en P "__static_attributes__" 238 (.ref 24), en P "__dict__" 240 (.ref 25), en P "__weakref__" 242 (.ref 26), en P "__hash__" 243 (.none)] 13, #[]⟩
noncomputable def o23a (P : Params) : Obj := ⟨.type "type", none, .cls (clD "ModuleSpec" [.type "object"] [.ref 23, .type "object"] 22 "ModuleSpec" true [] []), #[]⟩
noncomputable def o24a (P : Params) : Obj := ⟨.type "tuple", none, .seq #[.str "_cached" 221, .str "_set_fileattr" 222, .str "_uninitialized_submodules" 223, .str "loader" 224, .str "loader_state" 225, .str "name" 226, .str "origin" 227, .str "submodule_search_locations" 228] 0, #[]⟩
noncomputable def o25a (P : Params) : Obj := ⟨.type "getset_descriptor", none, .fields #[.str "__dict__" 239, .ref 23, .builtin "function.__dict__", .builtin "function.__dict__#set"], #[]⟩
noncomputable def o26a (P : Params) : Obj := ⟨.type "getset_descriptor", none, .fields #[.str "__weakref__" 241, .ref 23, .builtin "ExceptionGroup.__weakref__", .none], #[]⟩
noncomputable def o27a (P : Params) : Obj := ⟨.ref 23, some 21, .plain, #[]⟩
noncomputable def o28a (P : Params) : Obj := ⟨.none, none, .seq #[.int 12 0, .str (sc ["\x06ú\x08__name__\x06ù\x0c_collections\x06û\x07__doc__\t\x1f_collections.__doc","__:str#opaque\x06ý\x0b__package__\x06ü\x00\x06þ\n__loader__\x04\x00\x00\x0f\x06ÿ\x08__spec","__\x04\x00\x00\x1b\x06Ā\x0f_count_elements\t\x1c_collections._count_elements\x06ā","\x05deque\x08\x11collections.deque\x06Ă\x0bdefaultdict\x08\x17collections.def","aultdict\x06ă\x0f_deque_iterator\x08\x1bcollections._deque_iterator\x06","Ą\x17_deque_reverse_iterator\x08#collections._deque_reverse_it","erator\x06ą\x0c_tuplegetter\x08\x18collections._tuplegetter\x06Ć\x0bOrdere","dDict\x08\x17collections.OrderedDict"]) 0, .bool true, .bool false, .str "_collections" 264] 0, #[]⟩
noncomputable abbrev y (o : Obj) (a b : BT) : BT := .node o a b
noncomputable abbrev z : BT := .nil
noncomputable def u1 (P : Params) : BT := (y (o11a P) (y (o19a P) z z) (y (o27a P) z z))
noncomputable def u2 (P : Params) : BT := (y (o9a P) (y (o17a P) z z) (y (o25a P) z z))
noncomputable def u3 (P : Params) : BT := (y (o12a P) (y (o20a P) z z) (y (o28a P) z z))
noncomputable def u4 (P : Params) : BT := (y (o10a P) (y (o18a P) z z) (y (o26a P) z z))
noncomputable def ta (P : Params) : BT := (y (o0a P) (y (o1a P) (y (o3a P) (y (o7a P) (y (o15a P) z z) (y (o23a P) z z)) (u1 P)) (y (o5a P) (u2 P) (y (o13a P) (y (o21a P) z z) z))) (y (o2a P) (y (o4a P) (y (o8a P) (y (o16a P) z z) (y (o24a P) z z)) (u3 P)) (y (o6a P) (u4 P) (y (o14a P) (y (o22a P) z z) z))))
noncomputable def o29b (P : Params) : Obj := ⟨.type "tuple", none, .seq #[] 0, #[]⟩
noncomputable def o30b (P : Params) : Obj := ⟨.none, none, .fields #[], #[]⟩
noncomputable def o31b (P : Params) : Obj := co "<module>" 274 "<module>" 275 276 1 0 0 29 false 273 30 .none .none .none 277 278
noncomputable def o32b (P : Params) : Obj := ⟨.type "frame", none, .plain, #[(some (.ref 31)), (some (.ref 3)), (some (.ref 3)), none, (some (.str "__main__" 164)), none, (some (.ref 0))]⟩
noncomputable def tb (P : Params) : BT := (y (o0a P) (y (o1a P) (y (o3a P) (y (o7a P) (y (o15a P) (y (o31b P) z z) z) (y (o23a P) z z)) (u1 P)) (y (o5a P) (u2 P) (y (o13a P) (y (o21a P) z z) (y (o29b P) z z)))) (y (o2a P) (y (o4a P) (y (o8a P) (y (o16a P) (y (o32b P) z z) z) (y (o24a P) z z)) (u3 P)) (y (o6a P) (u4 P) (y (o14a P) (y (o22a P) z z) (y (o30b P) z z)))))
noncomputable def o3p0 (P : Params) : Obj := ⟨.type "dict", none, .dict (en P "__name__" 165 (.str "cpy313.importlib.metadata._collections" 286) :: (es3 P).take 11).toArray 12, #[]⟩
noncomputable def o30p0 (P : Params) : Obj := ⟨.none, none, .fields #[.int 2 0, .int 0 0, .ref 38, .int 6 0, .int 0 0, .ref 45], #[]⟩
noncomputable def o33p0 (P : Params) : Obj := ⟨.type "tuple", none, .seq #[] 0, #[]⟩
noncomputable def o34p0 (P : Params) : Obj := ⟨.none, none, .fields #[], #[]⟩
noncomputable def o35p0 (P : Params) : Obj := ⟨.type "tuple", none, .seq #[.str "k" 282] 0, #[]⟩
noncomputable def o36p0 (P : Params) : Obj := ⟨.type "tuple", none, .seq #[] 0, #[]⟩
noncomputable def o37p0 (P : Params) : Obj := ⟨.none, none, .func (fnD (topS 1) "_wall" 0 [] (.none) (.none) (.none) (.none) none (.none) (.none) 0), #[]⟩
noncomputable def o38p0 (P : Params) : Obj := co "_wall" 279 "_wall" 280 281 2 1 3 33 true 273 34 (.ref 35) (.ref 36) (.ref 37) 283 284
noncomputable def o39p0 (P : Params) : Obj := ⟨.type "function", none, .func (fnD (topS 1) "_wall" 3 [] (.none) (.none) (.none) (.str "__main__" 164) none (.ref 38) (.none) 0), #[]⟩
noncomputable def o40p0 (P : Params) : Obj := ⟨.type "tuple", none, .seq #[] 0, #[]⟩
noncomputable def o41p0 (P : Params) : Obj := ⟨.type "builtin_function_or_method", none, .fields #[.builtin "type.__prepare__", .type "type"], #[]⟩
noncomputable def o42p0 (P : Params) : Obj := ⟨.type "dict", none, .dict #[en P "__module__" 295 (.str "cpy313.importlib.metadata._collections" 286), en P "__qualname__" 297 (.str "_tuplegetter" 296), en P "__firstlineno__" 299 (.int 6 298), en P "__init__" 308 (.ref 53), en P "__get__" 317 (.ref 61), en P "__set__" 326 (.ref 68), en P "__delete__" 334 (.ref 75), en P "__static_attributes__" 337 (.ref 76)] 8, #[]⟩
noncomputable def o43p0 (P : Params) : Obj := ⟨.type "tuple", none, .seq #[] 0, #[]⟩
noncomputable def o44p0 (P : Params) : Obj := ⟨.none, none, .fields #[.int 8 0, .int 4 0, .ref 52, .int 12 0, .int 4 0, .ref 60, .int 19 0, .int 4 0, .ref 67, .int 22 0, .int 4 0, .ref 74], #[]⟩
noncomputable def o45p0 (P : Params) : Obj := co "_tuplegetter" 290 "_tuplegetter" 291 292 6 0 0 43 false 273 44 .none .none .none 293 294
noncomputable def o46p0 (P : Params) : Obj := ⟨.type "frame", none, .plain, #[(some (.ref 45)), (some (.ref 3)), (some (.ref 42)), none, (some (.str "cpy313.importlib.metadata._collections" 286)), none, (some (.ref 0))]⟩
noncomputable def o47p0 (P : Params) : Obj := ⟨.type "tuple", none, .seq #[] 0, #[]⟩
noncomputable def o48p0 (P : Params) : Obj := ⟨.none, none, .fields #[], #[]⟩
noncomputable def o49p0 (P : Params) : Obj := ⟨.type "tuple", none, .seq #[.str "self" 303, .str "index" 304, .str "doc" 305] 0, #[]⟩
noncomputable def o50p0 (P : Params) : Obj := ⟨.type "tuple", none, .seq #[] 0, #[]⟩
noncomputable def o51p0 (P : Params) : Obj := ⟨.none, none, .func (fnD (clsS 3 0) "_tuplegetter.__init__" 0 [] (.none) (.none) (.none) (.none) none (.none) (.none) 0), #[]⟩
noncomputable def o52p0 (P : Params) : Obj := co "__init__" 300 "_tuplegetter.__init__" 301 302 8 3 3 47 true 273 48 (.ref 49) (.ref 50) (.ref 51) 306 307
noncomputable def o53p0 (P : Params) : Obj := ⟨.type "function", none, .func (fnD (clsS 3 0) "_tuplegetter.__init__" 3 [] (.none) (.none) (.none) (.str "cpy313.importlib.metadata._collections" 286) none (.ref 52) (.none) 0), #[]⟩
noncomputable def o54p0 (P : Params) : Obj := ⟨.type "tuple", none, .seq #[.none] 0, #[]⟩
noncomputable def o55p0 (P : Params) : Obj := ⟨.type "tuple", none, .seq #[] 0, #[]⟩
noncomputable def o56p0 (P : Params) : Obj := ⟨.none, none, .fields #[], #[]⟩
noncomputable def o57p0 (P : Params) : Obj := ⟨.type "tuple", none, .seq #[.str "self" 312, .str "obj" 313, .str "objtype" 314] 0, #[]⟩
noncomputable def o58p0 (P : Params) : Obj := ⟨.type "tuple", none, .seq #[] 0, #[]⟩
noncomputable def o59p0 (P : Params) : Obj := ⟨.none, none, .func (fnD (clsS 3 1) "_tuplegetter.__get__" 0 [] (.none) (.none) (.none) (.none) none (.none) (.none) 0), #[]⟩
noncomputable def o60p0 (P : Params) : Obj := co "__get__" 309 "_tuplegetter.__get__" 310 311 12 3 3 55 true 273 56 (.ref 57) (.ref 58) (.ref 59) 315 316
noncomputable def o61p0 (P : Params) : Obj := ⟨.type "function", none, .func (fnD (clsS 3 1) "_tuplegetter.__get__" 3 [] (.ref 54) (.none) (.none) (.str "cpy313.importlib.metadata._collections" 286) none (.ref 60) (.none) 0), #[]⟩
noncomputable def o62p0 (P : Params) : Obj := ⟨.type "tuple", none, .seq #[] 0, #[]⟩
noncomputable def o63p0 (P : Params) : Obj := ⟨.none, none, .fields #[], #[]⟩
noncomputable def o64p0 (P : Params) : Obj := ⟨.type "tuple", none, .seq #[.str "self" 321, .str "obj" 322, .str "value" 323] 0, #[]⟩
noncomputable def o65p0 (P : Params) : Obj := ⟨.type "tuple", none, .seq #[] 0, #[]⟩
noncomputable def o66p0 (P : Params) : Obj := ⟨.none, none, .func (fnD (clsS 3 2) "_tuplegetter.__set__" 0 [] (.none) (.none) (.none) (.none) none (.none) (.none) 0), #[]⟩
noncomputable def o67p0 (P : Params) : Obj := co "__set__" 318 "_tuplegetter.__set__" 319 320 19 3 3 62 true 273 63 (.ref 64) (.ref 65) (.ref 66) 324 325
noncomputable def o68p0 (P : Params) : Obj := ⟨.type "function", none, .func (fnD (clsS 3 2) "_tuplegetter.__set__" 3 [] (.none) (.none) (.none) (.str "cpy313.importlib.metadata._collections" 286) none (.ref 67) (.none) 0), #[]⟩
noncomputable def o69p0 (P : Params) : Obj := ⟨.type "tuple", none, .seq #[] 0, #[]⟩
noncomputable def o70p0 (P : Params) : Obj := ⟨.none, none, .fields #[], #[]⟩
noncomputable def o71p0 (P : Params) : Obj := ⟨.type "tuple", none, .seq #[.str "self" 330, .str "obj" 331] 0, #[]⟩
noncomputable def o72p0 (P : Params) : Obj := ⟨.type "tuple", none, .seq #[] 0, #[]⟩
noncomputable def o73p0 (P : Params) : Obj := ⟨.none, none, .func (fnD (clsS 3 3) "_tuplegetter.__delete__" 0 [] (.none) (.none) (.none) (.none) none (.none) (.none) 0), #[]⟩
noncomputable def o74p0 (P : Params) : Obj := co "__delete__" 327 "_tuplegetter.__delete__" 328 329 22 2 3 69 true 273 70 (.ref 71) (.ref 72) (.ref 73) 332 333
noncomputable def o75p0 (P : Params) : Obj := ⟨.type "function", none, .func (fnD (clsS 3 3) "_tuplegetter.__delete__" 3 [] (.none) (.none) (.none) (.str "cpy313.importlib.metadata._collections" 286) none (.ref 74) (.none) 0), #[]⟩
noncomputable def o76p0 (P : Params) : Obj := ⟨.type "tuple", none, .seq #[.str "__doc__" 335, .str "index" 336] 0, #[]⟩
noncomputable def o77p0 (P : Params) : Obj := ⟨.type "dict", none, .dict #[en P "__module__" 295 (.str "cpy313.importlib.metadata._collections" 286), en P "__firstlineno__" 299 (.int 6 298), en P "__init__" 308 (.ref 53), en P "__get__" 317 (.ref 61), en P "__set__" 326 (.ref 68), en P "__delete__" 334 (.ref 75), en P "__static_attributes__" 337 (.ref 76), en P "__dict__" 339 (.ref 79), en P "__weakref__" 341 (.ref 80), en P "__doc__" 342 (.none)] 4, #[]⟩
noncomputable def o78p0 (P : Params) : Obj := ⟨.type "type", none, .cls (clD "_tuplegetter" [.type "object"] [.ref 78, .type "object"] 77 "_tuplegetter" true [] []), #[none, none, (some (.str "_tuplegetter" 288)), (some (.str "_tuplegetter" 296)), (some (.builtin "object.__new__")), (some (.bool true))]⟩
noncomputable def o79p0 (P : Params) : Obj := ⟨.type "getset_descriptor", none, .fields #[.str "__dict__" 338, .ref 78, .builtin "function.__dict__", .builtin "function.__dict__#set"], #[]⟩
noncomputable def o80p0 (P : Params) : Obj := ⟨.type "getset_descriptor", none, .fields #[.str "__weakref__" 340, .ref 78, .builtin "ExceptionGroup.__weakref__", .none], #[]⟩
noncomputable def o81p0 (P : Params) : Obj := ⟨.type "super", none, .fields #[.ref 78, .ref 78, .ref 78], #[]⟩
noncomputable def o82p0 (P : Params) : Obj := ⟨.type "builtin_function_or_method", none, .fields #[.builtin "object.__init_subclass__", .ref 78], #[]⟩
noncomputable def u5 (P : Params) : BT := (y (o49p0 P) (y (o81p0 P) z z) z)
noncomputable def u6 (P : Params) : BT := (y (o50p0 P) (y (o82p0 P) z z) z)
noncomputable def tp0 (P : Params) : BT := (y (o0a P) (y (o1a P) (y (o3p0 P) (y (o7a P) (y (o15a P) (y (o31b P) (y (o63p0 P) z z) z) (y (o47p0 P) (y (o79p0 P) z z) z)) (y (o23a P) (y (o39p0 P) (y (o71p0 P) z z) z) (y (o55p0 P) z z))) (y (o11a P) (y (o19a P) (y (o35p0 P) (y (o67p0 P) z z) z) (y (o51p0 P) z z)) (y (o27a P) (y (o43p0 P) (y (o75p0 P) z z) z) (y (o59p0 P) z z)))) (y (o5a P) (y (o9a P) (y (o17a P) (y (o33p0 P) (y (o65p0 P) z z) z) (u5 P)) (y (o25a P) (y (o41p0 P) (y (o73p0 P) z z) z) (y (o57p0 P) z z))) (y (o13a P) (y (o21a P) (y (o37p0 P) (y (o69p0 P) z z) z) (y (o53p0 P) z z)) (y (o29b P) (y (o45p0 P) (y (o77p0 P) z z) z) (y (o61p0 P) z z))))) (y (o2a P) (y (o4a P) (y (o8a P) (y (o16a P) (y (o32b P) (y (o64p0 P) z z) z) (y (o48p0 P) (y (o80p0 P) z z) z)) (y (o24a P) (y (o40p0 P) (y (o72p0 P) z z) z) (y (o56p0 P) z z))) (y (o12a P) (y (o20a P) (y (o36p0 P) (y (o68p0 P) z z) z) (y (o52p0 P) z z)) (y (o28a P) (y (o44p0 P) (y (o76p0 P) z z) z) (y (o60p0 P) z z)))) (y (o6a P) (y (o10a P) (y (o18a P) (y (o34p0 P) (y (o66p0 P) z z) z) (u6 P)) (y (o26a P) (y (o42p0 P) (y (o74p0 P) z z) z) (y (o58p0 P) z z))) (y (o14a P) (y (o22a P) (y (o38p0 P) (y (o70p0 P) z z) z) (y (o54p0 P) z z)) (y (o30p0 P) (y (o46p0 P) (y (o78p0 P) z z) z) (y (o62p0 P) z z))))))
noncomputable def o2p1 (P : Params) : Obj := ⟨.none, none, .dict #[en P "\x69mport.loaded._collections" 185 (.bool true), en P "class._frozen_importlib.BuiltinImporter" 187 (.ref 15), en P "watched.\x69mport" 208 (.ref 19), en P "class._frozen_importlib.ModuleSpec" 218 (.ref 23), en P "sys.modules.booked-epoch" 247 (.int 3 0), en P "sys.modules.landed._collections" 248 (.bool true), en P "\x69mport.later-laid._collections" 263 (.bool true), en P "watched.library" 265 (.ref 28), en P "watched.library-objects" 0 (.str "\x0d" 0), en P "watched.library-deep._collections" 266 (.str "\x04\x00\x00\x0c\x04\x00\x00\x0c\x04\x00\x00\x03\x04\x00\x00\x0c\x08\x04dict\x02" 0), en P "type.__subclasses__.collections.defaultdict.0" 384 (.int 108 0), en P "type.__subclasses__.collections.defaultdict.n" 385 (.int 1 0)] 12, #[]⟩
noncomputable def o3p1 (P : Params) : Obj := ⟨.type "dict", none, .dict (en P "__name__" 165 (.str "cpy313.importlib.metadata._collections" 286) :: (es3 P).take 12).toArray 13, #[]⟩
noncomputable def o30p1 (P : Params) : Obj := ⟨.none, none, .fields #[.int 2 0, .int 0 0, .ref 38, .int 6 0, .int 0 0, .ref 45, .int 24 0, .int 0 0, .ref 89], #[]⟩
noncomputable def o83p1 (P : Params) : Obj := ⟨.type "tuple", none, .seq #[.type "collections.defaultdict"] 0, #[]⟩
noncomputable def o84p1 (P : Params) : Obj := ⟨.type "builtin_function_or_method", none, .fields #[.builtin "type.__prepare__", .type "type"], #[]⟩
noncomputable def o85p1 (P : Params) : Obj := ⟨.type "dict", none, .dict #[en P "__module__" 352 (.str "cpy313.importlib.metadata._collections" 286), en P "__qualname__" 354 (.str "FreezableDefaultDict" 353), en P "__firstlineno__" 356 (.int 24 355), en P "__doc__" 358 (.str doc4 357), en P "__missing__" 368 (.ref 98), en P "freeze" 376 (.ref 105), en P "__static_attributes__" 378 (.ref 106), en P "__classcell__" 379 (.ref 86)] 8, #[]⟩
noncomputable def o86p1 (P : Params) : Obj := ⟨.type "cell", none, .cell (some (.ref 108)), #[]⟩
noncomputable def o87p1 (P : Params) : Obj := ⟨.type "tuple", none, .seq #[] 0, #[]⟩
noncomputable def o88p1 (P : Params) : Obj := ⟨.none, none, .fields #[.int 39 0, .int 4 0, .ref 97, .int 42 0, .int 4 0, .ref 104], #[]⟩
noncomputable def o89p1 (P : Params) : Obj := co "FreezableDefaultDict" 347 "FreezableDefaultDict" 348 349 24 0 0 87 false 273 88 .none .none .none 350 351
noncomputable def o90p1 (P : Params) : Obj := ⟨.type "frame", none, .plain, #[(some (.ref 89)), (some (.ref 3)), (some (.ref 85)), none, (some (.str "cpy313.importlib.metadata._collections" 286)), none, (some (.ref 0))]⟩
noncomputable def o91p1 (P : Params) : Obj := ⟨.type "tuple", none, .seq #[.ref 86] 0, #[]⟩
noncomputable def o92p1 (P : Params) : Obj := ⟨.type "tuple", none, .seq #[.str "__class__" 363] 0, #[]⟩
noncomputable def o93p1 (P : Params) : Obj := ⟨.none, none, .fields #[], #[]⟩
noncomputable def o94p1 (P : Params) : Obj := ⟨.type "tuple", none, .seq #[.str "self" 364, .str "key" 365] 0, #[]⟩
noncomputable def o95p1 (P : Params) : Obj := ⟨.type "tuple", none, .seq #[] 0, #[]⟩
noncomputable def o96p1 (P : Params) : Obj := ⟨.none, none, .func (fnD (clsS 4 1) "FreezableDefaultDict.__missing__" 0 [] (.none) (.none) (.none) (.none) none (.none) (.none) 0), #[]⟩
noncomputable def o97p1 (P : Params) : Obj := co "__missing__" 360 "FreezableDefaultDict.__missing__" 361 362 39 2 3 92 true 273 93 (.ref 94) (.ref 95) (.ref 96) 366 367
noncomputable def o98p1 (P : Params) : Obj := ⟨.type "function", none, .func (fnD (clsS 4 1) "FreezableDefaultDict.__missing__" 3 [("__class__", 86)] (.none) (.none) (.none) (.str "cpy313.importlib.metadata._collections" 286) none (.ref 97) (.ref 91) 0), #[]⟩
noncomputable def o99p1 (P : Params) : Obj := ⟨.type "tuple", none, .seq #[] 0, #[]⟩
noncomputable def o100p1 (P : Params) : Obj := ⟨.none, none, .fields #[], #[]⟩
noncomputable def o101p1 (P : Params) : Obj := ⟨.type "tuple", none, .seq #[.str "self" 372] 0, #[]⟩
noncomputable def o102p1 (P : Params) : Obj := ⟨.type "tuple", none, .seq #[.str "self" 373] 0, #[]⟩
noncomputable def o103p1 (P : Params) : Obj := ⟨.none, none, .func (fnD (clsS 4 2) "FreezableDefaultDict.freeze" 0 [] (.none) (.none) (.none) (.none) none (.none) (.none) 0), #[]⟩
noncomputable def o104p1 (P : Params) : Obj := co "freeze" 369 "FreezableDefaultDict.freeze" 370 371 42 1 3 99 true 273 100 (.ref 101) (.ref 102) (.ref 103) 374 375
noncomputable def o105p1 (P : Params) : Obj := ⟨.type "function", none, .func (fnD (clsS 4 2) "FreezableDefaultDict.freeze" 3 [] (.none) (.none) (.none) (.str "cpy313.importlib.metadata._collections" 286) none (.ref 104) (.none) 0), #[]⟩
noncomputable def o106p1 (P : Params) : Obj := ⟨.type "tuple", none, .seq #[.str "_frozen" 377] 0, #[]⟩
noncomputable def o107p1 (P : Params) : Obj := ⟨.type "dict", none, .dict #[en P "__module__" 352 (.str "cpy313.importlib.metadata._collections" 286), en P "__firstlineno__" 356 (.int 24 355), en P "__doc__" 358 (.str doc4 357), en P "__missing__" 368 (.ref 98), en P "freeze" 376 (.ref 105), en P "__static_attributes__" 378 (.ref 106), en P "__dict__" 381 (.ref 109), en P "__weakref__" 383 (.ref 110)] 4, #[]⟩
noncomputable def o108p1 (P : Params) : Obj := ⟨.type "type", none, .cls (clD "FreezableDefaultDict" [.type "collections.defaultdict"] [.ref 108, .type "collections.defaultdict", .type "dict", .type "object"] 107 "FreezableDefaultDict" true [""] []), #[(some (.ref 83)), none, (some (.str "FreezableDefaultDict" 345)), (some (.str "FreezableDefaultDict" 353)), (some (.builtin "dict.__new__")), (some (.bool true))]⟩
noncomputable def o109p1 (P : Params) : Obj := ⟨.type "getset_descriptor", none, .fields #[.str "__dict__" 380, .ref 108, .builtin "function.__dict__", .builtin "function.__dict__#set"], #[]⟩
noncomputable def o110p1 (P : Params) : Obj := ⟨.type "getset_descriptor", none, .fields #[.str "__weakref__" 382, .ref 108, .builtin "ExceptionGroup.__weakref__", .none], #[]⟩
noncomputable def o111p1 (P : Params) : Obj := ⟨.type "super", none, .fields #[.ref 108, .ref 108, .ref 108], #[]⟩
noncomputable def o112p1 (P : Params) : Obj := ⟨.type "builtin_function_or_method", none, .fields #[.builtin "object.__init_subclass__", .ref 108], #[]⟩
noncomputable def tp1 (P : Params) : BT := (y (o0a P) (y (o1a P) (y (o3p1 P) (y (o7a P) (y (o15a P) (y (o31b P) (y (o63p0 P) z z) (y (o95p1 P) z z)) (y (o47p0 P) (y (o79p0 P) z z) (y (o111p1 P) z z))) (y (o23a P) (y (o39p0 P) (y (o71p0 P) z z) (y (o103p1 P) z z)) (y (o55p0 P) (y (o87p1 P) z z) z))) (y (o11a P) (y (o19a P) (y (o35p0 P) (y (o67p0 P) z z) (y (o99p1 P) z z)) (y (o51p0 P) (y (o83p1 P) z z) z)) (y (o27a P) (y (o43p0 P) (y (o75p0 P) z z) (y (o107p1 P) z z)) (y (o59p0 P) (y (o91p1 P) z z) z)))) (y (o5a P) (y (o9a P) (y (o17a P) (y (o33p0 P) (y (o65p0 P) z z) (y (o97p1 P) z z)) (u5 P)) (y (o25a P) (y (o41p0 P) (y (o73p0 P) z z) (y (o105p1 P) z z)) (y (o57p0 P) (y (o89p1 P) z z) z))) (y (o13a P) (y (o21a P) (y (o37p0 P) (y (o69p0 P) z z) (y (o101p1 P) z z)) (y (o53p0 P) (y (o85p1 P) z z) z)) (y (o29b P) (y (o45p0 P) (y (o77p0 P) z z) (y (o109p1 P) z z)) (y (o61p0 P) (y (o93p1 P) z z) z))))) (y (o2p1 P) (y (o4a P) (y (o8a P) (y (o16a P) (y (o32b P) (y (o64p0 P) z z) (y (o96p1 P) z z)) (y (o48p0 P) (y (o80p0 P) z z) (y (o112p1 P) z z))) (y (o24a P) (y (o40p0 P) (y (o72p0 P) z z) (y (o104p1 P) z z)) (y (o56p0 P) (y (o88p1 P) z z) z))) (y (o12a P) (y (o20a P) (y (o36p0 P) (y (o68p0 P) z z) (y (o100p1 P) z z)) (y (o52p0 P) (y (o84p1 P) z z) z)) (y (o28a P) (y (o44p0 P) (y (o76p0 P) z z) (y (o108p1 P) z z)) (y (o60p0 P) (y (o92p1 P) z z) z)))) (y (o6a P) (y (o10a P) (y (o18a P) (y (o34p0 P) (y (o66p0 P) z z) (y (o98p1 P) z z)) (u6 P)) (y (o26a P) (y (o42p0 P) (y (o74p0 P) z z) (y (o106p1 P) z z)) (y (o58p0 P) (y (o90p1 P) z z) z))) (y (o14a P) (y (o22a P) (y (o38p0 P) (y (o70p0 P) z z) (y (o102p1 P) z z)) (y (o54p0 P) (y (o86p1 P) z z) z)) (y (o30p1 P) (y (o46p0 P) (y (o78p0 P) z z) (y (o110p1 P) z z)) (y (o62p0 P) (y (o94p1 P) z z) z))))))
noncomputable def o3p2 (P : Params) : Obj := ⟨.type "dict", none, .dict #[en P "__name__" 165 (.str "cpy313.importlib.metadata._collections" 286), en P "__doc__" 166 (.none), en P "__package__" 167 (.none), en P "__loader__" 168 (.builtin "__main__.__loader__#opaque"), en P "__spec__" 169 (.none), en P "__annotations__" 170 (.ref 6), en P "__builtins__" 171 (.ref 4), en P "__file__" 173 (.str "/claim/cut.py" 172), en P "__cached__" 174 (.none), en P "defaultdict" 272 (.type "collections.defaultdict"), en P "_wall" 285 (.ref 39), en P "_tuplegetter" 344 (.ref 78), en P "FreezableDefaultDict" 387 (.ref 108), en P "Pair" 502 (.ref 180)] 14, #[]⟩
noncomputable def o30p2 (P : Params) : Obj := ⟨.none, none, .fields #[.int 2 0, .int 0 0, .ref 38, .int 6 0, .int 0 0, .ref 45, .int 24 0, .int 0 0, .ref 89, .int 44 0, .int 0 0, .ref 119], #[]⟩
noncomputable def o113p2 (P : Params) : Obj := ⟨.type "tuple", none, .seq #[.type "tuple"] 0, #[]⟩
noncomputable def o114p2 (P : Params) : Obj := ⟨.type "builtin_function_or_method", none, .fields #[.builtin "type.__prepare__", .type "type"], #[]⟩
noncomputable def o115p2 (P : Params) : Obj := ⟨.type "dict", none, .dict #[en P "__module__" 395 (.str "cpy313.importlib.metadata._collections" 286), en P "__qualname__" 397 (.str "Pair" 396), en P "__firstlineno__" 399 (.int 44 398), en P "__doc__" 401 (.str doc5 400), en P "__slots__" 403 (.ref 121), en P "_fields" 406 (.ref 122), en P "_field_defaults" 407 (.ref 123), en P "__new__" 417 (.ref 130), en P "_make" 439 (.ref 139), en P "_replace" 450 (.ref 148), en P "__replace__" 451 (.ref 148), en P "__repr__" 459 (.ref 155), en P "_asdict" 466 (.ref 162), en P "__getnewargs__" 474 (.ref 169), en P "__match_args__" 477 (.ref 170), en P "name" 487 (.ref 172), en P "value" 497 (.ref 175), en P "__static_attributes__" 498 (.ref 177), en P "__classcell__" 499 (.ref 116)] 19, #[]⟩
noncomputable def o116p2 (P : Params) : Obj := ⟨.type "cell", none, .cell (some (.ref 180)), #[]⟩
noncomputable def o117p2 (P : Params) : Obj := ⟨.type "tuple", none, .seq #[] 0, #[]⟩
noncomputable def o118p2 (P : Params) : Obj := ⟨.none, none, .fields #[.int 50 0, .int 4 0, .ref 129, .int 55 0, .int 4 0, .ref 136, .int 62 0, .int 4 0, .ref 147, .int 73 0, .int 4 0, .ref 154, .int 77 0, .int 4 0, .ref 161, .int 80 0, .int 4 0, .ref 168], #[]⟩
noncomputable def o119p2 (P : Params) : Obj := co "Pair" 390 "Pair" 391 392 44 0 0 117 false 273 118 .none .none .none 393 394
noncomputable def o120p2 (P : Params) : Obj := ⟨.type "frame", none, .plain, #[(some (.ref 119)), (some (.ref 3)), (some (.ref 115)), none, (some (.str "cpy313.importlib.metadata._collections" 286)), none, (some (.ref 0))]⟩
noncomputable def o121p2 (P : Params) : Obj := ⟨.type "tuple", none, .seq #[] 0, #[]⟩
noncomputable def o122p2 (P : Params) : Obj := ⟨.type "tuple", none, .seq #[.str "name" 404, .str "value" 405] 0, #[]⟩
noncomputable def o123p2 (P : Params) : Obj := ⟨.type "dict", none, .dict #[] 0, #[]⟩
noncomputable def o124p2 (P : Params) : Obj := ⟨.type "tuple", none, .seq #[] 0, #[]⟩
noncomputable def o125p2 (P : Params) : Obj := ⟨.none, none, .fields #[], #[]⟩
noncomputable def o126p2 (P : Params) : Obj := ⟨.type "tuple", none, .seq #[.str "_cls" 411, .str "name" 412, .str "value" 413] 0, #[]⟩
noncomputable def o127p2 (P : Params) : Obj := ⟨.type "tuple", none, .seq #[] 0, #[]⟩
noncomputable def o128p2 (P : Params) : Obj := ⟨.none, none, .func (fnD (clsS 5 4) "Pair.__new__" 0 [] (.none) (.none) (.none) (.none) none (.none) (.none) 0), #[]⟩
noncomputable def o129p2 (P : Params) : Obj := co "__new__" 408 "Pair.__new__" 409 410 50 3 3 124 true 273 125 (.ref 126) (.ref 127) (.ref 128) 414 415
noncomputable def o130p2 (P : Params) : Obj := ⟨.type "function", none, .func (fnD (clsS 5 4) "Pair.__new__" 3 [] (.none) (.none) (.str (docF 5 4) 416) (.str "cpy313.importlib.metadata._collections" 286) none (.ref 129) (.none) 0), #[]⟩
noncomputable def o131p2 (P : Params) : Obj := ⟨.type "tuple", none, .seq #[] 0, #[]⟩
noncomputable def o132p2 (P : Params) : Obj := ⟨.none, none, .fields #[], #[]⟩
noncomputable def o133p2 (P : Params) : Obj := ⟨.type "tuple", none, .seq #[.str "cls" 421, .str "iterable" 422, .str "result" 423] 0, #[]⟩
noncomputable def o134p2 (P : Params) : Obj := ⟨.type "tuple", none, .seq #[] 0, #[]⟩
noncomputable def o135p2 (P : Params) : Obj := ⟨.none, none, .func (fnD (clsS 5 5) "Pair._make" 0 [] (.none) (.none) (.none) (.none) none (.none) (.none) 0), #[]⟩
noncomputable def o136p2 (P : Params) : Obj := co "_make" 418 "Pair._make" 419 420 54 2 3 131 true 273 132 (.ref 133) (.ref 134) (.ref 135) 424 425
noncomputable def o137p2 (P : Params) : Obj := ⟨.type "function", none, .func (fnD (clsS 5 5) "Pair._make" 3 [] (.none) (.none) (.str (docF 5 5) 426) (.str "cpy313.importlib.metadata._collections" 286) (some 140) (.ref 136) (.none) 0), #[]⟩
noncomputable def o138p2 (P : Params) : Obj := ⟨.type "dict", none, .dict #[en P "__module__" 428 (.str "cpy313.importlib.metadata._collections" 286), en P "__name__" 431 (.str "_make" 430), en P "__qualname__" 434 (.str "Pair._make" 433), en P "__doc__" 436 (.str (docF 5 5) 426), en P "__annotations__" 438 (.ref 140)] 5, #[]⟩
noncomputable def o139p2 (P : Params) : Obj := ⟨.type "classmethod", some 138, .fields #[.ref 137, .bool false], #[]⟩
noncomputable def o140p2 (P : Params) : Obj := ⟨.type "dict", none, .dict #[] 0, #[]⟩
noncomputable def o141p2 (P : Params) : Obj := ⟨.type "tuple", none, .seq #[.ref 116] 0, #[]⟩
noncomputable def o142p2 (P : Params) : Obj := ⟨.type "tuple", none, .seq #[.str "__class__" 443] 0, #[]⟩
noncomputable def o143p2 (P : Params) : Obj := ⟨.none, none, .fields #[], #[]⟩
noncomputable def o144p2 (P : Params) : Obj := ⟨.type "tuple", none, .seq #[.str "self" 444, .str "kwds" 445, .str "result" 446] 0, #[]⟩
noncomputable def o145p2 (P : Params) : Obj := ⟨.type "tuple", none, .seq #[] 0, #[]⟩
noncomputable def o146p2 (P : Params) : Obj := ⟨.none, none, .func (fnD (clsS 5 6) "Pair._replace" 0 [] (.none) (.none) (.none) (.none) none (.none) (.none) 0), #[]⟩
noncomputable def o147p2 (P : Params) : Obj := ⟨.type "code", none, .fields #[.str "_replace" 440, .str "Pair._replace" 441, .str "/claim/cut.py" 442, .int 62 0, .int 1 0, .int 1 0, .int 0 0, .int 11 0, .ref 142, .bool true, .int 273 0, .ref 143, .none, .ref 144, .ref 145, .ref 146, .int 447 0, .int 62 0, .str "/claim/cut.py" 448], #[]⟩
noncomputable def o148p2 (P : Params) : Obj := ⟨.type "function", none, .func (fnD (clsS 5 6) "Pair._replace" 3 [("__class__", 116)] (.none) (.none) (.str (docF 5 6) 449) (.str "cpy313.importlib.metadata._collections" 286) none (.ref 147) (.ref 141) 0), #[]⟩
noncomputable def o149p2 (P : Params) : Obj := ⟨.type "tuple", none, .seq #[] 0, #[]⟩
noncomputable def o150p2 (P : Params) : Obj := ⟨.none, none, .fields #[], #[]⟩
noncomputable def o151p2 (P : Params) : Obj := ⟨.type "tuple", none, .seq #[.str "self" 455] 0, #[]⟩
noncomputable def o152p2 (P : Params) : Obj := ⟨.type "tuple", none, .seq #[] 0, #[]⟩
noncomputable def o153p2 (P : Params) : Obj := ⟨.none, none, .func (fnD (clsS 5 8) "Pair.__repr__" 0 [] (.none) (.none) (.none) (.none) none (.none) (.none) 0), #[]⟩
noncomputable def o154p2 (P : Params) : Obj := co "__repr__" 452 "Pair.__repr__" 453 454 73 1 3 149 true 273 150 (.ref 151) (.ref 152) (.ref 153) 456 457
noncomputable def o155p2 (P : Params) : Obj := ⟨.type "function", none, .func (fnD (clsS 5 8) "Pair.__repr__" 3 [] (.none) (.none) (.str (docF 5 8) 458) (.str "cpy313.importlib.metadata._collections" 286) none (.ref 154) (.none) 0), #[]⟩
noncomputable def o156p2 (P : Params) : Obj := ⟨.type "tuple", none, .seq #[] 0, #[]⟩
noncomputable def o157p2 (P : Params) : Obj := ⟨.none, none, .fields #[], #[]⟩
noncomputable def o158p2 (P : Params) : Obj := ⟨.type "tuple", none, .seq #[.str "self" 463] 0, #[]⟩
noncomputable def o159p2 (P : Params) : Obj := ⟨.type "tuple", none, .seq #[] 0, #[]⟩
noncomputable def o160p2 (P : Params) : Obj := ⟨.none, none, .func (fnD (clsS 5 9) "Pair._asdict" 0 [] (.none) (.none) (.none) (.none) none (.none) (.none) 0), #[]⟩
noncomputable def o161p2 (P : Params) : Obj := co "_asdict" 460 "Pair._asdict" 461 462 77 1 3 156 true 273 157 (.ref 158) (.ref 159) (.ref 160) 464 465
noncomputable def o162p2 (P : Params) : Obj := ⟨.type "function", none, .func (fnD (clsS 5 9) "Pair._asdict" 3 [] (.none) (.none) (.none) (.str "cpy313.importlib.metadata._collections" 286) none (.ref 161) (.none) 0), #[]⟩
noncomputable def o163p2 (P : Params) : Obj := ⟨.type "tuple", none, .seq #[] 0, #[]⟩
noncomputable def o164p2 (P : Params) : Obj := ⟨.none, none, .fields #[], #[]⟩
noncomputable def o165p2 (P : Params) : Obj := ⟨.type "tuple", none, .seq #[.str "self" 470] 0, #[]⟩
noncomputable def o166p2 (P : Params) : Obj := ⟨.type "tuple", none, .seq #[] 0, #[]⟩
noncomputable def o167p2 (P : Params) : Obj := ⟨.none, none, .func (fnD (clsS 5 10) "Pair.__getnewargs__" 0 [] (.none) (.none) (.none) (.none) none (.none) (.none) 0), #[]⟩
noncomputable def o168p2 (P : Params) : Obj := co "__getnewargs__" 467 "Pair.__getnewargs__" 468 469 80 1 3 163 true 273 164 (.ref 165) (.ref 166) (.ref 167) 471 472
noncomputable def o169p2 (P : Params) : Obj := ⟨.type "function", none, .func (fnD (clsS 5 10) "Pair.__getnewargs__" 3 [] (.none) (.none) (.str (docF 5 10) 473) (.str "cpy313.importlib.metadata._collections" 286) none (.ref 168) (.none) 0), #[]⟩
noncomputable def o170p2 (P : Params) : Obj := ⟨.type "tuple", none, .seq #[.str "name" 475, .str "value" 476] 0, #[]⟩
noncomputable def o171p2 (P : Params) : Obj := ⟨.type "dict", none, .dict #[en P "index" 484 (.int 0 478), en P "__doc__" 486 (.str "Alias for field number 0" 479)] 2, #[]⟩
noncomputable def o172p2 (P : Params) : Obj := ⟨.ref 78, some 171, .plain, #[]⟩
noncomputable def o173p2 (P : Params) : Obj := ⟨.type "frame", none, .dict #[en P "self" 480 (.ref 172), en P "index" 481 (.int 0 478), en P "doc" 482 (.str "Alias for field number 0" 479)] 3, #[]⟩
noncomputable def o174p2 (P : Params) : Obj := ⟨.type "dict", none, .dict #[en P "index" 494 (.int 1 488), en P "__doc__" 496 (.str "Alias for field number 1" 489)] 2, #[]⟩
noncomputable def o175p2 (P : Params) : Obj := ⟨.ref 78, some 174, .plain, #[]⟩
noncomputable def o176p2 (P : Params) : Obj := ⟨.type "frame", none, .dict #[en P "self" 490 (.ref 175), en P "index" 491 (.int 1 488), en P "doc" 492 (.str "Alias for field number 1" 489)] 3, #[]⟩
noncomputable def o177p2 (P : Params) : Obj := ⟨.type "tuple", none, .seq #[] 0, #[]⟩
noncomputable def o178p2 (P : Params) : Obj := ⟨.type "list", none, .seq #[] 0, #[]⟩
noncomputable def o179p2 (P : Params) : Obj := ⟨.type "dict", none, .dict #[en P "__module__" 395 (.str "cpy313.importlib.metadata._collections" 286), en P "__firstlineno__" 399 (.int 44 398), en P "__doc__" 401 (.str doc5 400), en P "__slots__" 403 (.ref 121), en P "_fields" 406 (.ref 122), en P "_field_defaults" 407 (.ref 123), en P "__new__" 417 (.ref 181), en P "_make" 439 (.ref 139), en P "_replace" 450 (.ref 148), en P "__replace__" 451 (.ref 148), en P "__repr__" 459 (.ref 155), en P "_asdict" 466 (.ref 162), en P "__getnewargs__" 474 (.ref 169), en P "__match_args__" 477 (.ref 170), en P "name" 487 (.ref 172), en P "value" 497 (.ref 175), en P "__static_attributes__" 498 (.ref 177)] 2, #[]⟩
noncomputable def o180p2 (P : Params) : Obj := ⟨.type "type", none, .cls (clD "Pair" [.type "tuple"] [.ref 180, .type "tuple", .type "object"] 179 "Pair" false [] []), #[(some (.ref 113)), none, (some (.str "Pair" 388)), (some (.str "Pair" 396)), (some (.none)), (some (.bool false))]⟩
noncomputable def o181p2 (P : Params) : Obj := ⟨.type "staticmethod", none, .fields #[.ref 130], #[]⟩
noncomputable def o182p2 (P : Params) : Obj := ⟨.type "super", none, .fields #[.ref 180, .ref 180, .ref 180], #[]⟩
noncomputable def o183p2 (P : Params) : Obj := ⟨.type "builtin_function_or_method", none, .fields #[.builtin "object.__init_subclass__", .ref 180], #[]⟩
noncomputable def u7 (P : Params) : BT := (y (o95p1 P) (y (o159p2 P) z z) z)
noncomputable def u8 (P : Params) : BT := (y (o111p1 P) (y (o175p2 P) z z) z)
noncomputable def u9 (P : Params) : BT := (y (o47p0 P) (y (o79p0 P) (y (o143p2 P) z z) z) (u8 P))
noncomputable def u10 (P : Params) : BT := (y (o103p1 P) (y (o167p2 P) z z) z)
noncomputable def u11 (P : Params) : BT := (y (o55p0 P) (y (o87p1 P) (y (o151p2 P) z z) z) (y (o119p2 P) (y (o183p2 P) z z) z))
noncomputable def u12 (P : Params) : BT := (y (o99p1 P) (y (o163p2 P) z z) z)
noncomputable def u13 (P : Params) : BT := (y (o51p0 P) (y (o83p1 P) (y (o147p2 P) z z) z) (y (o115p2 P) (y (o179p2 P) z z) z))
noncomputable def u14 (P : Params) : BT := (y (o107p1 P) (y (o171p2 P) z z) z)
noncomputable def u15 (P : Params) : BT := (y (o91p1 P) (y (o155p2 P) z z) z)
noncomputable def u16 (P : Params) : BT := (y (o97p1 P) (y (o161p2 P) z z) z)
noncomputable def u17 (P : Params) : BT := (y (o113p2 P) (y (o177p2 P) z z) z)
noncomputable def u18 (P : Params) : BT := (y (o49p0 P) (y (o81p0 P) (y (o145p2 P) z z) z) (u17 P))
noncomputable def u19 (P : Params) : BT := (y (o105p1 P) (y (o169p2 P) z z) z)
noncomputable def u20 (P : Params) : BT := (y (o89p1 P) (y (o153p2 P) z z) z)
noncomputable def u21 (P : Params) : BT := (y (o101p1 P) (y (o165p2 P) z z) z)
noncomputable def u22 (P : Params) : BT := (y (o53p0 P) (y (o85p1 P) (y (o149p2 P) z z) z) (y (o117p2 P) (y (o181p2 P) z z) z))
noncomputable def u23 (P : Params) : BT := (y (o109p1 P) (y (o173p2 P) z z) z)
noncomputable def u24 (P : Params) : BT := (y (o93p1 P) (y (o157p2 P) z z) z)
noncomputable def u25 (P : Params) : BT := (y (o96p1 P) (y (o160p2 P) z z) z)
noncomputable def u26 (P : Params) : BT := (y (o112p1 P) (y (o176p2 P) z z) z)
noncomputable def u27 (P : Params) : BT := (y (o48p0 P) (y (o80p0 P) (y (o144p2 P) z z) z) (u26 P))
noncomputable def u28 (P : Params) : BT := (y (o104p1 P) (y (o168p2 P) z z) z)
noncomputable def u29 (P : Params) : BT := (y (o88p1 P) (y (o152p2 P) z z) z)
noncomputable def u30 (P : Params) : BT := (y (o100p1 P) (y (o164p2 P) z z) z)
noncomputable def u31 (P : Params) : BT := (y (o84p1 P) (y (o148p2 P) z z) z)
noncomputable def u32 (P : Params) : BT := (y (o108p1 P) (y (o172p2 P) z z) z)
noncomputable def u33 (P : Params) : BT := (y (o92p1 P) (y (o156p2 P) z z) z)
noncomputable def u34 (P : Params) : BT := (y (o98p1 P) (y (o162p2 P) z z) z)
noncomputable def u35 (P : Params) : BT := (y (o50p0 P) (y (o82p0 P) (y (o146p2 P) z z) z) (y (o114p2 P) (y (o178p2 P) z z) z))
noncomputable def u36 (P : Params) : BT := (y (o106p1 P) (y (o170p2 P) z z) z)
noncomputable def u37 (P : Params) : BT := (y (o90p1 P) (y (o154p2 P) z z) z)
noncomputable def u38 (P : Params) : BT := (y (o102p1 P) (y (o166p2 P) z z) z)
noncomputable def u39 (P : Params) : BT := (y (o54p0 P) (y (o86p1 P) (y (o150p2 P) z z) z) (y (o118p2 P) (y (o182p2 P) z z) z))
noncomputable def u40 (P : Params) : BT := (y (o110p1 P) (y (o174p2 P) z z) z)
noncomputable def u41 (P : Params) : BT := (y (o94p1 P) (y (o158p2 P) z z) z)
noncomputable def tp2 (P : Params) : BT := (y (o0a P) (y (o1a P) (y (o3p2 P) (y (o7a P) (y (o15a P) (y (o31b P) (y (o63p0 P) (y (o127p2 P) z z) z) (u7 P)) (u9 P)) (y (o23a P) (y (o39p0 P) (y (o71p0 P) (y (o135p2 P) z z) z) (u10 P)) (u11 P))) (y (o11a P) (y (o19a P) (y (o35p0 P) (y (o67p0 P) (y (o131p2 P) z z) z) (u12 P)) (u13 P)) (y (o27a P) (y (o43p0 P) (y (o75p0 P) (y (o139p2 P) z z) z) (u14 P)) (y (o59p0 P) (u15 P) (y (o123p2 P) z z))))) (y (o5a P) (y (o9a P) (y (o17a P) (y (o33p0 P) (y (o65p0 P) (y (o129p2 P) z z) z) (u16 P)) (u18 P)) (y (o25a P) (y (o41p0 P) (y (o73p0 P) (y (o137p2 P) z z) z) (u19 P)) (y (o57p0 P) (u20 P) (y (o121p2 P) z z)))) (y (o13a P) (y (o21a P) (y (o37p0 P) (y (o69p0 P) (y (o133p2 P) z z) z) (u21 P)) (u22 P)) (y (o29b P) (y (o45p0 P) (y (o77p0 P) (y (o141p2 P) z z) z) (u23 P)) (y (o61p0 P) (u24 P) (y (o125p2 P) z z)))))) (y (o2p1 P) (y (o4a P) (y (o8a P) (y (o16a P) (y (o32b P) (y (o64p0 P) (y (o128p2 P) z z) z) (u25 P)) (u27 P)) (y (o24a P) (y (o40p0 P) (y (o72p0 P) (y (o136p2 P) z z) z) (u28 P)) (y (o56p0 P) (u29 P) (y (o120p2 P) z z)))) (y (o12a P) (y (o20a P) (y (o36p0 P) (y (o68p0 P) (y (o132p2 P) z z) z) (u30 P)) (y (o52p0 P) (u31 P) (y (o116p2 P) (y (o180p2 P) z z) z))) (y (o28a P) (y (o44p0 P) (y (o76p0 P) (y (o140p2 P) z z) z) (u32 P)) (y (o60p0 P) (u33 P) (y (o124p2 P) z z))))) (y (o6a P) (y (o10a P) (y (o18a P) (y (o34p0 P) (y (o66p0 P) (y (o130p2 P) z z) z) (u34 P)) (u35 P)) (y (o26a P) (y (o42p0 P) (y (o74p0 P) (y (o138p2 P) z z) z) (u36 P)) (y (o58p0 P) (u37 P) (y (o122p2 P) z z)))) (y (o14a P) (y (o22a P) (y (o38p0 P) (y (o70p0 P) (y (o134p2 P) z z) z) (u38 P)) (u39 P)) (y (o30p2 P) (y (o46p0 P) (y (o78p0 P) (y (o142p2 P) z z) z) (u40 P)) (y (o62p0 P) (u41 P) (y (o126p2 P) z z)))))))
noncomputable def o3p3 (P : Params) : Obj := ⟨.type "dict", none, .dict (en P "__name__" 165 (.str "cpy313.token" 541) :: (es3 P).take 19).toArray 20, #[]⟩
noncomputable def o30p3 (P : Params) : Obj := ⟨.none, none, .fields #[.int 2 0, .int 0 0, .ref 38, .int 6 0, .int 0 0, .ref 45, .int 24 0, .int 0 0, .ref 89, .int 44 0, .int 0 0, .ref 119, .int 86 0, .int 0 0, .ref 189], #[]⟩
noncomputable def o180p3 (P : Params) : Obj := ⟨.type "type", none, .cls (clD "Pair" [.type "tuple"] [.ref 180, .type "tuple", .type "object"] 179 "Pair" false [] [.ref 203]), #[(some (.ref 113)), none, (some (.str "Pair" 388)), (some (.str "Pair" 396)), (some (.none)), (some (.bool false))]⟩
noncomputable def o184p3 (P : Params) : Obj := ⟨.type "tuple", none, .seq #[.ref 180] 0, #[]⟩
noncomputable def o185p3 (P : Params) : Obj := ⟨.type "builtin_function_or_method", none, .fields #[.builtin "type.__prepare__", .type "type"], #[]⟩
noncomputable def o186p3 (P : Params) : Obj := ⟨.type "dict", none, .dict #[en P "__module__" 510 (.str "cpy313.importlib.metadata._collections" 286), en P "__qualname__" 512 (.str "Pair" 511), en P "__firstlineno__" 514 (.int 86 513), en P "parse" 534 (.ref 199), en P "__static_attributes__" 535 (.ref 201)] 5, #[]⟩
noncomputable def o187p3 (P : Params) : Obj := ⟨.type "tuple", none, .seq #[] 0, #[]⟩
noncomputable def o188p3 (P : Params) : Obj := ⟨.none, none, .fields #[.int 89 0, .int 4 0, .ref 196], #[]⟩
noncomputable def o189p3 (P : Params) : Obj := co "Pair" 505 "Pair" 506 507 86 0 0 187 false 273 188 .none .none .none 508 509
noncomputable def o190p3 (P : Params) : Obj := ⟨.type "frame", none, .plain, #[(some (.ref 189)), (some (.ref 3)), (some (.ref 186)), none, (some (.str "cpy313.importlib.metadata._collections" 286)), none, (some (.ref 0))]⟩
noncomputable def o191p3 (P : Params) : Obj := ⟨.type "tuple", none, .seq #[] 0, #[]⟩
noncomputable def o192p3 (P : Params) : Obj := ⟨.none, none, .fields #[], #[]⟩
noncomputable def o193p3 (P : Params) : Obj := ⟨.type "tuple", none, .seq #[.str "cls" 518, .str "text" 519] 0, #[]⟩
noncomputable def o194p3 (P : Params) : Obj := ⟨.type "tuple", none, .seq #[] 0, #[]⟩
noncomputable def o195p3 (P : Params) : Obj := ⟨.none, none, .func (fnD (clsS 6 0) "Pair.parse" 0 [] (.none) (.none) (.none) (.none) none (.none) (.none) 0), #[]⟩
noncomputable def o196p3 (P : Params) : Obj := co "parse" 515 "Pair.parse" 516 517 88 2 3 191 true 273 192 (.ref 193) (.ref 194) (.ref 195) 520 521
noncomputable def o197p3 (P : Params) : Obj := ⟨.type "function", none, .func (fnD (clsS 6 0) "Pair.parse" 3 [] (.none) (.none) (.none) (.str "cpy313.importlib.metadata._collections" 286) (some 200) (.ref 196) (.none) 0), #[]⟩
noncomputable def o198p3 (P : Params) : Obj := ⟨.type "dict", none, .dict #[en P "__module__" 523 (.str "cpy313.importlib.metadata._collections" 286), en P "__name__" 526 (.str "parse" 525), en P "__qualname__" 529 (.str "Pair.parse" 528), en P "__doc__" 531 (.none), en P "__annotations__" 533 (.ref 200)] 5, #[]⟩
noncomputable def o199p3 (P : Params) : Obj := ⟨.type "classmethod", some 198, .fields #[.ref 197, .bool false], #[]⟩
noncomputable def o200p3 (P : Params) : Obj := ⟨.type "dict", none, .dict #[] 0, #[]⟩
noncomputable def o201p3 (P : Params) : Obj := ⟨.type "tuple", none, .seq #[] 0, #[]⟩
noncomputable def o202p3 (P : Params) : Obj := ⟨.type "dict", none, .dict #[en P "__module__" 510 (.str "cpy313.importlib.metadata._collections" 286), en P "__firstlineno__" 514 (.int 86 513), en P "parse" 534 (.ref 199), en P "__static_attributes__" 535 (.ref 201), en P "__dict__" 537 (.ref 204), en P "__doc__" 538 (.none)] 3, #[]⟩
noncomputable def o203p3 (P : Params) : Obj := ⟨.type "type", none, .cls (clD "Pair" [.ref 180] [.ref 203, .ref 180, .type "tuple", .type "object"] 202 "Pair" true [] []), #[(some (.ref 184)), none, (some (.str "Pair" 503)), (some (.str "Pair" 511)), (some (.none)), (some (.bool false))]⟩
noncomputable def o204p3 (P : Params) : Obj := ⟨.type "getset_descriptor", none, .fields #[.str "__dict__" 536, .ref 203, .builtin "function.__dict__", .builtin "function.__dict__#set"], #[]⟩
noncomputable def o205p3 (P : Params) : Obj := ⟨.type "super", none, .fields #[.ref 203, .ref 203, .ref 203], #[]⟩
noncomputable def o206p3 (P : Params) : Obj := ⟨.type "builtin_function_or_method", none, .fields #[.builtin "object.__init_subclass__", .ref 203], #[]⟩
noncomputable def u42 (P : Params) : BT := (y (o31b P) (y (o63p0 P) (y (o127p2 P) z z) (y (o191p3 P) z z)) (u7 P))
noncomputable def u43 (P : Params) : BT := (y (o23a P) (y (o39p0 P) (y (o71p0 P) (y (o135p2 P) z z) (y (o199p3 P) z z)) (u10 P)) (u11 P))
noncomputable def u44 (P : Params) : BT := (y (o7a P) (y (o15a P) (u42 P) (u9 P)) (u43 P))
noncomputable def u45 (P : Params) : BT := (y (o11a P) (y (o19a P) (y (o35p0 P) (y (o67p0 P) (y (o131p2 P) z z) (y (o195p3 P) z z)) (u12 P)) (u13 P)) (y (o27a P) (y (o43p0 P) (y (o75p0 P) (y (o139p2 P) z z) (y (o203p3 P) z z)) (u14 P)) (y (o59p0 P) (u15 P) (y (o123p2 P) (y (o187p3 P) z z) z))))
noncomputable def u46 (P : Params) : BT := (y (o33p0 P) (y (o65p0 P) (y (o129p2 P) z z) (y (o193p3 P) z z)) (u16 P))
noncomputable def u47 (P : Params) : BT := (y (o25a P) (y (o41p0 P) (y (o73p0 P) (y (o137p2 P) z z) (y (o201p3 P) z z)) (u19 P)) (y (o57p0 P) (u20 P) (y (o121p2 P) (y (o185p3 P) z z) z)))
noncomputable def u48 (P : Params) : BT := (y (o13a P) (y (o21a P) (y (o37p0 P) (y (o69p0 P) (y (o133p2 P) z z) (y (o197p3 P) z z)) (u21 P)) (u22 P)) (y (o29b P) (y (o45p0 P) (y (o77p0 P) (y (o141p2 P) z z) (y (o205p3 P) z z)) (u23 P)) (y (o61p0 P) (u24 P) (y (o125p2 P) (y (o189p3 P) z z) z))))
noncomputable def u49 (P : Params) : BT := (y (o5a P) (y (o9a P) (y (o17a P) (u46 P) (u18 P)) (u47 P)) (u48 P))
noncomputable def u50 (P : Params) : BT := (y (o32b P) (y (o64p0 P) (y (o128p2 P) z z) (y (o192p3 P) z z)) (u25 P))
noncomputable def u51 (P : Params) : BT := (y (o24a P) (y (o40p0 P) (y (o72p0 P) (y (o136p2 P) z z) (y (o200p3 P) z z)) (u28 P)) (y (o56p0 P) (u29 P) (y (o120p2 P) (y (o184p3 P) z z) z)))
noncomputable def u52 (P : Params) : BT := (y (o12a P) (y (o20a P) (y (o36p0 P) (y (o68p0 P) (y (o132p2 P) z z) (y (o196p3 P) z z)) (u30 P)) (y (o52p0 P) (u31 P) (y (o116p2 P) (y (o180p3 P) z z) z))) (y (o28a P) (y (o44p0 P) (y (o76p0 P) (y (o140p2 P) z z) (y (o204p3 P) z z)) (u32 P)) (y (o60p0 P) (u33 P) (y (o124p2 P) (y (o188p3 P) z z) z))))
noncomputable def u53 (P : Params) : BT := (y (o6a P) (y (o10a P) (y (o18a P) (y (o34p0 P) (y (o66p0 P) (y (o130p2 P) z z) (y (o194p3 P) z z)) (u34 P)) (u35 P)) (y (o26a P) (y (o42p0 P) (y (o74p0 P) (y (o138p2 P) z z) (y (o202p3 P) z z)) (u36 P)) (y (o58p0 P) (u37 P) (y (o122p2 P) (y (o186p3 P) z z) z)))) (y (o14a P) (y (o22a P) (y (o38p0 P) (y (o70p0 P) (y (o134p2 P) z z) (y (o198p3 P) z z)) (u38 P)) (u39 P)) (y (o30p3 P) (y (o46p0 P) (y (o78p0 P) (y (o142p2 P) z z) (y (o206p3 P) z z)) (u40 P)) (y (o62p0 P) (u41 P) (y (o126p2 P) (y (o190p3 P) z z) z)))))
noncomputable def u54 (P : Params) : BT := (y (o2p1 P) (y (o4a P) (y (o8a P) (y (o16a P) (u50 P) (u27 P)) (u51 P)) (u52 P)) (u53 P))
noncomputable def tp3 (P : Params) : BT := (y (o0a P) (y (o1a P) (y (o3p3 P) (u44 P) (u45 P)) (u49 P)) (u54 P))
noncomputable def o3p4 (P : Params) : Obj := ⟨.type "dict", none, .dict (en P "__name__" 165 (.str "cpy313.token" 541) :: (es3 P).take 63).toArray 64, #[]⟩
noncomputable def tp4 (P : Params) : BT := (y (o0a P) (y (o1a P) (y (o3p4 P) (u44 P) (u45 P)) (u49 P)) (u54 P))
noncomputable def o3p5 (P : Params) : Obj := ⟨.type "dict", none, .dict (en P "__name__" 165 (.str "cpy313.token" 541) :: (es3 P).take 64).toArray 65, #[]⟩
noncomputable def o207p5 (P : Params) : Obj := ⟨.type "dict", none, .dict #[en P "!" 643 (.int 54 639), en P "!=" 645 (.int 28 587), en P "%" 647 (.int 24 579), en P "%=" 649 (.int 40 611), en P "&" 651 (.int 19 569), en P "&=" 653 (.int 41 613), en P "(" 655 (.int 7 545), en P ")" 657 (.int 8 547), en P "*" 659 (.int 16 563), en P "**" 661 (.int 35 601), en P "**=" 663 (.int 46 623), en P "*=" 665 (.int 38 607), en P "+" 667 (.int 14 559), en P "+=" 669 (.int 36 603), en P "," 671 (.int 12 555), en P "-" 673 (.int 15 561), en P "-=" 675 (.int 37 605), en P "->" 677 (.int 51 633), en P "." 679 (.int 23 577), en P "..." 681 (.int 52 635), en P "/" 683 (.int 17 565), en P "//" 685 (.int 47 625), en P "//=" 687 (.int 48 627), en P "/=" 689 (.int 39 609), en P ":" 691 (.int 11 553), en P ":=" 693 (.int 53 637), en P ";" 695 (.int 13 557), en P "<" 697 (.int 20 571), en P "<<" 699 (.int 33 597), en P "<<=" 701 (.int 44 619), en P "<=" 703 (.int 29 589), en P "=" 705 (.int 22 575), en P "==" 707 (.int 27 585), en P ">" 709 (.int 21 573), en P ">=" 711 (.int 30 591), en P ">>" 712 (.int 34 599), en P ">>=" 713 (.int 45 621), en P "@" 714 (.int 49 629), en P "@=" 715 (.int 50 631), en P "[" 716 (.int 9 549), en P "]" 717 (.int 10 551), en P "^" 718 (.int 32 595), en P "^=" 719 (.int 43 617), en P "{" 720 (.int 25 581), en P "|" 721 (.int 18 567), en P "|=" 722 (.int 42 615), en P "}" 723 (.int 26 583), en P "~" 724 (.int 31 593)] 48, #[]⟩
noncomputable def o208p5 (P : Params) : Obj := ⟨.type "dict", none, .dict #[en P "->" 677 (.int 51 633), en P "." 679 (.int 23 577), en P "..." 681 (.int 52 635), en P "/" 683 (.int 17 565), en P "//" 685 (.int 47 625), en P "//=" 687 (.int 48 627), en P "/=" 689 (.int 39 609), en P ":" 691 (.int 11 553), en P ":=" 693 (.int 53 637), en P ";" 695 (.int 13 557), en P "<" 697 (.int 20 571), en P "<<" 699 (.int 33 597), en P "<<=" 701 (.int 44 619), en P "<=" 703 (.int 29 589), en P "=" 705 (.int 22 575), en P "==" 707 (.int 27 585), en P ">" 709 (.int 21 573)] 17, #[]⟩
noncomputable def o209p5 (P : Params) : Obj := ⟨.type "dict", none, .dict #[en P ">=" 711 (.int 30 591), en P ">>" 712 (.int 34 599), en P ">>=" 713 (.int 45 621), en P "@" 714 (.int 49 629), en P "@=" 715 (.int 50 631), en P "[" 716 (.int 9 549), en P "]" 717 (.int 10 551), en P "^" 718 (.int 32 595), en P "^=" 719 (.int 43 617), en P "{" 720 (.int 25 581), en P "|" 721 (.int 18 567), en P "|=" 722 (.int 42 615), en P "}" 723 (.int 26 583), en P "~" 724 (.int 31 593)] 14, #[]⟩
noncomputable def tp5 (P : Params) : BT := (y (o0a P) (y (o1a P) (y (o3p5 P) (y (o7a P) (y (o15a P) (u42 P) (y (o47p0 P) (y (o79p0 P) (y (o143p2 P) z z) (y (o207p5 P) z z)) (u8 P))) (u43 P)) (u45 P)) (y (o5a P) (y (o9a P) (y (o17a P) (u46 P) (y (o49p0 P) (y (o81p0 P) (y (o145p2 P) z z) (y (o209p5 P) z z)) (u17 P))) (u47 P)) (u48 P))) (y (o2p1 P) (y (o4a P) (y (o8a P) (y (o16a P) (u50 P) (y (o48p0 P) (y (o80p0 P) (y (o144p2 P) z z) (y (o208p5 P) z z)) (u26 P))) (u51 P)) (u52 P)) (u53 P)))
noncomputable def o3p6 (P : Params) : Obj := ⟨.type "dict", none, .dict (en P "__name__" 165 (.str "law_in0017_01" 761) :: es3 P).toArray 80, #[]⟩
noncomputable def o30p6 (P : Params) : Obj := ⟨.none, none, .fields #[.int 2 0, .int 0 0, .ref 38, .int 6 0, .int 0 0, .ref 45, .int 24 0, .int 0 0, .ref 89, .int 44 0, .int 0 0, .ref 119, .int 86 0, .int 0 0, .ref 189, .int 143 0, .int 0 0, .ref 215, .int 145 0, .int 0 0, .ref 222, .int 147 0, .int 0 0, .ref 229, .int 150 0, .int 0 0, .ref 236, .int 152 0, .int 0 0, .ref 243, .int 156 0, .int 0 0, .ref 250, .int 161 0, .int 0 0, .ref 255, .int 163 0, .int 0 0, .ref 262, .int 172 0, .int 0 0, .ref 269, .int 196 0, .int 0 0, .ref 276, .int 204 0, .int 0 0, .ref 281, .int 206 0, .int 0 0, .ref 286, .int 209 0, .int 0 0, .ref 291, .int 237 0, .int 0 0, .ref 296, .int 239 0, .int 0 0, .ref 301], #[]⟩
noncomputable def o210p6 (P : Params) : Obj := ⟨.type "tuple", none, .seq #[] 0, #[]⟩
noncomputable def o211p6 (P : Params) : Obj := ⟨.none, none, .fields #[], #[]⟩
noncomputable def o212p6 (P : Params) : Obj := ⟨.type "tuple", none, .seq #[.str "x" 743] 0, #[]⟩
noncomputable def o213p6 (P : Params) : Obj := ⟨.type "tuple", none, .seq #[] 0, #[]⟩
noncomputable def o214p6 (P : Params) : Obj := ⟨.none, none, .func (fnD (topS 59) "ISTERMINAL" 0 [] (.none) (.none) (.none) (.none) none (.none) (.none) 0), #[]⟩
noncomputable def o215p6 (P : Params) : Obj := co "ISTERMINAL" 740 "ISTERMINAL" 741 742 143 1 3 210 true 273 211 (.ref 212) (.ref 213) (.ref 214) 744 745
noncomputable def o216p6 (P : Params) : Obj := ⟨.type "function", none, .func (fnD (topS 59) "ISTERMINAL" 3 [] (.none) (.none) (.none) (.str "cpy313.token" 541) none (.ref 215) (.none) 0), #[]⟩
noncomputable def o217p6 (P : Params) : Obj := ⟨.type "tuple", none, .seq #[] 0, #[]⟩
noncomputable def o218p6 (P : Params) : Obj := ⟨.none, none, .fields #[], #[]⟩
noncomputable def o219p6 (P : Params) : Obj := ⟨.type "tuple", none, .seq #[.str "x" 750] 0, #[]⟩
noncomputable def o220p6 (P : Params) : Obj := ⟨.type "tuple", none, .seq #[] 0, #[]⟩
noncomputable def o221p6 (P : Params) : Obj := ⟨.none, none, .func (fnD (topS 60) "ISNONTERMINAL" 0 [] (.none) (.none) (.none) (.none) none (.none) (.none) 0), #[]⟩
noncomputable def o222p6 (P : Params) : Obj := co "ISNONTERMINAL" 747 "ISNONTERMINAL" 748 749 145 1 3 217 true 273 218 (.ref 219) (.ref 220) (.ref 221) 751 752
noncomputable def o223p6 (P : Params) : Obj := ⟨.type "function", none, .func (fnD (topS 60) "ISNONTERMINAL" 3 [] (.none) (.none) (.none) (.str "cpy313.token" 541) none (.ref 222) (.none) 0), #[]⟩
noncomputable def o224p6 (P : Params) : Obj := ⟨.type "tuple", none, .seq #[] 0, #[]⟩
noncomputable def o225p6 (P : Params) : Obj := ⟨.none, none, .fields #[], #[]⟩
noncomputable def o226p6 (P : Params) : Obj := ⟨.type "tuple", none, .seq #[.str "x" 757] 0, #[]⟩
noncomputable def o227p6 (P : Params) : Obj := ⟨.type "tuple", none, .seq #[] 0, #[]⟩
noncomputable def o228p6 (P : Params) : Obj := ⟨.none, none, .func (fnD (topS 61) "ISEOF" 0 [] (.none) (.none) (.none) (.none) none (.none) (.none) 0), #[]⟩
noncomputable def o229p6 (P : Params) : Obj := co "ISEOF" 754 "ISEOF" 755 756 147 1 3 224 true 273 225 (.ref 226) (.ref 227) (.ref 228) 758 759
noncomputable def o230p6 (P : Params) : Obj := ⟨.type "function", none, .func (fnD (topS 61) "ISEOF" 3 [] (.none) (.none) (.none) (.str "cpy313.token" 541) none (.ref 229) (.none) 0), #[]⟩
noncomputable def o231p6 (P : Params) : Obj := ⟨.type "tuple", none, .seq #[] 0, #[]⟩
noncomputable def o232p6 (P : Params) : Obj := ⟨.none, none, .fields #[], #[]⟩
noncomputable def o233p6 (P : Params) : Obj := ⟨.type "tuple", none, .seq #[] 0, #[]⟩
noncomputable def o234p6 (P : Params) : Obj := ⟨.type "tuple", none, .seq #[] 0, #[]⟩
noncomputable def o235p6 (P : Params) : Obj := ⟨.none, none, .func (fnD (topS 63) "_law_node" 0 [] (.none) (.none) (.none) (.none) none (.none) (.none) 0), #[]⟩
noncomputable def o236p6 (P : Params) : Obj := co "_law_node" 763 "_law_node" 764 765 150 0 3 231 true 273 232 (.ref 233) (.ref 234) (.ref 235) 766 767
noncomputable def o237p6 (P : Params) : Obj := ⟨.type "function", none, .func (fnD (topS 63) "_law_node" 3 [] (.none) (.none) (.none) (.str "law_in0017_01" 761) none (.ref 236) (.none) 0), #[]⟩
noncomputable def o238p6 (P : Params) : Obj := ⟨.type "tuple", none, .seq #[] 0, #[]⟩
noncomputable def o239p6 (P : Params) : Obj := ⟨.none, none, .fields #[], #[]⟩
noncomputable def o240p6 (P : Params) : Obj := ⟨.type "tuple", none, .seq #[.str "node" 772, .str "path" 773, .str "sign" 774] 0, #[]⟩
noncomputable def o241p6 (P : Params) : Obj := ⟨.type "tuple", none, .seq #[] 0, #[]⟩
noncomputable def o242p6 (P : Params) : Obj := ⟨.none, none, .func (fnD (topS 64) "_law_walk" 0 [] (.none) (.none) (.none) (.none) none (.none) (.none) 0), #[]⟩
noncomputable def o243p6 (P : Params) : Obj := co "_law_walk" 769 "_law_walk" 770 771 152 2 3 238 true 273 239 (.ref 240) (.ref 241) (.ref 242) 775 776
noncomputable def o244p6 (P : Params) : Obj := ⟨.type "function", none, .func (fnD (topS 64) "_law_walk" 3 [] (.none) (.none) (.none) (.str "law_in0017_01" 761) none (.ref 243) (.none) 0), #[]⟩
noncomputable def o245p6 (P : Params) : Obj := ⟨.type "tuple", none, .seq #[] 0, #[]⟩
noncomputable def o246p6 (P : Params) : Obj := ⟨.none, none, .fields #[], #[]⟩
noncomputable def o247p6 (P : Params) : Obj := ⟨.type "tuple", none, .seq #[.str "node" 781, .str "key" 782] 0, #[]⟩
noncomputable def o248p6 (P : Params) : Obj := ⟨.type "tuple", none, .seq #[] 0, #[]⟩
noncomputable def o249p6 (P : Params) : Obj := ⟨.none, none, .func (fnD (topS 65) "_law_shut" 0 [] (.none) (.none) (.none) (.none) none (.none) (.none) 0), #[]⟩
noncomputable def o250p6 (P : Params) : Obj := co "_law_shut" 778 "_law_shut" 779 780 156 1 3 245 true 273 246 (.ref 247) (.ref 248) (.ref 249) 783 784
noncomputable def o251p6 (P : Params) : Obj := ⟨.type "function", none, .func (fnD (topS 65) "_law_shut" 3 [] (.none) (.none) (.none) (.str "law_in0017_01" 761) none (.ref 250) (.none) 0), #[]⟩
noncomputable def o252p6 (P : Params) : Obj := ⟨.type "tuple", none, .seq #[] 0, #[]⟩
noncomputable def o253p6 (P : Params) : Obj := ⟨.none, none, .fields #[], #[]⟩
noncomputable def o254p6 (P : Params) : Obj := ⟨.none, none, .func (fnD (topS 66) "_law_listed" 0 [] (.none) (.none) (.none) (.none) none (.none) (.none) 0), #[]⟩
noncomputable def o255p6 (P : Params) : Obj := co "_law_listed" 786 "_law_listed" 787 788 161 1 3 252 true 273 253 .none .none (.ref 254) 789 790
noncomputable def o256p6 (P : Params) : Obj := ⟨.type "function", none, .func (fnD (topS 66) "_law_listed" 3 [] (.none) (.none) (.none) (.str "law_in0017_01" 761) none (.ref 255) (.none) 0), #[]⟩
noncomputable def o257p6 (P : Params) : Obj := ⟨.type "tuple", none, .seq #[] 0, #[]⟩
noncomputable def o258p6 (P : Params) : Obj := ⟨.none, none, .fields #[], #[]⟩
noncomputable def o259p6 (P : Params) : Obj := ⟨.type "tuple", none, .seq #[.str "node" 795, .str "text" 796, .str "number" 797, .str "size" 798, .str "k" 799] 0, #[]⟩
noncomputable def o260p6 (P : Params) : Obj := ⟨.type "tuple", none, .seq #[] 0, #[]⟩
noncomputable def o261p6 (P : Params) : Obj := ⟨.none, none, .func (fnD (topS 67) "_law_longest" 0 [] (.none) (.none) (.none) (.none) none (.none) (.none) 0), #[]⟩
noncomputable def o262p6 (P : Params) : Obj := co "_law_longest" 792 "_law_longest" 793 794 163 2 3 257 true 273 258 (.ref 259) (.ref 260) (.ref 261) 800 801
noncomputable def o263p6 (P : Params) : Obj := ⟨.type "function", none, .func (fnD (topS 67) "_law_longest" 3 [] (.none) (.none) (.none) (.str "law_in0017_01" 761) none (.ref 262) (.none) 0), #[]⟩
noncomputable def o264p6 (P : Params) : Obj := ⟨.type "tuple", none, .seq #[] 0, #[]⟩
noncomputable def o265p6 (P : Params) : Obj := ⟨.none, none, .fields #[], #[]⟩
noncomputable def o266p6 (P : Params) : Obj := ⟨.type "tuple", none, .seq #[.str "deeds" 806, .str "text" 807, .str "root" 808, .str "story" 809, .str "pieces" 810, .str "k" 811, .str "kind" 812, .str "word" 813, .str "more" 814, .str "told" 815, .str "pair" 816, .str "node" 817, .str "tree" 818, .str "number" 819, .str "size" 820] 0, #[]⟩
noncomputable def o267p6 (P : Params) : Obj := ⟨.type "tuple", none, .seq #[] 0, #[]⟩
noncomputable def o268p6 (P : Params) : Obj := ⟨.none, none, .func (fnD (topS 68) "_law_run" 0 [] (.none) (.none) (.none) (.none) none (.none) (.none) 0), #[]⟩
noncomputable def o269p6 (P : Params) : Obj := co "_law_run" 803 "_law_run" 804 805 172 2 3 264 true 273 265 (.ref 266) (.ref 267) (.ref 268) 821 822
noncomputable def o270p6 (P : Params) : Obj := ⟨.type "function", none, .func (fnD (topS 68) "_law_run" 3 [] (.none) (.none) (.none) (.str "law_in0017_01" 761) none (.ref 269) (.none) 0), #[]⟩
noncomputable def o271p6 (P : Params) : Obj := ⟨.type "tuple", none, .seq #[] 0, #[]⟩
noncomputable def o272p6 (P : Params) : Obj := ⟨.none, none, .fields #[], #[]⟩
noncomputable def o273p6 (P : Params) : Obj := ⟨.type "tuple", none, .seq #[.str "below" 827, .str "shut" 828, .str "path" 829, .str "k" 830] 0, #[]⟩
noncomputable def o274p6 (P : Params) : Obj := ⟨.type "tuple", none, .seq #[] 0, #[]⟩
noncomputable def o275p6 (P : Params) : Obj := ⟨.none, none, .func (fnD (topS 69) "_law_gone" 0 [] (.none) (.none) (.none) (.none) none (.none) (.none) 0), #[]⟩
noncomputable def o276p6 (P : Params) : Obj := co "_law_gone" 824 "_law_gone" 825 826 196 3 3 271 true 273 272 (.ref 273) (.ref 274) (.ref 275) 831 832
noncomputable def o277p6 (P : Params) : Obj := ⟨.type "function", none, .func (fnD (topS 69) "_law_gone" 3 [] (.none) (.none) (.none) (.str "law_in0017_01" 761) none (.ref 276) (.none) 0), #[]⟩
noncomputable def o278p6 (P : Params) : Obj := ⟨.type "tuple", none, .seq #[] 0, #[]⟩
noncomputable def o279p6 (P : Params) : Obj := ⟨.none, none, .fields #[], #[]⟩
noncomputable def o280p6 (P : Params) : Obj := ⟨.none, none, .func (fnD (topS 70) "_law_drawn" 0 [] (.none) (.none) (.none) (.none) none (.none) (.none) 0), #[]⟩
noncomputable def o281p6 (P : Params) : Obj := co "_law_drawn" 834 "_law_drawn" 835 836 204 3 3 278 true 273 279 .none .none (.ref 280) 837 838
noncomputable def o282p6 (P : Params) : Obj := ⟨.type "function", none, .func (fnD (topS 70) "_law_drawn" 3 [] (.none) (.none) (.none) (.str "law_in0017_01" 761) none (.ref 281) (.none) 0), #[]⟩
noncomputable def o283p6 (P : Params) : Obj := ⟨.type "tuple", none, .seq #[] 0, #[]⟩
noncomputable def o284p6 (P : Params) : Obj := ⟨.none, none, .fields #[], #[]⟩
noncomputable def o285p6 (P : Params) : Obj := ⟨.none, none, .func (fnD (topS 71) "_law_best" 0 [] (.none) (.none) (.none) (.none) none (.none) (.none) 0), #[]⟩
noncomputable def o286p6 (P : Params) : Obj := co "_law_best" 840 "_law_best" 841 842 206 2 3 283 true 273 284 .none .none (.ref 285) 843 844
noncomputable def o287p6 (P : Params) : Obj := ⟨.type "function", none, .func (fnD (topS 71) "_law_best" 3 [] (.none) (.none) (.none) (.str "law_in0017_01" 761) none (.ref 286) (.none) 0), #[]⟩
noncomputable def o288p6 (P : Params) : Obj := ⟨.type "tuple", none, .seq #[] 0, #[]⟩
noncomputable def o289p6 (P : Params) : Obj := ⟨.none, none, .fields #[], #[]⟩
noncomputable def o290p6 (P : Params) : Obj := ⟨.none, none, .func (fnD (topS 72) "_law_plain" 0 [] (.none) (.none) (.none) (.none) none (.none) (.none) 0), #[]⟩
noncomputable def o291p6 (P : Params) : Obj := co "_law_plain" 846 "_law_plain" 847 848 209 2 3 288 true 273 289 .none .none (.ref 290) 849 850
noncomputable def o292p6 (P : Params) : Obj := ⟨.type "function", none, .func (fnD (topS 72) "_law_plain" 3 [] (.none) (.none) (.none) (.str "law_in0017_01" 761) none (.ref 291) (.none) 0), #[]⟩
noncomputable def o293p6 (P : Params) : Obj := ⟨.type "tuple", none, .seq #[] 0, #[]⟩
noncomputable def o294p6 (P : Params) : Obj := ⟨.none, none, .fields #[], #[]⟩
noncomputable def o295p6 (P : Params) : Obj := ⟨.none, none, .func (fnD (topS 73) "_law_deeds" 0 [] (.none) (.none) (.none) (.none) none (.none) (.none) 0), #[]⟩
noncomputable def o296p6 (P : Params) : Obj := co "_law_deeds" 852 "_law_deeds" 853 854 237 3 3 293 true 273 294 .none .none (.ref 295) 855 856
noncomputable def o297p6 (P : Params) : Obj := ⟨.type "function", none, .func (fnD (topS 73) "_law_deeds" 3 [] (.none) (.none) (.none) (.str "law_in0017_01" 761) none (.ref 296) (.none) 0), #[]⟩
noncomputable def o298p6 (P : Params) : Obj := ⟨.type "tuple", none, .seq #[] 0, #[]⟩
noncomputable def o299p6 (P : Params) : Obj := ⟨.none, none, .fields #[], #[]⟩
noncomputable def o300p6 (P : Params) : Obj := ⟨.none, none, .func (fnD (topS 74) "law" 0 [] (.none) (.none) (.none) (.none) none (.none) (.none) 0), #[]⟩
noncomputable def o301p6 (P : Params) : Obj := co "law" 858 "law" 859 860 239 1 3 298 true 273 299 .none .none (.ref 300) 861 862
noncomputable def o302p6 (P : Params) : Obj := ⟨.type "function", none, .func (fnD (topS 74) "law" 3 [] (.none) (.none) (.none) (.str "law_in0017_01" 761) none (.ref 301) (.none) 0), #[]⟩
noncomputable def tp6 (P : Params) : BT := (y (o0a P) (y (o1a P) (y (o3p6 P) (y (o7a P) (y (o15a P) (y (o31b P) (y (o63p0 P) (y (o127p2 P) (y (o255p6 P) z z) z) (y (o191p3 P) z z)) (y (o95p1 P) (y (o159p2 P) (y (o287p6 P) z z) z) (y (o223p6 P) z z))) (y (o47p0 P) (y (o79p0 P) (y (o143p2 P) (y (o271p6 P) z z) z) (y (o207p5 P) z z)) (y (o111p1 P) (y (o175p2 P) z z) (y (o239p6 P) z z)))) (y (o23a P) (y (o39p0 P) (y (o71p0 P) (y (o135p2 P) (y (o263p6 P) z z) z) (y (o199p3 P) z z)) (y (o103p1 P) (y (o167p2 P) (y (o295p6 P) z z) z) (y (o231p6 P) z z))) (y (o55p0 P) (y (o87p1 P) (y (o151p2 P) (y (o279p6 P) z z) z) (y (o215p6 P) z z)) (y (o119p2 P) (y (o183p2 P) z z) (y (o247p6 P) z z))))) (y (o11a P) (y (o19a P) (y (o35p0 P) (y (o67p0 P) (y (o131p2 P) (y (o259p6 P) z z) z) (y (o195p3 P) z z)) (y (o99p1 P) (y (o163p2 P) (y (o291p6 P) z z) z) (y (o227p6 P) z z))) (y (o51p0 P) (y (o83p1 P) (y (o147p2 P) (y (o275p6 P) z z) z) (y (o211p6 P) z z)) (y (o115p2 P) (y (o179p2 P) z z) (y (o243p6 P) z z)))) (y (o27a P) (y (o43p0 P) (y (o75p0 P) (y (o139p2 P) (y (o267p6 P) z z) z) (y (o203p3 P) z z)) (y (o107p1 P) (y (o171p2 P) (y (o299p6 P) z z) z) (y (o235p6 P) z z))) (y (o59p0 P) (y (o91p1 P) (y (o155p2 P) (y (o283p6 P) z z) z) (y (o219p6 P) z z)) (y (o123p2 P) (y (o187p3 P) z z) (y (o251p6 P) z z)))))) (y (o5a P) (y (o9a P) (y (o17a P) (y (o33p0 P) (y (o65p0 P) (y (o129p2 P) (y (o257p6 P) z z) z) (y (o193p3 P) z z)) (y (o97p1 P) (y (o161p2 P) (y (o289p6 P) z z) z) (y (o225p6 P) z z))) (y (o49p0 P) (y (o81p0 P) (y (o145p2 P) (y (o273p6 P) z z) z) (y (o209p5 P) z z)) (y (o113p2 P) (y (o177p2 P) z z) (y (o241p6 P) z z)))) (y (o25a P) (y (o41p0 P) (y (o73p0 P) (y (o137p2 P) (y (o265p6 P) z z) z) (y (o201p3 P) z z)) (y (o105p1 P) (y (o169p2 P) (y (o297p6 P) z z) z) (y (o233p6 P) z z))) (y (o57p0 P) (y (o89p1 P) (y (o153p2 P) (y (o281p6 P) z z) z) (y (o217p6 P) z z)) (y (o121p2 P) (y (o185p3 P) z z) (y (o249p6 P) z z))))) (y (o13a P) (y (o21a P) (y (o37p0 P) (y (o69p0 P) (y (o133p2 P) (y (o261p6 P) z z) z) (y (o197p3 P) z z)) (y (o101p1 P) (y (o165p2 P) (y (o293p6 P) z z) z) (y (o229p6 P) z z))) (y (o53p0 P) (y (o85p1 P) (y (o149p2 P) (y (o277p6 P) z z) z) (y (o213p6 P) z z)) (y (o117p2 P) (y (o181p2 P) z z) (y (o245p6 P) z z)))) (y (o29b P) (y (o45p0 P) (y (o77p0 P) (y (o141p2 P) (y (o269p6 P) z z) z) (y (o205p3 P) z z)) (y (o109p1 P) (y (o173p2 P) (y (o301p6 P) z z) z) (y (o237p6 P) z z))) (y (o61p0 P) (y (o93p1 P) (y (o157p2 P) (y (o285p6 P) z z) z) (y (o221p6 P) z z)) (y (o125p2 P) (y (o189p3 P) z z) (y (o253p6 P) z z))))))) (y (o2p1 P) (y (o4a P) (y (o8a P) (y (o16a P) (y (o32b P) (y (o64p0 P) (y (o128p2 P) (y (o256p6 P) z z) z) (y (o192p3 P) z z)) (y (o96p1 P) (y (o160p2 P) (y (o288p6 P) z z) z) (y (o224p6 P) z z))) (y (o48p0 P) (y (o80p0 P) (y (o144p2 P) (y (o272p6 P) z z) z) (y (o208p5 P) z z)) (y (o112p1 P) (y (o176p2 P) z z) (y (o240p6 P) z z)))) (y (o24a P) (y (o40p0 P) (y (o72p0 P) (y (o136p2 P) (y (o264p6 P) z z) z) (y (o200p3 P) z z)) (y (o104p1 P) (y (o168p2 P) (y (o296p6 P) z z) z) (y (o232p6 P) z z))) (y (o56p0 P) (y (o88p1 P) (y (o152p2 P) (y (o280p6 P) z z) z) (y (o216p6 P) z z)) (y (o120p2 P) (y (o184p3 P) z z) (y (o248p6 P) z z))))) (y (o12a P) (y (o20a P) (y (o36p0 P) (y (o68p0 P) (y (o132p2 P) (y (o260p6 P) z z) z) (y (o196p3 P) z z)) (y (o100p1 P) (y (o164p2 P) (y (o292p6 P) z z) z) (y (o228p6 P) z z))) (y (o52p0 P) (y (o84p1 P) (y (o148p2 P) (y (o276p6 P) z z) z) (y (o212p6 P) z z)) (y (o116p2 P) (y (o180p3 P) z z) (y (o244p6 P) z z)))) (y (o28a P) (y (o44p0 P) (y (o76p0 P) (y (o140p2 P) (y (o268p6 P) z z) z) (y (o204p3 P) z z)) (y (o108p1 P) (y (o172p2 P) (y (o300p6 P) z z) z) (y (o236p6 P) z z))) (y (o60p0 P) (y (o92p1 P) (y (o156p2 P) (y (o284p6 P) z z) z) (y (o220p6 P) z z)) (y (o124p2 P) (y (o188p3 P) z z) (y (o252p6 P) z z)))))) (y (o6a P) (y (o10a P) (y (o18a P) (y (o34p0 P) (y (o66p0 P) (y (o130p2 P) (y (o258p6 P) z z) z) (y (o194p3 P) z z)) (y (o98p1 P) (y (o162p2 P) (y (o290p6 P) z z) z) (y (o226p6 P) z z))) (y (o50p0 P) (y (o82p0 P) (y (o146p2 P) (y (o274p6 P) z z) z) (y (o210p6 P) z z)) (y (o114p2 P) (y (o178p2 P) z z) (y (o242p6 P) z z)))) (y (o26a P) (y (o42p0 P) (y (o74p0 P) (y (o138p2 P) (y (o266p6 P) z z) z) (y (o202p3 P) z z)) (y (o106p1 P) (y (o170p2 P) (y (o298p6 P) z z) z) (y (o234p6 P) z z))) (y (o58p0 P) (y (o90p1 P) (y (o154p2 P) (y (o282p6 P) z z) z) (y (o218p6 P) z z)) (y (o122p2 P) (y (o186p3 P) z z) (y (o250p6 P) z z))))) (y (o14a P) (y (o22a P) (y (o38p0 P) (y (o70p0 P) (y (o134p2 P) (y (o262p6 P) z z) z) (y (o198p3 P) z z)) (y (o102p1 P) (y (o166p2 P) (y (o294p6 P) z z) z) (y (o230p6 P) z z))) (y (o54p0 P) (y (o86p1 P) (y (o150p2 P) (y (o278p6 P) z z) z) (y (o214p6 P) z z)) (y (o118p2 P) (y (o182p2 P) z z) (y (o246p6 P) z z)))) (y (o30p6 P) (y (o46p0 P) (y (o78p0 P) (y (o142p2 P) (y (o270p6 P) z z) z) (y (o206p3 P) z z)) (y (o110p1 P) (y (o174p2 P) (y (o302p6 P) z z) z) (y (o238p6 P) z z))) (y (o62p0 P) (y (o94p1 P) (y (o158p2 P) (y (o286p6 P) z z) z) (y (o222p6 P) z z)) (y (o126p2 P) (y (o190p3 P) z z) (y (o254p6 P) z z))))))))
end
section
noncomputable def lf : Life := {}
noncomputable def ge : Array GenState := #[]
noncomputable def dr : Drawn := {}
noncomputable def hEnv : Env := { scope := pw.main.scope, locals := mainNs, globals := mainNs, cells := [], code := .ref 31, frame := some 32 }
noncomputable def bd : List Stmt := behindTheImports pw
noncomputable def hCode : Code := .body bd hEnv
noncomputable def ps0 : Pos := ⟨0, 0, 0, 0⟩
noncomputable def sh (t : Params → BT) (n k : Nat) (w : World) (os : OsState) : SharedT := { tree := t w.params, n := n, life := lf, gens := ge, drawn := dr, toks := k, os := os }
noncomputable def sts (i n : Nat) : List Stmt := (bd.drop i).take n
theorem seg_fast : @segRunT = @PySem.W.Fast.tw10110043849684766642 := PySem.W.Fast.te10110043849684766642
theorem tab_fast : treeTable = PySem.W.Fast.tw14364793385576792824 := PySem.W.Fast.te14364793385576792824
theorem pc0 (w : World) (os : OsState) : segRunT treeTable pw w 29 (some (.ref 6)) 1 362 (sh tb 33 279 w os) (piecesOf (sts 0 3) hEnv hCode ps0 [topFrame ps0]) = some (.next, sh tp0 83 345 w os, hCode, ⟨6, 0, 23, 54⟩) := by
 rw [seg_fast, tab_fast]; kernel_rfl
theorem pc1 (w : World) (os : OsState) : segRunT treeTable pw w 29 (some (.ref 6)) 1 288 (sh tp0 83 345 w os) (piecesOf (sts 3 1) hEnv hCode ⟨6, 0, 23, 54⟩ [topFrame ps0]) = some (.next, sh tp1 113 388 w os, hCode, ⟨24, 0, 43, 57⟩) := by
 rw [seg_fast, tab_fast]; kernel_rfl
theorem pc2 (w : World) (os : OsState) : segRunT treeTable pw w 29 (some (.ref 6)) 1 900 (sh tp1 113 388 w os) (piecesOf (sts 4 1) hEnv hCode ⟨24, 0, 43, 57⟩ [topFrame ps0]) = some (.next, sh tp2 184 503 w os, hCode, ⟨44, 0, 85, 55⟩) := by
 rw [seg_fast, tab_fast]; kernel_rfl
theorem pc3 (w : World) (os : OsState) : segRunT treeTable pw w 29 (some (.ref 6)) 1 449 (sh tp2 184 503 w os) (piecesOf (sts 5 8) hEnv hCode ⟨44, 0, 85, 55⟩ [topFrame ps0]) = some (.next, sh tp3 207 555 w os, hCode, ⟨97, 0, 97, 5⟩) := by
 rw [seg_fast, tab_fast]; kernel_rfl
theorem pc4 (w : World) (os : OsState) : segRunT treeTable pw w 29 (some (.ref 6)) 1 397 (sh tp3 207 555 w os) (piecesOf (sts 13 44) hEnv hCode ⟨97, 0, 97, 5⟩ [topFrame ps0]) = some (.next, sh tp4 207 643 w os, hCode, ⟨141, 0, 141, 9⟩) := by
 rw [seg_fast, tab_fast]; kernel_rfl
theorem pc5f (w : World) (os : OsState) : segRunT treeTable pw (w.withFollow "special-get-raises" false) 29 (some (.ref 6)) 1 979 (sh tp4 207 643 (w.withFollow "special-get-raises" false) os) (piecesOf (sts 57 1) hEnv hCode ⟨141, 0, 141, 9⟩ [topFrame ps0]) = some (.next, sh tp5 210 740 (w.withFollow "special-get-raises" false) os, hCode, ⟨142, 0, 142, 17⟩) := by
 rw [seg_fast, tab_fast]; kernel_rfl
theorem pc5t (w : World) (os : OsState) : segRunT treeTable pw (w.withFollow "special-get-raises" true) 29 (some (.ref 6)) 1 979 (sh tp4 207 643 (w.withFollow "special-get-raises" true) os) (piecesOf (sts 57 1) hEnv hCode ⟨141, 0, 141, 9⟩ [topFrame ps0]) = some (.next, sh tp5 210 740 (w.withFollow "special-get-raises" true) os, hCode, ⟨142, 0, 142, 17⟩) := by
 rw [seg_fast, tab_fast]; kernel_rfl
theorem pc5 (w : World) (os : OsState) : segRunT treeTable pw w 29 (some (.ref 6)) 1 979 (sh tp4 207 643 w os) (piecesOf (sts 57 1) hEnv hCode ⟨141, 0, 141, 9⟩ [topFrame ps0]) = some (.next, sh tp5 210 740 w os, hCode, ⟨142, 0, 142, 17⟩) :=
 byRow2 "special-get-raises" (P := fun w => segRunT treeTable pw w 29 (some (.ref 6)) 1 979 (sh tp4 207 643 w os) (piecesOf (sts 57 1) hEnv hCode ⟨141, 0, 141, 9⟩ [topFrame ps0]) = some (.next, sh tp5 210 740 w os, hCode, ⟨142, 0, 142, 17⟩)) (fun w => pc5f w os) (fun w => pc5t w os) w
theorem pc6 (w : World) (os : OsState) : segRunT treeTable pw w 29 (some (.ref 6)) 1 450 (sh tp5 210 740 w os) (piecesOf (sts 58 16) hEnv hCode ⟨142, 0, 142, 17⟩ [topFrame ps0]) = some (.next, sh tp6 303 864 w os, hCode, ⟨239, 0, 246, 106⟩) := by
 rw [seg_fast, tab_fast]; kernel_rfl
end
section
noncomputable def H0 (P : Params) : Heap := absHeap (ta P) 29 lf
theorem opn (w : World) : (fencedOpening treeTable pw w 7762).map (fun s => (s.heap, s.gens, s.drawn, s.toks)) = some (H0 w.params, ge, dr, 273) := by
 unfold fencedOpening
 rw [PySem.W.Fast.te10274390034422433532, PySem.W.Fast.te1435165496053646825, PySem.W.Fast.te14289696077712309145, tab_fast]; kernel_rfl
end
section
noncomputable def H1 (P : Params) : Heap := absHeap (tp6 P) 303 lf
noncomputable def s0 (w : World) (os : OsState) : Shared := ⟨H0 w.params, ge, dr, 273, os⟩
theorem size0 (w : World) : ((H0 w.params).isNs mainGlobals && ge.size == 0, (H0 w.params).objs.size, (H0 w.params).nsMap mainGlobals "__annotations__") = (true, 29, some (.ref 6)) := by kernel_rfl
theorem pre0 (w : World) (os : OsState) : topGo treeTable pw w 29 (some (.ref 6)) 12 ⟨H0 w.params, ge, dr, 273, os⟩ (topStub pw) = some ((sh tb 33 279 w os).abs, ⟨denote treeTable hCode, hCode, ps0, [topFrame ps0]⟩) := by
 rw [PySem.W.Fast.te15667345088766844465, PySem.W.Fast.te11892475500146522536, tab_fast]; kernel_rfl
theorem blk0 (w : World) (os : OsState) : segRun treeTable pw w 29 (some (.ref 6)) 1 1 (sh tb 33 279 w os).abs (blockOf bd hEnv hCode ps0 [topFrame ps0]) = some (.next, (sh tb 33 279 w os).abs, hCode, ps0) := by
 rw [PySem.W.Fast.te14374325043358763698, tab_fast]; kernel_rfl
theorem fin0 (w : World) (os : OsState) : topRun treeTable pw w 29 (some (.ref 6)) 2 (sh tp6 303 864 w os).abs (restOf [] hEnv hCode ⟨239, 0, 246, 106⟩ [topFrame ps0]) = some (sh tp6 303 864 w os).abs := by
 rw [PySem.W.Fast.te14082659384304107361, tab_fast]; kernel_rfl
theorem bd_is : bd = sts 0 3 ++ (sts 3 1 ++ (sts 4 1 ++ (sts 5 8 ++ (sts 13 44 ++ (sts 57 1 ++ (sts 58 16 ++ [])))))) := by kernel_rfl
theorem run0 (w : World) (os : OsState) : topRun treeTable pw w 29 (some (.ref 6)) (12 + (1 + (362 + (288 + (900 + (449 + (397 + (979 + (450 + 2))))))))) ⟨H0 w.params, ge, dr, 273, os⟩ (topStub pw) = some ⟨H1 w.params, ge, dr, 864, os⟩ := by
 refine go_top (pre0 w os) ?_
 refine piece_block (blk0 w os) ?_
 rw [bd_is]
 exact piece_app (segRun_of (pc0 w os)) <| piece_app (segRun_of (pc1 w os)) <| piece_app (segRun_of (pc2 w os)) <| piece_app (segRun_of (pc3 w os)) <| piece_app (segRun_of (pc4 w os)) <|
  piece_app (segRun_of (pc5 w os)) <| piece_app (segRun_of (pc6 w os)) (fin0 w os)
end
section
noncomputable def K (P : Params) : Frag := [(0, o0a P), (1, o1a P), (2, o2p1 P), (3, o3p6 P), (4, o4a P), (5, o5a P), (6, o6a P), (7, o7a P), (8, o8a P), (9, o9a P), (10, o10a P), (11, o11a P), (12, o12a P), (13, o13a P), (14, o14a P), (15, o15a P), (16, o16a P), (17, o17a P), (18, o18a P), (19, o19a P), (20, o20a P), (21, o21a P), (22, o22a P), (23, o23a P), (24, o24a P), (25, o25a P), (26, o26a P), (27, o27a P), (28, o28a P), (29, o29b P), (30, o30p6 P), (31, o31b P), (32, o32b P), (33, o33p0 P), (34, o34p0 P), (35, o35p0 P), (36, o36p0 P), (37, o37p0 P), (38, o38p0 P), (39, o39p0 P), (40, o40p0 P), (41, o41p0 P), (42, o42p0 P), (43, o43p0 P), (44, o44p0 P), (45, o45p0 P), (46, o46p0 P), (47, o47p0 P), (48, o48p0 P), (49, o49p0 P), (50, o50p0 P), (51, o51p0 P), (52, o52p0 P), (53, o53p0 P), (54, o54p0 P), (55, o55p0 P), (56, o56p0 P), (57, o57p0 P), (58, o58p0 P), (59, o59p0 P), (60, o60p0 P), (61, o61p0 P), (62, o62p0 P), (63, o63p0 P), (64, o64p0 P), (65, o65p0 P), (66, o66p0 P), (67, o67p0 P), (68, o68p0 P), (69, o69p0 P), (70, o70p0 P), (71, o71p0 P), (72, o72p0 P), (73, o73p0 P), (74, o74p0 P), (75, o75p0 P), (76, o76p0 P), (77, o77p0 P), (78, o78p0 P), (79, o79p0 P), (80, o80p0 P), (81, o81p0 P), (82, o82p0 P), (83, o83p1 P), (84, o84p1 P), (85, o85p1 P), (86, o86p1 P), (87, o87p1 P), (88, o88p1 P), (89, o89p1 P), (90, o90p1 P), (91, o91p1 P), (92, o92p1 P), (93, o93p1 P), (94, o94p1 P), (95, o95p1 P), (96, o96p1 P), (97, o97p1 P), (98, o98p1 P), (99, o99p1 P), (101, o101p1 P), (102, o102p1 P), (103, o103p1 P), (104, o104p1 P), (105, o105p1 P), (106, o106p1 P), (107, o107p1 P), (108, o108p1 P), (109, o109p1 P), (110, o110p1 P), (111, o111p1 P), (112, o112p1 P), (113, o113p2 P), (114, o114p2 P), (115, o115p2 P), (116, o116p2 P), (117, o117p2 P), (118, o118p2 P), (119, o119p2 P), (120, o120p2 P), (121, o121p2 P), (122, o122p2 P), (123, o123p2 P), (124, o124p2 P), (125, o125p2 P), (126, o126p2 P), (127, o127p2 P), (128, o128p2 P), (129, o129p2 P), (130, o130p2 P), (131, o131p2 P), (132, o132p2 P), (133, o133p2 P), (134, o134p2 P), (135, o135p2 P), (136, o136p2 P), (137, o137p2 P), (138, o138p2 P), (139, o139p2 P), (140, o140p2 P), (141, o141p2 P), (142, o142p2 P), (143, o143p2 P), (144, o144p2 P), (145, o145p2 P), (146, o146p2 P), (147, o147p2 P), (148, o148p2 P), (149, o149p2 P), (150, o150p2 P), (151, o151p2 P), (152, o152p2 P), (153, o153p2 P), (154, o154p2 P), (155, o155p2 P), (156, o156p2 P), (157, o157p2 P), (158, o158p2 P), (159, o159p2 P), (160, o160p2 P), (161, o161p2 P), (162, o162p2 P), (163, o163p2 P), (164, o164p2 P), (165, o165p2 P), (166, o166p2 P), (167, o167p2 P), (168, o168p2 P), (169, o169p2 P), (170, o170p2 P), (171, o171p2 P), (172, o172p2 P), (173, o173p2 P), (174, o174p2 P), (175, o175p2 P), (176, o176p2 P), (177, o177p2 P), (178, o178p2 P), (179, o179p2 P), (180, o180p3 P), (181, o181p2 P), (182, o182p2 P), (183, o183p2 P), (184, o184p3 P), (185, o185p3 P), (186, o186p3 P), (187, o187p3 P), (188, o188p3 P), (189, o189p3 P), (190, o190p3 P), (191, o191p3 P), (192, o192p3 P), (193, o193p3 P), (194, o194p3 P), (195, o195p3 P), (196, o196p3 P), (197, o197p3 P), (198, o198p3 P), (199, o199p3 P), (200, o200p3 P), (201, o201p3 P), (202, o202p3 P), (203, o203p3 P), (204, o204p3 P), (205, o205p3 P), (206, o206p3 P), (207, o207p5 P), (208, o208p5 P), (209, o209p5 P), (210, o210p6 P), (211, o211p6 P), (212, o212p6 P), (213, o213p6 P), (214, o214p6 P), (215, o215p6 P), (216, o216p6 P), (217, o217p6 P), (218, o218p6 P), (219, o219p6 P), (220, o220p6 P), (221, o221p6 P), (222, o222p6 P), (223, o223p6 P), (224, o224p6 P), (225, o225p6 P), (226, o226p6 P), (227, o227p6 P), (228, o228p6 P), (229, o229p6 P), (230, o230p6 P), (231, o231p6 P), (232, o232p6 P), (233, o233p6 P), (234, o234p6 P), (235, o235p6 P), (236, o236p6 P), (237, o237p6 P), (238, o238p6 P), (239, o239p6 P), (240, o240p6 P), (241, o241p6 P), (242, o242p6 P), (243, o243p6 P), (244, o244p6 P), (245, o245p6 P), (246, o246p6 P), (247, o247p6 P), (248, o248p6 P), (249, o249p6 P), (250, o250p6 P), (251, o251p6 P), (252, o252p6 P), (253, o253p6 P), (254, o254p6 P), (255, o255p6 P), (256, o256p6 P), (257, o257p6 P), (258, o258p6 P), (259, o259p6 P), (260, o260p6 P), (261, o261p6 P), (262, o262p6 P), (263, o263p6 P), (264, o264p6 P), (265, o265p6 P), (266, o266p6 P), (267, o267p6 P), (268, o268p6 P), (269, o269p6 P), (270, o270p6 P), (271, o271p6 P), (272, o272p6 P), (273, o273p6 P), (274, o274p6 P), (275, o275p6 P), (276, o276p6 P), (277, o277p6 P), (278, o278p6 P), (279, o279p6 P), (280, o280p6 P), (281, o281p6 P), (282, o282p6 P), (283, o283p6 P), (284, o284p6 P), (285, o285p6 P), (286, o286p6 P), (287, o287p6 P), (288, o288p6 P), (289, o289p6 P), (290, o290p6 P), (291, o291p6 P), (292, o292p6 P), (293, o293p6 P), (294, o294p6 P), (295, o295p6 P), (296, o296p6 P), (297, o297p6 P), (298, o298p6 P), (299, o299p6 P), (300, o300p6 P), (301, o301p6 P), (302, o302p6 P)]
noncomputable def kAs : List Addr := [0, 1, 2, 3, 4, 5, 6, 7, 8, 9, 10, 11, 12, 13, 14, 15, 16, 17, 18, 19, 20, 21, 22, 23, 24, 25, 26, 27, 28, 29, 30, 31, 32, 33, 34, 35, 36, 37, 38, 39, 40, 41, 42, 43, 44, 45, 46, 47, 48, 49, 50, 51, 52, 53, 54, 55, 56, 57, 58, 59, 60, 61, 62, 63, 64, 65, 66, 67, 68, 69, 70, 71, 72, 73, 74, 75, 76, 77, 78, 79, 80, 81, 82, 83, 84, 85, 86, 87, 88, 89, 90, 91, 92, 93, 94, 95, 96, 97, 98, 99, 101, 102, 103, 104, 105, 106, 107, 108, 109, 110, 111, 112, 113, 114, 115, 116, 117, 118, 119, 120, 121, 122, 123, 124, 125, 126, 127, 128, 129, 130, 131, 132, 133, 134, 135, 136, 137, 138, 139, 140, 141, 142, 143, 144, 145, 146, 147, 148, 149, 150, 151, 152, 153, 154, 155, 156, 157, 158, 159, 160, 161, 162, 163, 164, 165, 166, 167, 168, 169, 170, 171, 172, 173, 174, 175, 176, 177, 178, 179, 180, 181, 182, 183, 184, 185, 186, 187, 188, 189, 190, 191, 192, 193, 194, 195, 196, 197, 198, 199, 200, 201, 202, 203, 204, 205, 206, 207, 208, 209, 210, 211, 212, 213, 214, 215, 216, 217, 218, 219, 220, 221, 222, 223, 224, 225, 226, 227, 228, 229, 230, 231, 232, 233, 234, 235, 236, 237, 238, 239, 240, 241, 242, 243, 244, 245, 246, 247, 248, 249, 250, 251, 252, 253, 254, 255, 256, 257, 258, 259, 260, 261, 262, 263, 264, 265, 266, 267, 268, 269, 270, 271, 272, 273, 274, 275, 276, 277, 278, 279, 280, 281, 282, 283, 284, 285, 286, 287, 288, 289, 290, 291, 292, 293, 294, 295, 296, 297, 298, 299, 300, 301, 302]
noncomputable def loose : List Str := (["defaultdict", "_wall", "_tuplegetter", "FreezableDefaultDict", "Pair", "ENDMARKER", "LPAR", "RPAR", "LSQB", "RSQB", "COLON", "COMMA", "SEMI", "PLUS", "MINUS", "STAR", "SLASH", "VBAR", "AMPER", "LESS"] : List Str) ++ (["GREATER", "EQUAL", "DOT", "PERCENT", "LBRACE", "RBRACE", "EQEQUAL", "NOTEQUAL", "LESSEQUAL", "GREATEREQUAL", "TILDE", "CIRCUMFLEX", "LEFTSHIFT", "RIGHTSHIFT", "DOUBLESTAR", "PLUSEQUAL", "MINEQUAL", "STAREQUAL", "SLASHEQUAL", "PERCENTEQUAL"] : List Str) ++ (["AMPEREQUAL", "VBAREQUAL", "CIRCUMFLEXEQUAL", "LEFTSHIFTEQUAL", "RIGHTSHIFTEQUAL", "DOUBLESTAREQUAL", "DOUBLESLASH", "DOUBLESLASHEQUAL", "AT", "ATEQUAL", "RARROW", "ELLIPSIS", "COLONEQUAL", "EXCLAMATION", "NT_OFFSET", "EXACT_TOKEN_TYPES", "ISTERMINAL", "ISNONTERMINAL", "ISEOF", "_law_node"] : List Str) ++ (["_law_walk", "_law_shut", "_law_listed", "_law_longest", "_law_run", "_law_gone", "_law_drawn", "_law_best", "_law_plain", "_law_deeds"] : List Str)
noncomputable def vw : Program := { pw with main := { pw.main with body := [topS 74] } }
noncomputable def hook : Hook where
 α := List (Option Obj) × Option Obj × Nat
 obs := fun s => (kAs.map s.heap.get?, s.heap.get? 100, s.heap.objs.size)
 val := fun w => ((K w.params).map fun p => some p.2, some (tabObj #[]), 303)
 says := fun w h => (K w.params).In h ∧ h.get? 100 = some (tabObj #[]) ∧ 303 ≤ h.objs.size
 of := fun w s x => ⟨Frag.in_of (by kernel_rfl) (Prod.mk.inj x).1, (Prod.mk.inj (Prod.mk.inj x).2).1, Nat.le_of_eq (Prod.mk.inj (Prod.mk.inj x).2).2.symm⟩
 keeps := fun w h h' x k => ⟨x.1.keeps k, k _ _ x.2.1, by
  have h302 := x.1 302 (o302p6 w.params) (by kernel_rfl)
  exact Heap.lt_size (k _ _ h302)⟩
noncomputable abbrev row : RowW := (PySem.Challenge.rw_in0017_01).row.toRowW
noncomputable abbrev Xt : Shared → Bool := fun s => xlAt vw [] s && recOk (RowW.records row) s
theorem lk1 (w : World) (os : OsState) : (staticsOk (importedModules pw.main.body) (H0 w.params) (H1 w.params) && namesBound pw (H1 w.params) && gensDone ⟨H1 w.params, ge, dr, 864, os⟩ && laidKept (H0 w.params) (H1 w.params)) = true := by
 rw [PySem.W.Fast.te5923862056798008813]; kernel_rfl
theorem lk2 (w : World) (os : OsState) : hook.obs ⟨H1 w.params, ge, dr, 864, os⟩ = hook.val w := by kernel_rfl
theorem lk3 (w : World) (os : OsState) : openSeen vw loose (importedModules pw.main.body) Xt true ⟨H1 w.params, ge, dr, 864, os⟩ = openGood vw loose := by
 rw [PySem.W.Fast.te4187177175401517315, PySem.W.Fast.te5923862056798008813]; kernel_rfl
end
section
noncomputable abbrev lw : OpenLaw := PySem.Challenge.rw_in0017_01
theorem lo1 : (sreFenced pw.main && ((moduleNames pw.main.body).isEmpty || lookedIntoSs (moduleNames pw.main.body) pw.main.body)) = true := by kernel_rfl
theorem lo2 : namesResolve pw = true := by rw [PySem.W.Fast.te8377067652309620493]; kernel_rfl
theorem lo3 : (pw.boundNames.all fun n => !worldNames.contains n) = true := by kernel_rfl
theorem lo4 : noRoadLSs { strict := !(importedModules pw.main.body).all cThrough.contains, foot := none, bare := (["vars", "dir", "locals"] : List Str).filter (readsOut pw pw.main.body) } pw.main.body = true := by rw [PySem.W.Fast.te8326940854005059898, PySem.W.Fast.te5923862056798008813, PySem.W.Fast.te13343964577679436407, PySem.W.Fast.te17691160309236699985]; kernel_rfl
theorem lo5 : (namesMeet pw pw.main.body fun _ n => attrL n) = true := by rw [PySem.W.Fast.te17119622794617984870, PySem.W.Fast.te17868728402115742887]; kernel_rfl
theorem lo : looksOpen pw = true := look_both (look_both (look_both (look_both lo1 lo2) lo3) lo4) lo5
theorem sa0 : (lw.row.prog.boundNames.contains lw.row.name) = true ∧ (!startupNames.contains lw.row.name) = true := ⟨by kernel_rfl, by kernel_rfl⟩
theorem sa1 : lw.row.wellSaid = true := by
 refine look_both (look_both ?_ sa0.1) sa0.2
 refine look_both (look_both (look_both (look_both (look_both (look_both (look_both (look_both (look_both (look_both (look_both (look_both (look_both lo ?_) ?_) ?_) ?_) ?_) ?_) ?_) ?_) ?_) ?_) ?_) ?_) ?_
 all_goals kernel_rfl
theorem sa2 : lw.footing.all footLine = true := by kernel_rfl
theorem sa3 : noClassBlock lw.prog lw.footing = true := by kernel_rfl
theorem sa4 : noRoadLSs { strict := true, foot := some lw.bound', writes := lw.writes, may := lw.may } lw.footing = true := by rw [PySem.W.Fast.te8326940854005059898, PySem.W.Fast.te797321630700447069]; kernel_rfl
theorem sa5 : defStands lw.about lw.above = true := by kernel_rfl
theorem sa6 : lw.namesIt = true := by kernel_rfl
theorem sa7 : (lw.bound'.all fun n => !builtinNamed n || lw.about == [n] || !lw.reads n) = true := by rw [PySem.W.Fast.te797321630700447069, PySem.W.Fast.te6984425678791042302, PySem.W.Fast.named_eq]; kernel_rfl
theorem sa8 : (!lw.writes || (lw.prog.main.body.flatMap importedNames).all fun n => !lw.reads n) = true := by kernel_rfl
theorem sa9 : ((lw.prog.main.body.flatMap importedNames).all fun n => !lw.reads n || (drawsOf n lw.prog.main.body).all fun mn => mn.2 != ("attrgetter" : Str) && mn.2 != ("methodcaller" : Str)) = true := by kernel_rfl
theorem sa10 : (namesMeet lw.prog lw.footing fun sc n => (!(["type", "isinstance", "issubclass", "getattr", "hasattr"] : List Str).contains n || sc.names.lookup n == some .globalImplicit) &&
  (lw.may != some n || sc.kind == .module || sc.names.lookup n == some .globalImplicit)) = true := by kernel_rfl
theorem sa11 : (namesMeet lw.prog lw.above fun _ n => !lw.own.contains n) = true := by kernel_rfl
theorem sa12 : (namesMeet lw.prog lw.footing fun sc n => sc.kind == .module || sc.names.lookup n != some .globalExplicit) = true := by kernel_rfl
theorem said : OpenLaw.wellSaid PySem.Challenge.rw_in0017_01 = true := by
 refine look_both (look_both (look_both (look_both (look_both (look_both (look_both (look_both (look_both (look_both (look_both (look_both (look_both (look_both (look_both (look_both (look_both (look_both sa1 ?_) sa2) sa3) ?_) ?_) sa4) sa5) sa6) ?_) sa7) sa8) sa9) sa10) ?_) ?_) ?_) sa11) sa12
 all_goals kernel_rfl
end
section
theorem left0 : LeftO pw vw loose Xt hook.obs hook.val 7762 :=
 LeftO.of_pieces (M := 12 + (1 + (362 + (288 + (900 + (449 + (397 + (979 + (450 + 2))))))))) (fun w => opn w) (fun w => size0 w) (fun w os => run0 w os) (by decide +kernel)
  (fun w => funext fun os => by rw [lk1, lk2, lk3])
theorem holds_of (walk : ∀ d, d.name = Str.ofString "law" → WalkO vw loose (XL vw []) hook.says row d [] fun f vs => PySem.call f vs) : PySem.Challenge.rw_in0017_01.Holds := by
 w_on
 refine holds_law said fun said => ?_
 refine holds_open (q := vw) (loose := loose) (Xt := Xt) (XP := XL vw []) (Yf := hook.obs) (Ya := hook.val) (YP := hook.says) (N := 7762) left0 hook.of hook.keeps (fun s e => xl_of s (Bool.and_eq_true_iff.mp e).1) XL.keeps (by rfl) (by rfl) (by rfl) (fun s e => recFacts_of (Bool.and_eq_true_iff.mp e).2) (by first | rfl) (by first | assumption | decide +kernel) (by decide +kernel) ⟨rfl, rfl, rfl, rfl, rfl, by decide +kernel⟩ ?hw ?hc
 case hw => w_witness2
 case hc => exact walk _ rfl
end
end Mine
end
section
open PySem PySem.W PyProof.Rows PySem.Calls
namespace Mine
section
noncomputable abbrev AR (d u : Nat) : Around := { handled := none, depth := d, frames := none, guards := none, units := u }
noncomputable abbrev Md (w : World) : Model := model pw w
section
variable {α : Type} {M : Model} {A A' : Around} {E : Value → Shared → Prop} {s : Shared} {Q : α → Shared → Prop}
theorem weaken {t : Sem α} {d u : Nat} (hh : A.handled = none) (hd : A.depth ≤ d) (hu : A.units ≤ u) (h : wpAny M (AR d u) t Q E s) : wpAny M A t Q E s :=
 fun Γ p hΓ => h Γ p ⟨hΓ.1.trans hh, Nat.le_trans hΓ.2.1 hd, fun _ e => (nomatch e), fun _ e => (nomatch e), Nat.le_trans hΓ.2.2.2.2 hu⟩
theorem weakenC {c : Code} {R : Result → Shared → Prop} {d u : Nat} (hh : A.handled = none) (hd : A.depth ≤ d) (hu : A.units ≤ u) (h : codeAny M (AR d u) c R s) : codeAny M A c R s :=
 fun Γ p hc hΓ => h Γ p hc ⟨hΓ.1.trans hh, Nat.le_trans hΓ.2.1 hd, fun _ e => (nomatch e), fun _ e => (nomatch e), Nat.le_trans hΓ.2.2.2.2 hu⟩
end
structure Bs (w : World) (h : Heap) : Prop where
 k : (K w.params).In h
 b : ∃ mb, h.Ns builtinsNs mb ∧ ∀ x : Str, x ≠ "__name__" → mb x = bootBuiltins x
 f : ∀ b, b < 303 → ∃ o, h.get? b = some o
theorem Bs.n {w : World} {h : Heap} (B : Bs w h) : 303 ≤ h.objs.size := let ⟨_, e⟩ := B.f 302 (by decide); Heap.lt_size e
theorem Bs.new {w : World} {h : Heap} (B : Bs w h) {a : Nat} (e : h.get? a = none) : 303 ≤ a := by
 rcases Nat.lt_or_ge a 303 with l | l
 ·obtain ⟨o, eo⟩ := B.f a l
  rw [e] at eo; cases eo
 ·exact l
theorem K_lt : ∀ (P : Params) (a : Addr) (o : Obj), (K P).lookup a = some o → a < 303 ∧ a ≠ 100 := by
 intro P a o e
 have hk : ∀ l : Frag, (l.map (·.1)).all (fun a => Nat.blt a 303 && a != 100) = true → l.lookup a = some o → a < 303 ∧ a ≠ 100 := by
  intro l
  induction l with
  | nil => intro _ e; cases e
  | cons p r ih =>
   intro hl e
   rw [List.map_cons, List.all_cons, Bool.and_eq_true] at hl
   simp only [List.lookup] at e
   split at e
   ·rename_i q
    have : a = p.1 := beq_iff_eq.mp q
    subst this
    have := hl.1
    rw [Bool.and_eq_true] at this
    exact ⟨Nat.le_of_ble_eq_true this.1, by simpa using this.2⟩
   ·exact ih hl.2 e
 exact hk _ (by show ((kAs).all _) = true; decide +kernel) e
theorem Bs.mono {w : World} {h h' : Heap} (B : Bs w h) (k : ∀ b o, b < 303 → b ≠ 100 → h.get? b = some o → h'.get? b = some o) (t : ∃ o, h'.get? 100 = some o) : Bs w h' := by
 refine ⟨fun a o e => k a o (K_lt _ _ _ e).1 (K_lt _ _ _ e).2 (B.k a o e), ?_, fun b hb => ?_⟩
 ·obtain ⟨mb, ⟨o, es, ep, ho, r⟩, h2⟩ := B.b
  exact ⟨mb, ⟨o, es, ep, k _ _ (by decide) (by decide) ho, r⟩, h2⟩
 ·by_cases e : b = 100
  ·subst e; exact t
  ·obtain ⟨o, ho⟩ := B.f b hb
   exact ⟨o, k b o hb e ho⟩
theorem Bs.grow {w : World} {h h' : Heap} (B : Bs w h) (k : ∀ b o, h.get? b = some o → h'.get? b = some o) : Bs w h' :=
 B.mono (fun b o _ _ e => k b o e) (let ⟨o, ho⟩ := B.f 100 (by decide); ⟨o, k _ _ ho⟩)
theorem Bs.nsAt {w : World} {h : Heap} (B : Bs w h) {a : Addr} (e : nsOkIn (K w.params) a = true) : h.Ns a (h.nsMap a) := .of_isNs (isNs_of_in B.k e)
theorem Bs.nolimit {w : World} {h : Heap} (B : Bs w h) : h.NoLimit :=
 ⟨_, B.nsAt (by kernel_rfl), nsMap_none_of_in B.k (by kernel_rfl) (by kernel_rfl)⟩
noncomputable abbrev nodeO (es : Array DictEntry) (ep d : Nat) : Obj := ⟨.ref 108, some d, .dict es ep, #[some (.ref 237)]⟩
theorem node_inst {h : Heap} {a d ep : Nat} {es : Array DictEntry} {od : Obj} (ha : h.get? a = some (nodeO es ep d)) (hd : h.get? d = some od) : InstAt h a (nodeO es ep d) 108 (some od) := ⟨ha, rfl, rfl, hd⟩
theorem node_type {M : Model} {h : Heap} {a d ep : Nat} {es : Array DictEntry} (ha : h.get? a = some (nodeO es ep d)) : Looks M h (typeOf (.ref a)) (.ref 108) := (Looks.ld (part := none) ha).andThen .now
theorem node_special {w : World} {M : Model} {h : Heap} {a d ep : Nat} {es : Array DictEntry} {name : Str} {r : Option Value} (B : Bs w h) (ha : h.get? a = some (nodeO es ep d)) (e : findIn (K w.params) (.ref 108) name = some r) :
  Looks M h (specialOf (.ref a) name) r := (node_type ha).andThen (looks_findIn B.k e)
theorem node_isa {w : World} {M : Model} {h : Heap} {a d ep : Nat} {es : Array DictEntry} {t : Value} {r : Bool} (B : Bs w h) (ha : h.get? a = some (nodeO es ep d)) (e : subIn (K w.params) (.ref 108) t = some r) :
  Looks M h (isInstance (.ref a) t) r := (node_type ha).andThen (looks_subIn B.k e)
theorem f_getitem (P : Params) : findIn (K P) (.ref 108) "__getitem__" = some (some (.builtin "dict.__getitem__")) := by kernel_rfl
theorem f_setitem (P : Params) : findIn (K P) (.ref 108) "__setitem__" = some (some (.builtin "dict.__setitem__")) := by kernel_rfl
theorem f_iter (P : Params) : findIn (K P) (.ref 108) "__iter__" = some (some (.builtin "dict.__iter__")) := by kernel_rfl
theorem f_len (P : Params) : findIn (K P) (.ref 108) "__len__" = some (some (.builtin "dict.__len__")) := by kernel_rfl
theorem f_missing (P : Params) : findIn (K P) (.ref 108) "__missing__" = some (some (.ref 98)) := by kernel_rfl
theorem s_dict (P : Params) : subIn (K P) (.ref 108) (.type "dict") = some true := by kernel_rfl
end
section
noncomputable abbrev sk (w : World) : KeyKind pw w Str := strKind pw w
noncomputable abbrev KVs := List (Str × Value)
structure DK (w : World) (es : Array DictEntry) (kvs : KVs) : Prop where
 keys : KeysOf (sk w) es
 pairs : Pairs (sk w) es.toList kvs
 nodup : (kvs.map (·.1)).Nodup
theorem DK.nil (w : World) : DK w #[] [] := ⟨fun _ he => by simp at he, Pairs.nil, List.nodup_nil⟩
theorem DK.size {w : World} {es : Array DictEntry} {kvs : KVs} (d : DK w es kvs) : es.size = kvs.length := by
 have e1 := d.pairs.length
 have e2 : es.toList.length = es.size := by simp
 omega
def DAt (w : World) (h : Heap) (a : Addr) (c : Value) (dd : Option Addr) (sl : Array (Option Value)) (kvs : KVs) : Prop :=
 ∃ es ep, h.get? a = some ⟨c, dd, .dict es ep, sl⟩ ∧ DK w es kvs
theorem DAt.at {w : World} {h h' : Heap} {a : Addr} {c : Value} {dd : Option Addr} {sl : Array (Option Value)} {kvs : KVs} (x : DAt w h a c dd sl kvs) (k : ∀ o, h.get? a = some o → h'.get? a = some o) : DAt w h' a c dd sl kvs :=
 let ⟨es, ep, e, r⟩ := x; ⟨es, ep, k _ e, r⟩
structure NodeAt (w : World) (h : Heap) (a d : Addr) (kvs : KVs) : Prop where
 lo : 303 ≤ a
 at_ : DAt w h a (.ref 108) (some d) #[some (.ref 237)] kvs
structure DictAt (w : World) (h : Heap) (a : Addr) (kvs : KVs) : Prop where
 lo : 303 ≤ a
 at_ : DAt w h a (.type "dict") none #[] kvs
theorem str_is (w : World) (x : Str) (t : Tok) : (sk w).is x (.str x t) = true := strKind_is pw w x t
section
variable {w : World} {A : Around} {E : Value → Shared → Prop} {s : Shared} {a : Addr} {c : Value} {dd : Option Addr} {sl : Array (Option Value)} {kvs : KVs} {x : Str} {t : Tok}
theorem dk_idx {es : Array DictEntry} (D : DK w es kvs) : (es.findIdx? fun e => (sk w).is x e.key) = kvs.findIdx? fun kv => decide (kv.1 = x) := by
 rw [← D.pairs.findIdx x]; obtain ⟨l⟩ := es; simp
theorem dict_get {Q : Option Value → Shared → Prop} (D : DAt w s.heap a c dd sl kvs) (h : Q (valueAt kvs x) { s with toks := s.toks + 1 }) : wpAny (Md w) A (dictGet a (.str x t)) Q E s := by
 obtain ⟨es, ep, ho, D⟩ := D
 unfold dictGet
 refine wpAny_holding ?_
 refine wpAny_bind ((sk w).pyHash (str_is w x t) (wpAny_bind (wpAny_dictFind_of (s := { s with toks := s.toks + 1 }) (str_is w x t) ho rfl D.keys ?_)))
 have hl : (es.toList.findIdx? fun e => (sk w).is x e.key) = es.findIdx? fun e => (sk w).is x e.key := by obtain ⟨l⟩ := es; simp
 cases hi : es.findIdx? fun e => (sk w).is x e.key with
 | none =>
  rw [show valueAt kvs x = none from by
   rw [← D.pairs.find x]
   have : (es.toList.find? fun e => (sk w).is x e.key) = none := by
    rw [List.find?_eq_none]
    intro e he
    simpa using Array.findIdx?_eq_none_iff.mp hi e (Array.mem_toList_iff.mp he)
   rw [this]; rfl] at h
  exact wpAny_pure h
 | some i =>
  obtain ⟨e, he, _, hv⟩ := D.pairs.at (hl.trans hi)
  rw [hv] at h
  refine wpAny_bind (wpAny_dictEntries (s := { s with toks := s.toks + 1 }) ho rfl ?_)
  have : es[i]? = some e := by rw [← he]; obtain ⟨l⟩ := es; simp
  rw [this]
  exact wpAny_pure h
theorem dict_set {v : Value} {Q : Unit → Shared → Prop} (D : DAt w s.heap a c dd sl kvs) (hsz : kvs.length ≤ sizeLine)
  (h : ∀ h', DAt w h' a c dd sl (stored kvs x v) → Heap.SameBut a s.heap h' → Q () { s with heap := h', toks := s.toks + 1 }) : wpAny (Md w) A (dictSet a (.str x t) v) Q E s := by
 obtain ⟨es, ep, ho, D⟩ := D
 have hes : es.size ≤ sizeLine := by rw [D.size]; exact hsz
 unfold dictSet
 refine wpAny_holding ?_
 refine wpAny_bind ((sk w).pyHash (str_is w x t) ?_)
 unfold dictSetHashed
 refine wpAny_holding ?_
 refine wpAny_bind (wpAny_dictFind_of (s := { s with toks := s.toks + 1 }) (str_is w x t) ho rfl D.keys ?_)
 have hidx := dk_idx (x := x) D
 cases hi : es.findIdx? fun e => (sk w).is x e.key with
 | some i =>
  refine wpAny_bind (wpAny_rule (wpAny_bind (wpAny_updateDict (s := { s with toks := s.toks + 1 }) ho rfl (wpAny_point (h _ ⟨_, ep, Heap.get?_update_self _ ho rfl, D.keys.modify _ _, ?_, ?_⟩ (Heap.SameBut.update ..))))))
  ·rw [stored, if_pos (any_of_findIdx_some (hidx ▸ hi))]
   have hl : (es.toList.findIdx? fun e => (sk w).is x e.key) = some i := by rw [← hi]; obtain ⟨l⟩ := es; simp
   have := D.pairs.modify D.nodup hl v
   obtain ⟨l⟩ := es
   simpa using this
  ·rw [stored, if_pos (any_of_findIdx_some (hidx ▸ hi)), keys_map_store]; exact D.nodup
 | none =>
  have hnot : x ∉ kvs.map (·.1) := not_mem_of_findIdx_none (hidx ▸ hi)
  have hany : ¬ (kvs.any fun kv => decide (kv.1 = x)) = true := by
   rw [List.any_eq_true]; rintro ⟨kv, hkv, he⟩
   exact hnot (List.mem_map.mpr ⟨kv, hkv, of_decide_eq_true he⟩)
  refine wpAny_bind (wpAny_rule (wpAny_updateDictKeys (hz := hes) (s := { s with toks := s.toks + 1 }) ho rfl (h _ ⟨_, ep + 1, Heap.get?_update_self _ ho rfl, D.keys.push (str_is w x t) _, ?_, ?_⟩ (Heap.SameBut.update ..))))
  ·rw [stored, if_neg hany]
   have := D.pairs.append (str_is w x t) ((sk w).hash x) v
   obtain ⟨l⟩ := es
   simpa using this
  ·rw [stored, if_neg hany, List.map_append, List.nodup_append]
   refine ⟨D.nodup, by simp, ?_⟩
   intro a ha b hb
   simp only [List.map_cons, List.map_nil, List.mem_singleton] at hb
   subst hb
   exact fun e => hnot (e ▸ ha)
theorem dict_take {Q : Option DictEntry → Shared → Prop} (D : DAt w s.heap a c dd sl kvs) (hsz : kvs.length ≤ sizeLine)
  (hn : valueAt kvs x = none → Q none { s with toks := s.toks + 1 })
  (hs : ∀ e, valueAt kvs x = some e.val → ∀ h', DAt w h' a c dd sl (without kvs x) → Heap.SameBut a s.heap h' → Q (some e) { s with heap := h', toks := s.toks + 1 }) :
  wpAny (Md w) A (Builtin.Dict.takeOut a (.str x t)) Q E s := by
 obtain ⟨es, ep, ho, D⟩ := D
 have hes : es.size ≤ sizeLine := by rw [D.size]; exact hsz
 unfold Builtin.Dict.takeOut
 refine wpAny_holding ?_
 refine wpAny_bind ((sk w).pyHash (str_is w x t) ?_)
 refine wpAny_bind (wpAny_dictFind_of (s := { s with toks := s.toks + 1 }) (str_is w x t) ho rfl D.keys ?_)
 have hl : (es.toList.findIdx? fun e => (sk w).is x e.key) = es.findIdx? fun e => (sk w).is x e.key := by obtain ⟨l⟩ := es; simp
 cases hi : es.findIdx? fun e => (sk w).is x e.key with
 | none =>
  refine wpAny_pure (hn ?_)
  rw [← D.pairs.find x]
  have : (es.toList.find? fun e => (sk w).is x e.key) = none := by
   rw [List.find?_eq_none]
   intro e he
   simpa using Array.findIdx?_eq_none_iff.mp hi e (Array.mem_toList_iff.mp he)
  rw [this]; rfl
 | some i =>
  obtain ⟨e, he, _, hv⟩ := D.pairs.at (hl.trans hi)
  refine wpAny_bind (wpAny_dictEntries (s := { s with toks := s.toks + 1 }) ho rfl ?_)
  have he' : es[i]? = some e := by rw [← he]; obtain ⟨l⟩ := es; simp
  rw [he']
  dsimp only
  refine wpAny_bind (wpAny_updateDictKeys (hz := hes) (hf := by
   have : (es.eraseIdxIfInBounds i).size ≤ es.size := by simp only [Array.eraseIdxIfInBounds]; split <;> simp
   omega) (s := { s with toks := s.toks + 1 }) ho rfl (wpAny_pure (hs e hv _ ⟨_, ep + 1, Heap.get?_update_self _ ho rfl, D.keys.erase i, ?_, nodup_without D.nodup x⟩ (Heap.SameBut.update ..))))
  have := D.pairs.erase D.nodup (hl.trans hi)
  obtain ⟨l⟩ := es
  simpa using this
end
end
section
section
variable {w : World} {A : Around} {E : Value → Shared → Prop} {s : Shared} {a d : Addr} {kvs : KVs} {x : Str} {t : Tok}
theorem chk {M : Model} {i owner n : String} {self : Value} {rest : List Value} {kw : List (Str × Value)} {Q : Unit → Shared → Prop} (hk : builtinKind i = some .slot ∨ builtinKind i = some .method)
  (hs : splitId i = some (owner, n)) (hi : Looks M s.heap (isInstance self (.type owner)) true) (ha : argsOk i ⟨self :: rest, kw⟩) (q : Q () s) : wpAny M A (checkBuiltinCall i ⟨self :: rest, kw⟩) Q E s := by
 rcases hk with h | h <;>
 ·simp only [checkBuiltinCall, h, hs]
  refine wpAny_bind (hi.here ?_)
  simp only [Bool.not_true, Bool.false_eq_true, if_false]
  cases hsig : Manifest.signature? i with
  | none => exact wpAny_pure q
  | some sig =>
   simp only [argsOk, hsig] at ha
   have h2 : Bind.checkArgs i sig ⟨self :: rest, kw⟩ = pure () := ha
   show wpAny M A (Bind.checkArgs i sig ⟨self :: rest, kw⟩) Q E s
   rw [h2]; exact wpAny_pure q
theorem node_call {i n : String} {b : Builtin} {rest : List Value} {Q : Value → Shared → Prop} (B : Bs w s.heap) (hn : NodeAt w s.heap a d kvs) (hk : builtinKind i = some .slot ∨ builtinKind i = some .method)
  (hs : splitId i = some ("dict", n)) (hp : plainId i = true) (hb : entryFor table i = some b) (ha : argsOk i ⟨.ref a :: rest, []⟩)
  (h : wpAny (Md w) A.in1 (b ⟨.ref a :: rest, []⟩) (fun fin s' => ∃ v, fin = .done (.ret v) ∧ Q v s') E s) : wpAny (Md w) A (call (.builtin i) (.ref a :: rest)) Q E s := by
 obtain ⟨es, ep, ho, D⟩ := hn.at_
 refine wpAny_call (codeAny_call_builtin hp hb (chk hk hs (node_isa B ho (s_dict _)) ha (wpAny_mono h (fun fin s' h' => ?_) fun _ _ h' => h')))
 obtain ⟨v, rfl, hv⟩ := h'; exact hv
theorem node_ty {M : Model} {h : Heap} (hn : NodeAt w h a d kvs) : Looks M h (typeOf (.ref a)) (.ref 108) := let ⟨_, _, ho, _⟩ := hn.at_; node_type ho
theorem node_sp {M : Model} {h : Heap} {name : Str} {r : Option Value} (B : Bs w h) (hn : NodeAt w h a d kvs) (e : findIn (K w.params) (.ref 108) name = some r) : Looks M h (specialOf (.ref a) name) r := let ⟨_, _, ho, _⟩ := hn.at_; node_special B ho e
theorem node_is {M : Model} {h : Heap} {t : Value} {r : Bool} (B : Bs w h) (hn : NodeAt w h a d kvs) (e : subIn (K w.params) (.ref 108) t = some r) : Looks M h (isInstance (.ref a) t) r := let ⟨_, _, ho, _⟩ := hn.at_; node_isa B ho e
theorem noseq (P : Params) : (seqItemTypes.all fun n => subIn (K P) (.ref 108) (.type n) == some false) = true := by kernel_rfl
theorem node_seqkey {k : Value} {name : Str} {Q : Value → Shared → Prop} (B : Bs w s.heap) (hn : NodeAt w s.heap a d kvs) (h : Q k s) : wpAny (Md w) A (sequenceKey (.ref a) k name) Q E s := by
 unfold sequenceKey
 refine wpAny_bind ((node_ty hn).here ?_)
 refine wpAny_bind ((anyM_none B.k (noseq _)).here ?_)
 rw [if_pos (show (!false) = true from rfl)]
 exact wpAny_pure h
theorem bi_getitem (self : Value) : bindSpecial (.builtin "dict.__getitem__") self = pure (.builtin "dict.__getitem__", [self]) := slot_dict_getitem.bind self
theorem bi_setitem (self : Value) : bindSpecial (.builtin "dict.__setitem__") self = pure (.builtin "dict.__setitem__", [self]) := slot_dict_setitem.bind self
theorem node_cs {i : String} {name : Str} {rest : List Value} {Q : Option Value → Shared → Prop} (B : Bs w s.heap) (hn : NodeAt w s.heap a d kvs) (e : findIn (K w.params) (.ref 108) name = some (some (.builtin i)))
  (hb : bindSpecial (.builtin i) (.ref a) = pure (.builtin i, [.ref a])) (h : wpAny (Md w) A (call (.builtin i) (.ref a :: rest)) (fun v => Q (some v)) E s) : wpAny (Md w) A (callSpecial? (.ref a) name rest) Q E s := by
 unfold callSpecial?
 refine wpAny_bind ((node_sp B hn e).here ?_)
 dsimp only
 refine wpAny_holding ?_
 rw [hb]
 exact wpAny_bind (wpAny_pure (wpAny_bind (wpAny_mono h (fun v s' h' => wpAny_pure h') fun _ _ h' => h')))
theorem node_getItem {Q : Value → Shared → Prop} (B : Bs w s.heap) (hn : NodeAt w s.heap a d kvs)
  (h : wpAny (Md w) A.in1 (Builtin.«dict.__getitem__» ⟨[.ref a, .str x t], []⟩) (fun fin s' => ∃ v, fin = .done (.ret v) ∧ Q v s') E s) : wpAny (Md w) A (getItem (.ref a) (.str x t)) Q E s := by
 unfold getItem
 refine wpAny_holding (wpAny_bind (node_seqkey B hn ?_))
 refine wpAny_bind (node_cs B hn (f_getitem _) (bi_getitem _) (node_call (n := "__getitem__") B hn (by first | exact .inl (by decide +kernel) | exact .inr (by decide +kernel)) (by decide +kernel) slot_dict_getitem.plain entry_dict_getitem (args_dict_getitem _ _) (wpAny_mono h (fun fin s' h' => ?_) fun _ _ h' => h')))
 obtain ⟨v, e, hv⟩ := h'
 exact ⟨v, e, wpAny_pure hv⟩
theorem node_getItem_hit {v : Value} {Q : Value → Shared → Prop} (B : Bs w s.heap) (hn : NodeAt w s.heap a d kvs) (hv : valueAt kvs x = some v) (h : Q v { s with toks := s.toks + 1 }) :
  wpAny (Md w) A (getItem (.ref a) (.str x t)) Q E s := by
 refine node_getItem B hn ?_
 show wpAny _ _ (dictGet a (.str x t) >>= _) _ _ s
 refine wpAny_bind (dict_get hn.at_ ?_)
 rw [hv]
 exact wpAny_pure ⟨v, rfl, h⟩
theorem not_mods {a : Nat} (h : 303 ≤ a) : (a == sysModules) = false := by
 have : a ≠ 1 := by lia
 simpa [sysModules] using this
theorem s_od (P : Params) : subIn (K P) (.ref 108) (.type "collections.OrderedDict") = some false := by kernel_rfl
theorem node_notOrdered {name : String} {rest : List Value} {kw : List (Str × Value)} {Q : Unit → Shared → Prop} (B : Bs w s.heap) (hn : NodeAt w s.heap a d kvs) (h : Q () s) :
  wpAny (Md w) A (Builtin.Dict.notOrdered name ⟨.ref a :: rest, kw⟩) Q E s := by
 unfold Builtin.Dict.notOrdered
 split
 ·refine wpAny_bind ((node_ty hn).here ?_)
  rw [if_pos (by rfl)]
  refine wpAny_bind ((node_is B hn (s_od _)).here ?_)
  exact wpAny_pure h
 ·exact wpAny_pure h
theorem node_setItem {v : Value} {Q : Unit → Shared → Prop} (B : Bs w s.heap) (hn : NodeAt w s.heap a d kvs) (hsz : kvs.length ≤ sizeLine)
  (h : ∀ h', NodeAt w h' a d (stored kvs x v) → Heap.SameBut a s.heap h' → Q () { s with heap := h', toks := s.toks + 1 }) : wpAny (Md w) A (setItem (.ref a) (.str x t) v) Q E s := by
 unfold setItem
 refine wpAny_holding (wpAny_bind (node_seqkey B hn ?_))
 refine wpAny_bind (node_cs B hn (f_setitem _) (bi_setitem _) (node_call (n := "__setitem__") B hn (by first | exact .inl (by decide +kernel) | exact .inr (by decide +kernel)) (by decide +kernel) slot_dict_setitem.plain entry_dict_setitem (args_dict_setitem _ _ _) ?_))
 show wpAny _ _ (Builtin.Dict.notOrdered "__setitem__" ⟨[.ref a, .str x t, v], []⟩ >>= _) _ _ s
 refine wpAny_bind (node_notOrdered B hn ?_)
 show wpAny _ _ (dictSet a (.str x t) v >>= _) _ _ s
 exact wpAny_bind (dict_set hn.at_ hsz fun h' D' S' => wpAny_pure ⟨.none, rfl, wpAny_pure (h h' ⟨hn.lo, D'⟩ S')⟩)
theorem node_get {y : Value} {Q : Value → Shared → Prop} (B : Bs w s.heap) (hn : NodeAt w s.heap a d kvs) (h : Q ((valueAt kvs x).getD y) { s with toks := s.toks + 1 }) :
  wpAny (Md w) A (call (.builtin "dict.get") [.ref a, .str x t, y]) Q E s := by
 refine node_call (n := "get") B hn (by first | exact .inl (by decide +kernel) | exact .inr (by decide +kernel)) (by decide +kernel) F.slot_dict_get.plain F.entry_dict_get (F.args_dict_get_3 _ _ _) ?_
 unfold Builtin.«dict.get»
 refine wpAny_bind ?_
 unfold Builtin.Dict.keyAndDefault
 refine wpAny_bind (node_notOrdered B hn ?_)
 show wpAny _ _ (pure () >>= _) _ _ s
 refine wpAny_bind (wpAny_pure ?_)
 show wpAny _ _ (pure _ >>= _) _ _ s
 refine wpAny_bind (wpAny_pure ?_)
 refine wpAny_bind (wpAny_pure (wpAny_pure ?_))
 refine wpAny_bind (dict_get hn.at_ ?_)
 cases hv : valueAt kvs x with
 | some v => rw [hv] at h; exact wpAny_pure ⟨_, rfl, h⟩
 | none =>
  rw [hv] at h
  show wpAny _ _ (Builtin.Dict.missed a (.str x t) >>= _) _ _ _
  unfold Builtin.Dict.missed
  rw [not_mods hn.lo]
  exact wpAny_bind (wpAny_pure (wpAny_pure ⟨_, rfl, h⟩))
theorem node_pop {y : Value} {Q : Value → Shared → Prop} (B : Bs w s.heap) (hn : NodeAt w s.heap a d kvs) (hsz : kvs.length ≤ sizeLine)
  (hno : valueAt kvs x = none → ∀ tk, Q y { s with toks := tk })
  (hyes : ∀ v, valueAt kvs x = some v → ∀ h' tk, NodeAt w h' a d (without kvs x) → Heap.SameBut a s.heap h' → Q v { s with heap := h', toks := tk }) :
  wpAny (Md w) A (call (.builtin "dict.pop") [.ref a, .str x t, y]) Q E s := by
 refine node_call (n := "pop") B hn (by first | exact .inl (by decide +kernel) | exact .inr (by decide +kernel)) (by decide +kernel) F.slot_dict_pop.plain F.entry_dict_pop (F.args_dict_pop_3 _ _ _) ?_
 unfold Builtin.«dict.pop»
 refine wpAny_bind ?_
 unfold Builtin.Dict.keyAndDefault
 refine wpAny_bind (node_notOrdered B hn ?_)
 show wpAny _ _ (pure () >>= _) _ _ s
 refine wpAny_bind (wpAny_pure ?_)
 show wpAny _ _ (pure _ >>= _) _ _ s
 refine wpAny_bind (wpAny_pure ?_)
 refine wpAny_bind (wpAny_pure (wpAny_pure ?_))
 show wpAny _ _ (pure false >>= _) _ _ s
 refine wpAny_bind (wpAny_pure ?_)
 show wpAny _ _ (Builtin.Dict.takeOut a (.str x t) >>= _) _ _ s
 refine wpAny_bind (dict_take hn.at_ hsz (fun e => ?_) fun en e h' D' S' => ?_)
 ·show wpAny _ _ (Builtin.Dict.missedRemoval a (.str x t) >>= _) _ _ _
  unfold Builtin.Dict.missedRemoval
  rw [not_mods hn.lo]
  exact wpAny_bind (wpAny_pure (wpAny_bind (wpAny_rule (wpAny_pure ⟨_, rfl, hno e _⟩))))
 ·show wpAny _ _ (letGo [en.key] [en.val] >>= _) _ _ _
  exact wpAny_bind (wpAny_letGo (wpAny_pure ⟨_, rfl, hyes _ e h' _ ⟨hn.lo, D'⟩ S'⟩))
theorem node_len {Q : Value → Shared → Prop} (B : Bs w s.heap) (hn : NodeAt w s.heap a d kvs) (hsz : kvs.length ≤ sizeLine) (h : ∀ t' tk, Q (.int kvs.length t') { s with toks := tk }) :
  wpAny (Md w) A (call (.builtin "len") [.ref a]) Q E s := by
 refine call_function_entry kind_len plain_len entry_len (args_len1 _) ?_
 unfold Builtin.«len»
 refine wpAny_bind (m := oneArg "len" _) (wpAny_pure ?_)
 refine wpAny_bind (m := callSpecial? (.ref a) (Str.ofString "__len__")) (node_cs (name := Str.ofString "__len__") B hn (f_len _) (F.slot_dict_len.bind _) (node_call (n := "__len__") B hn (by first | exact .inl (by decide +kernel) | exact .inr (by decide +kernel)) (by decide +kernel) F.slot_dict_len.plain F.entry_dict_len (F.args_dict_len_1 _) ?_))
 unfold Builtin.«dict.__len__»
 obtain ⟨es, ep, ho, D⟩ := id hn.at_
 refine wpAny_bind ?_
 unfold Builtin.Dict.dictSlotNone
 refine wpAny_bind (node_notOrdered B hn ?_)
 show wpAny _ _ (pure (Value.ref a)) _ _ s
 refine wpAny_pure ?_
 show wpAny _ _ (dictSize a >>= _) _ _ s
 unfold dictSize
 refine wpAny_bind (wpAny_bind (wpAny_dictEntries ho rfl (wpAny_pure ?_)))
 unfold Builtin.Dict.pendingCount
 rw [not_mods hn.lo]
 refine wpAny_bind (wpAny_pure (wpAny_bind (wpAny_mkInt (wpAny_pure ⟨_, rfl, ?_⟩))))
 have e1 : ((es.size : Nat) : Int) + ((0 : Nat) : Int) = (kvs.length : Int) := by rw [D.size]; simp
 rw [e1]
 refine wpAny_bind (wpAny_holding (wpAny_pure ?_))
 refine wpAny_bind (wpAny_letGo ?_)
 have hs : kvs.length ≤ 2 ^ 24 := hsz
 show wpAny _ _ (if ((kvs.length : Nat) : Int) < 0 then _ else _) _ _ _
 rw [if_neg (by lia)]
 show wpAny _ _ (if ((kvs.length : Nat) : Int) ≥ 2 ^ 63 then _ else _) _ _ _
 rw [if_neg (by lia)]
 exact wpAny_bind (wpAny_mkInt (wpAny_pure ⟨_, rfl, h _ _⟩))
end
end
section
def DEp (w : World) (h : Heap) (a : Addr) (c : Value) (dd : Option Addr) (sl : Array (Option Value)) (kvs : KVs) (ep : Nat) : Prop :=
 ∃ es, h.get? a = some ⟨c, dd, .dict es ep, sl⟩ ∧ DK w es kvs
theorem DEp.dat {w : World} {h : Heap} {a : Addr} {c : Value} {dd : Option Addr} {sl : Array (Option Value)} {kvs : KVs} {ep : Nat} (x : DEp w h a c dd sl kvs ep) : DAt w h a c dd sl kvs := let ⟨es, e, r⟩ := x; ⟨es, ep, e, r⟩
theorem DAt.dep {w : World} {h : Heap} {a : Addr} {c : Value} {dd : Option Addr} {sl : Array (Option Value)} {kvs : KVs} (x : DAt w h a c dd sl kvs) : ∃ ep, DEp w h a c dd sl kvs ep := let ⟨es, ep, e, r⟩ := x; ⟨ep, es, e, r⟩
theorem DEp.at {w : World} {h h' : Heap} {a : Addr} {c : Value} {dd : Option Addr} {sl : Array (Option Value)} {kvs : KVs} {ep : Nat} (x : DEp w h a c dd sl kvs ep) (k : ∀ o, h.get? a = some o → h'.get? a = some o) : DEp w h' a c dd sl kvs ep :=
 let ⟨es, e, r⟩ := x; ⟨es, k _ e, r⟩
noncomputable abbrev keyItO (a : Addr) (i n ep : Nat) : Obj := { cls := .type "dict_keyiterator", data := .fields #[.ref a, .int i 0, .int n 0, .int ep 0] }
section
variable {w : World} {A : Around} {E : Value → Shared → Prop} {s : Shared} {a d it : Addr} {c : Value} {dd : Option Addr} {sl : Array (Option Value)} {kvs : KVs} {ep i : Nat}
theorem node_csn {i : String} {name : Str} {refuse : Sem Value} {Q : Option Value → Shared → Prop} (B : Bs w s.heap) (hn : NodeAt w s.heap a d kvs) (e : findIn (K w.params) (.ref 108) name = some (some (.builtin i)))
  (hb : bindSpecial (.builtin i) (.ref a) = pure (.builtin i, [.ref a])) (h : wpAny (Md w) A (call (.builtin i) [.ref a]) (fun v => Q (some v)) E s) : wpAny (Md w) A (callSpecialIfBoundUnlessNone? (.ref a) name refuse) Q E s := by
 simp only [callSpecialIfBoundUnlessNone?, bindSpecialIfBound?]
 refine wpAny_holding (wpAny_bind (wpAny_bind ((node_sp B hn e).here ?_)))
 simp only [hb]
 have fin : wpAny (Md w) A (if (Value.builtin i == Value.none) = true then (refuse >>= fun v => pure (some v)) else (call (.builtin i) [.ref a] >>= fun v => pure (some v))) Q E s := by
  rw [if_neg (by simp)]
  exact wpAny_bind (wpAny_mono h (fun v s' h' => wpAny_pure h') fun _ _ h' => h')
 refine wpAny_bind (wpAny_askSetting (wpAny_ite ?_))
 split
 ·exact wpAny_bind (wpAny_pure (wpAny_pure fin))
 ·exact wpAny_tryCatch (wpAny_bind (wpAny_pure (wpAny_pure fin)))
theorem node_iter {Q : Value → Shared → Prop} (B : Bs w s.heap) (hn : NodeAt w s.heap a d kvs) (hep : DEp w s.heap a (.ref 108) (some d) #[some (.ref 237)] kvs ep)
  (h : Q (.ref s.heap.objs.size) { s with heap := s.heap.push (keyItO a 0 kvs.length ep) }) : wpAny (Md w) A (pyIter (.ref a)) Q E s := by
 obtain ⟨es, ho, D⟩ := id hep
 unfold pyIter
 refine wpAny_bind ((node_sp B hn (f_iter _)).here ?_)
 show wpAny _ A (callSpecialIfBoundUnlessNone? (.ref a) "__iter__" _ >>= _) Q E s
 refine wpAny_bind (node_csn B hn (f_iter _) (F.slot_dict_iter.bind _) ?_)
 refine node_call (n := "__iter__") B hn (by first | exact .inl (by decide +kernel) | exact .inr (by decide +kernel)) (by decide +kernel) F.slot_dict_iter.plain F.entry_dict_iter (F.args_dict_iter_1 _) ?_
 unfold Builtin.«dict.__iter__»
 refine wpAny_bind ?_
 unfold Builtin.Dict.dictSlotNone
 refine wpAny_bind (node_notOrdered B hn ?_)
 show wpAny _ _ (pure (Value.ref a)) _ _ s
 refine wpAny_pure ?_
 show wpAny _ _ (Builtin.Dict.showsAll a >>= _) _ _ s
 unfold Builtin.Dict.showsAll
 rw [not_mods hn.lo]
 refine wpAny_bind (wpAny_pure ?_)
 refine wpAny_bind (wpAny_dictEntries ho rfl ?_)
 refine wpAny_bind (wpAny_dictEpoch ho rfl ?_)
 rw [D.size]
 refine wpAny_bind (wpAny_newObj_type (wpAny_pure ⟨_, rfl, ?_⟩))
 exact wpAny_bind (wpAny_specialOf (T := "dict_keyiterator") ⟨_, Heap.get?_push_size _ rfl, rfl⟩ F.slot_dict_keyiterator_next.lookup (wpAny_pure h))
theorem key_next {k : Str} {v : Value} {Q : Option Value → Shared → Prop} (hit : s.heap.get? it = some (keyItO a i kvs.length ep)) (hd : DEp w s.heap a c dd sl kvs ep) (hx : kvs[i]? = some (k, v))
  (h : ∀ t h', h'.get? it = some (keyItO a (i + 1) kvs.length ep) → Heap.SameBut it s.heap h' → Q (some (.str k t)) { s with heap := h' }) : wpAny (Md w) A (pyNext (.ref it)) Q E s := by
 obtain ⟨es, hod, D⟩ := hd
 have hT : s.TypeIs (.ref it) "dict_keyiterator" := ⟨_, hit, rfl⟩
 have hlt : i < kvs.length := by
  rcases Nat.lt_or_ge i kvs.length with h | h
  ·exact h
  ·simp [List.getElem?_eq_none h] at hx
 have hlt' : i < es.size := by rw [D.size]; exact hlt
 obtain ⟨t, ht⟩ : ∃ t, es[i].key = .str k t := by
  have := (D.pairs.get? (e := es[i]) (by simp [hlt']) hx).1
  exact Value.isStrOf_shape this
 unfold pyNext
 refine wpAny_bind (wpAny_attempt (wpAny_callSpecial?_slot (name := Str.ofString "__next__") hT F.slot_dict_keyiterator_next
  (wpAny_call_entry F.slot_dict_keyiterator_next hT F.entry_dict_keyiterator_next ?_ (F.args_dict_keyiterator_next_1 _))))
 refine wpAny_bind (wpAny_pure ?_)
 refine wpAny_bind (wpAny_bind (wpAny_bind (wpAny_typeNameOfWhole_keyiter hT (wpAny_pure ?_))))
 refine wpAny_bind (wpAny_fieldsOf hit rfl ?_)
 show wpAny _ _ (if (Value.ref a == Value.none) = true then _ else _) _ _ s
 rw [if_neg (show ¬ ((Value.ref a == Value.none) = true) from Bool.false_ne_true)]
 refine wpAny_bind (wpAny_pure ?_)
 refine wpAny_bind (wpAny_dictEntries hod rfl ?_)
 rw [if_neg (by rw [D.size]; simp)]
 refine wpAny_bind (wpAny_pure ?_)
 refine wpAny_bind (wpAny_dictEpoch hod rfl ?_)
 rw [if_neg (by simp)]
 refine wpAny_pure ?_
 simp only [show ¬ ((i : Int) < 0) from by lia, if_false, Int.toNat_natCast, Array.getElem?_eq_getElem hlt']
 refine wpAny_bind (wpAny_bind (wpAny_typeNameOfWhole_keyiter hT (wpAny_pure ?_)))
 refine wpAny_bind (wpAny_isOneOf_keyiter hT ?_)
 show wpAny _ _ (setField (.ref it) 1 (rawInt ((i : Int) + 1)) >>= _) _ _ s
 refine wpAny_bind (wpAny_setField hit rfl (by simp) ?_)
 have hit' : (s.heap.update it (Obj.mapFields (·.setIfInBounds 1 (rawInt ((i : Int) + 1))))).get? it = some (keyItO a (i + 1) kvs.length ep) := Heap.get?_update_self _ hit rfl
 refine wpAny_bind (wpAny_holding ?_)
 refine wpAny_bind (wpAny_isOneOf_keyiter (s := { s with heap := s.heap.update it (Obj.mapFields (·.setIfInBounds 1 (rawInt ((i : Int) + 1)))) }) ⟨_, hit', rfl⟩ ?_)
 show wpAny _ _ (pure es[i].key) _ _ _
 rw [ht]
 exact wpAny_pure (wpAny_pure ⟨_, rfl, wpAny_pure (h t _ hit' (Heap.SameBut.update ..))⟩)
theorem key_end {Q : Option Value → Shared → Prop} (hh : A.handled = none) (hit : s.heap.get? it = some (keyItO a i kvs.length ep)) (hd : DEp w s.heap a c dd sl kvs ep) (hx : kvs[i]? = none)
  (h : ∀ h', Heap.ExtBut it s.heap h' → s.heap.objs.size ≤ h'.objs.size → Q none { s with heap := h' }) : wpAny (Md w) A (pyNext (.ref it)) Q E s := by
 obtain ⟨es, hod, D⟩ := hd
 have hT : s.TypeIs (.ref it) "dict_keyiterator" := ⟨_, hit, rfl⟩
 unfold pyNext
 refine wpAny_bind (wpAny_attempt (wpAny_callSpecial?_slot (name := Str.ofString "__next__") hT F.slot_dict_keyiterator_next
  (wpAny_call_entry F.slot_dict_keyiterator_next hT F.entry_dict_keyiterator_next ?_ (F.args_dict_keyiterator_next_1 _))))
 refine wpAny_bind (wpAny_pure ?_)
 refine wpAny_bind (wpAny_bind (wpAny_bind (wpAny_typeNameOfWhole_keyiter hT (wpAny_pure ?_))))
 refine wpAny_bind (wpAny_fieldsOf hit rfl ?_)
 show wpAny _ _ (if (Value.ref a == Value.none) = true then _ else _) _ _ s
 rw [if_neg (show ¬ ((Value.ref a == Value.none) = true) from Bool.false_ne_true)]
 refine wpAny_bind (wpAny_pure ?_)
 refine wpAny_bind (wpAny_dictEntries hod rfl ?_)
 rw [if_neg (by rw [D.size]; simp)]
 refine wpAny_bind (wpAny_pure ?_)
 refine wpAny_bind (wpAny_dictEpoch hod rfl ?_)
 rw [if_neg (by simp)]
 refine wpAny_pure ?_
 have hge : es.size ≤ i := by rw [D.size]; simpa using hx
 simp only [show ¬ ((i : Int) < 0) from by lia, if_false, Int.toNat_natCast, Array.getElem?_eq_none hge]
 refine wpAny_bind (wpAny_bind (wpAny_typeNameOfWhole_keyiter hT (wpAny_pure ?_)))
 show wpAny _ _ (setField (.ref it) 0 .none >>= _) _ _ s
 refine wpAny_bind (wpAny_setField hit rfl (by simp) ?_)
 show wpAny _ _ (newExc (.type "StopIteration") [] >>= _) _ _ _
 refine wpAny_bind ?_
 simp only [newExc, newTuple]
 refine wpAny_bind (wpAny_newObj_type ?_ (by size_fits))
 refine wpAny_bind (m := firstArgMember _ _) (wpAny_of_eq (a := Value.none) (by first | rfl | (simp only [firstArgMember]; rfl)) ?_)
 refine wpAny_newObj_type ?_ (by size_fits)
 simp only [raiseNew]
 refine wpAny_bind (wpAny_handled ?_)
 rw [show A.in1.handled = none from hh]
 refine wpAny_bind (wpAny_pure (wpAny_throw ?_))
 refine wpAny_bind (wpAny_isInstance (T := "StopIteration") (b := true) ⟨_, Heap.get?_push_size _ rfl, rfl⟩ isSubtype_stop ?_)
 exact wpAny_pure (h _ (((Heap.SameBut.update ..).extBut.push _).push _) (by simp only [Heap.size_push, Heap.size_after_update]; lia))
end
end
section
structure Ok (A : Around) (d u : Nat) : Prop where
 h : A.handled = none
 d : A.depth ≤ d
 u : A.units ≤ u
theorem Ok.deeper {A : Around} {d u : Nat} (x : Ok A d u) (env : Env) : Ok (A.deeper env) (d + 1) (u + 3) := ⟨x.h, Nat.add_le_add_right x.d 1, Nat.add_le_add_right x.u 3⟩
theorem Ok.in1 {A : Around} {d u : Nat} (x : Ok A d u) : Ok A.in1 d (u + 1) := ⟨x.h, x.d, Nat.add_le_add_right x.u 1⟩
theorem Ok.le {A : Around} {d u d' u' : Nat} (x : Ok A d u) (hd : d ≤ d') (hu : u ≤ u') : Ok A d' u' := ⟨x.h, Nat.le_trans x.d hd, Nat.le_trans x.u hu⟩
noncomputable def set (m : Str → Option Value) (x : Str) (v : Value) : Str → Option Value := fun y => if y = x then some v else m y
theorem set_self {m : Str → Option Value} {x : Str} {v : Value} : set m x v x = some v := by simp [set]
theorem set_ne {m : Str → Option Value} {x y : Str} {v : Value} (h : y ≠ x) : set m x v y = m y := by simp [set, h]
noncomputable def varOk (env : Env) (x : Str) : Bool := match env.kindOf x with
 | some .local => true
 | some .cell => (env.cells.lookup x).isSome
 | some .free => (env.cells.lookup x).isSome && !(x == ("__classdict__" : Str))
 | _ => false
def OwnA (env : Env) (b : Addr) : Prop := b = env.locals ∨ ∃ x, env.cells.lookup x = some b
structure Vars (h : Heap) (env : Env) (m : Str → Option Value) : Prop where
 kind : env.scope.kind = .function
 ns : ∃ ml, h.Ns env.locals ml ∧ ∀ x, env.kindOf x = some .local → ml x = m x
 cell : ∀ x c, env.cells.lookup x = some c → h.IsCell c (m x)
 apart : ∀ x y c, env.cells.lookup x = some c → env.cells.lookup y = some c → x = y
 off : ∀ x c, env.cells.lookup x = some c → c ≠ env.locals
 nol : ∀ x c, env.cells.lookup x = some c → env.kindOf x ≠ some .local
theorem Vars.keep {h h' : Heap} {env : Env} {m : Str → Option Value} (V : Vars h env m) (k : ∀ b o, OwnA env b → h.get? b = some o → h'.get? b = some o) : Vars h' env m where
 kind := V.kind
 ns := let ⟨ml, n, e⟩ := V.ns; ⟨ml, n.at' fun o ho => k _ o (.inl rfl) ho, e⟩
 cell := fun x c e => let ⟨o, ho, hd⟩ := V.cell x c e; ⟨o, k _ _ (.inr ⟨x, e⟩) ho, hd⟩
 apart := V.apart
 off := V.off
 nol := V.nol
theorem Vars.grow {h h' : Heap} {env : Env} {m : Str → Option Value} (V : Vars h env m) (k : ∀ b o, h.get? b = some o → h'.get? b = some o) : Vars h' env m := V.keep fun b o _ e => k b o e
theorem Vars.own {h : Heap} {env : Env} {m : Str → Option Value} {b : Addr} (V : Vars h env m) (hb : OwnA env b) : ∃ o, h.get? b = some o := by
 rcases hb with rfl | ⟨x, e⟩
 ·obtain ⟨ml, ⟨o, es, ep, ho, _⟩, _⟩ := V.ns
  exact ⟨o, ho⟩
 ·obtain ⟨o, ho, _⟩ := V.cell x b e
  exact ⟨o, ho⟩
section
variable {w : World} {A : Around} {E : Value → Shared → Prop} {s : Shared} {env : Env} {m : Str → Option Value} {x : Str} {v : Value}
theorem Vars.ld {M : Model} {Q : Value → Shared → Prop} (V : Vars s.heap env m) (hk : varOk env x = true) (hv : m x = some v) (h : Q v s) : wpAny M A (loadName env x) Q E s := by
 unfold varOk at hk
 split at hk
 ·rename_i hl
  obtain ⟨ml, n, e⟩ := V.ns
  exact wpAny_loadName_local V.kind hl n ((e x hl).trans hv) h
 ·rename_i hl
  obtain ⟨c, hc⟩ := Option.isSome_iff_exists.mp hk
  exact wpAny_loadName_cell V.kind hl hc (hv ▸ V.cell x c hc) h
 ·rename_i hl
  rw [Bool.and_eq_true] at hk
  obtain ⟨c, hc⟩ := Option.isSome_iff_exists.mp hk.1
  exact wpAny_loadName_free V.kind hl hc (hv ▸ V.cell x c hc) h (by simpa using hk.2)
 ·cases hk
theorem Vars.nm {M : Model} {Q : Value → Shared → Prop} {pos : Pos} (V : Vars s.heap env m) (h : Q v s) (hv : m x = some v) (hk : varOk env x = true := by rfl) (hd : (x == ("__debug__" : Str)) = false := by decide) : wpAny M A (eval (.Name x pos) env) Q E s :=
 wpAny_Name (V.ld hk hv h) hd
theorem Vars.st {M : Model} {Q : Unit → Shared → Prop} (V : Vars s.heap env m)
  (h : ∀ h' tk b, Vars h' env (set m x v) → OwnA env b → Heap.SameBut b s.heap h' → Q () { s with heap := h', toks := tk }) (hk : varOk env x = true := by rfl) : wpAny M A (storeName env x v) Q E s := by
 unfold varOk at hk
 have hcl : ∀ c, env.cells.lookup x = some c → env.kindOf x = some .cell ∨ env.kindOf x = some .free → wpAny M A (storeName env x v) Q E s := by
  intro c hc hkk
  have fin : wpAny M A (cellOf env x >>= fun a => cellSet a (some v)) Q E s := by
   refine wpAny_bind (wpAny_cellOf hc (wpAny_cellSet (V.cell x c hc) fun h' hc' hs' => h h' s.toks c ⟨V.kind, ?_, fun y d hy => ?_, V.apart, V.off, V.nol⟩ (.inr ⟨x, hc⟩) hs'))
   ·obtain ⟨ml, n, e⟩ := V.ns
    refine ⟨ml, n.sameBut hs' (Ne.symm (V.off x c hc)), fun y hy => ?_⟩
    have : y ≠ x := fun hyx => V.nol x c hc (hyx ▸ hy)
    rw [set_ne this]
    exact e y hy
   ·by_cases hyx : y = x
    ·subst hyx
     rw [hc] at hy; cases hy
     rw [set_self]; exact hc'
    ·rw [set_ne hyx]
     exact (V.cell y d hy).sameBut hs' fun hdc => hyx (V.apart y x c (hdc ▸ hy) hc)
  unfold storeName
  rcases hkk with hl | hl <;>
  ·simp only [hl, V.kind]
   exact fin
 split at hk
 ·rename_i hl
  obtain ⟨ml, n, e⟩ := V.ns
  refine wpAny_storeName_local hl n (fun h' hn' hs' => h h' (s.toks + 1) env.locals ⟨V.kind, ⟨_, hn', fun y hy => ?_⟩, fun y d hy => ?_, V.apart, V.off, V.nol⟩ (.inl rfl) hs') (by rw [V.kind]; rfl)
  ·by_cases hyx : y = x
   ·subst hyx; simp [set]
   ·rw [set_ne hyx, if_neg hyx]; exact e y hy
  ·have : y ≠ x := fun hyx => V.nol y d hy (hyx ▸ hl)
   rw [set_ne this]
   exact (V.cell y d hy).sameBut hs' (V.off y d hy)
 ·rename_i hl
  obtain ⟨c, hc⟩ := Option.isSome_iff_exists.mp hk
  exact hcl c hc (.inl hl)
 ·rename_i hl
  rw [Bool.and_eq_true] at hk
  obtain ⟨c, hc⟩ := Option.isSome_iff_exists.mp hk.1
  exact hcl c hc (.inr hl)
 ·cases hk
theorem glob {Q : Value → Shared → Prop} {pos : Pos} (B : Bs w s.heap) (h : Q v s) (e : nsIn (K w.params) 3 x = some (some v) := by kernel_rfl) (hk : env.scope.kind = .function := by rfl) (hx : env.kindOf x = some .globalImplicit := by rfl)
  (hg : env.globals = 3 := by rfl) (hd : (x == ("__debug__" : Str)) = false := by decide) : wpAny (Md w) A (eval (.Name x pos) env) Q E s := by
 have n3 := B.nsAt (a := 3) (by kernel_rfl)
 exact Name_function_global hk hx (loadGlobal_global (hg ▸ n3) (mg_of B.k n3 e) h) hd
theorem blt {Q : Value → Shared → Prop} {pos : Pos} (B : Bs w s.heap) (h : Q v s) (hv : bootBuiltins x = some v := by kernel_rfl) (e : nsIn (K w.params) 3 x = some none := by kernel_rfl) (hk : env.scope.kind = .function := by rfl) (hx : env.kindOf x = some .globalImplicit := by rfl)
  (hg : env.globals = 3 := by rfl) (hb : env.builtins = 0 := by rfl) (hn : x ≠ "__name__" := by decide) (hd : (x == ("__debug__" : Str)) = false := by decide) : wpAny (Md w) A (eval (.Name x pos) env) Q E s := by
 have n3 := B.nsAt (a := 3) (by kernel_rfl)
 obtain ⟨mb, nb, e2⟩ := B.b
 exact Name_function_global hk hx (loadGlobal_builtin (hg ▸ n3) (ns_none_of B.k n3 e) (hb ▸ nb) ((e2 x hn).trans hv) h) hd
theorem bltN {Q : Value → Shared → Prop} (B : Bs w s.heap) (h : Q v s) (hv : bootBuiltins x = some v := by kernel_rfl) (e : nsIn (K w.params) 3 x = some none := by kernel_rfl) (hk : env.scope.kind = .function := by rfl) (hx : env.kindOf x = some .globalImplicit := by rfl)
  (hg : env.globals = 3 := by rfl) (hb : env.builtins = 0 := by rfl) (hn : x ≠ "__name__" := by decide) : wpAny (Md w) A (loadName env x) Q E s := by
 have n3 := B.nsAt (a := 3) (by kernel_rfl)
 obtain ⟨mb, nb, e2⟩ := B.b
 rw [loadName_read hk hx]
 exact loadGlobal_builtin (hg ▸ n3) (ns_none_of B.k n3 e) (hb ▸ nb) ((e2 x hn).trans hv) h
end
end
section
noncomputable def flowV : Flow → Value
 | .ret v => v
 | _ => .none
noncomputable def bindM (env : Env) (binds : List (Str × Value)) : Str → Option Value := fun x => if env.kindOf x = some .local then bindL env.kindOf binds (fun _ => none) x else bindC env.kindOf binds (fun _ => none) x
noncomputable def kindsOk (fd : FuncData) (L : Nat) (binds : List (Str × Value)) : Bool := binds.all fun x => match fd.scope.names.lookup x.1 with
 | some .local => true
 | some .cell => ((cellsFrom (L + 1) fd.scope.names []).lookup x.1).isSome
 | _ => false
theorem kindsOk_of {fd : FuncData} {L : Nat} {binds : List (Str × Value)} (h : kindsOk fd L binds = true) :
  ∀ x ∈ binds, fd.scope.names.lookup x.1 = some .local ∨ (fd.scope.names.lookup x.1 = some .cell ∧ ((cellsFrom (L + 1) fd.scope.names []).lookup x.1).isSome = true) := by
 intro x hx
 have := List.all_eq_true.mp h x hx
 split at this
 ·rename_i e; exact .inl e
 ·rename_i e; exact .inr ⟨e, this⟩
 ·cases this
noncomputable def cellsApart (fd : FuncData) (L : Nat) : Bool := (cellsFrom (L + 1) fd.scope.names []).all fun x => fd.scope.names.lookup x.1 != some .local
theorem enter {w : World} {A : Around} {E : Value → Shared → Prop} {s : Shared} {a d u : Nat} {o : Obj} {fd : FuncData} {body : List Stmt} {args : List Value} {binds : List (Str × Value)} {Q : Value → Shared → Prop}
  (B : Bs w s.heap) (hA : Ok A d u) (hd : d < 1000)
  (h : ∀ h₁ tk E', Vars h₁ (callEnvC fd s.heap.objs.size a) (bindM (callEnvC fd s.heap.objs.size a) binds) → (∀ b o, s.heap.get? b = some o → h₁.get? b = some o) → (∀ b, OwnA (callEnvC fd s.heap.objs.size a) b → s.heap.objs.size ≤ b) →
   wpAny (Md w) (A.deeper (callEnvC fd s.heap.objs.size a)) (execs body (callEnvC fd s.heap.objs.size a)) (fun f s' => Q (flowV f) s') E' { s with heap := h₁, toks := tk })
  (ho : (K w.params).lookup a = some o := by kernel_rfl) (hf : o.data = .func fd := by rfl) (hb : fd.body = .stmts body := by rfl) (hbind : bindArgs fd ⟨args, []⟩ = pure binds := by rfl) (hcd : codeIn (K w.params) fd.code fd.qualname = true := by kernel_rfl) (hclo : fd.closure = [] := by rfl)
  (hkind : kindsOk fd s.heap.objs.size binds = true := by rfl) (hap : cellsApart fd s.heap.objs.size = true := by rfl)
  (hco : fd.scope.isCoroutine = false := by rfl) (hgen : fd.scope.isGenerator = false := by rfl) (hk : fd.scope.kind = .function := by rfl) :
  wpAny (Md w) A (call (.ref a) args) Q E s := by
 refine wpAny_call (codeAny_call_cells (by have := hA.d; show A.depth < 1000; lia) (B.k a o ho) hf B.nolimit (codeRec_of B.k hcd) hb hbind hclo (kindsOk_of hkind) (fun s₁ x => ?_) hco hgen hk)
 obtain ⟨h₁, tk, rfl⟩ := x.toInCall.same
 refine wpAny_mono (h h₁ tk _ ⟨hk, ⟨_, x.toInCall.ns, fun y hy => ?_⟩, fun y c hc => ?_, fun y z c hy hz => ?_, fun y c hc => ?_, fun y c hc => ?_⟩ x.toInCall.keep fun b hb => ?_) (fun f s' hq => ?_) fun _ _ e => e
 ·unfold bindM; rw [if_pos hy]
 ·have h1 := List.all_eq_true.mp hap (y, c) (mem_of_lookup hc)
  have h3 : fd.scope.names.lookup y ≠ some .local := by simpa using h1
  have h2 : (callEnvC fd s.heap.objs.size a).kindOf y ≠ some .local := h3
  unfold bindM; rw [if_neg h2]
  exact x.cell y c hc
 ·exact name_of_addr x.apart (mem_of_lookup hy) (mem_of_lookup hz)
 ·exact Nat.ne_of_gt (x.above y c (mem_of_lookup hc))
 ·have h1 := List.all_eq_true.mp hap (y, c) (mem_of_lookup hc)
  have h3 : fd.scope.names.lookup y ≠ some .local := by simpa using h1
  exact h3
 ·rcases hb with rfl | ⟨y, hc⟩
  ·exact x.toInCall.fresh
  ·exact Nat.le_trans x.toInCall.fresh (Nat.le_of_lt (x.above y b (mem_of_lookup hc)))
 ·show Q _ s'
  cases f <;> exact hq
end
end Mine
end
section
open PySem PySem.W PyProof.Rows PySem.W.X
namespace Mine
section
theorem Mem.get {h₀ h : Heap} {chg news : List (Addr × Obj)} (D : Mem h₀ h chg news) (i : Nat) {a : Addr} {o : Obj} (e : news[i]? = some (a, o)) : h.get? a = some o := D.at i a o e
noncomputable abbrev missName : String := "collections.defaultdict.__missing__"
def GotM (f : Value) (s : Shared) (v : Value) (s' : Shared) : Prop := ∃ m h' tk news, v = .ref m ∧ s' = { s with heap := h', toks := tk } ∧ h'.get? m = some ⟨.type "builtin_function_or_method", none, .fields #[.builtin "collections.defaultdict.__missing__", f], #[]⟩ ∧ Mem s.heap h' [] news
local macro_rules | `(tactic| x_close) => `(tactic| (exact ⟨_, _, _, _, rfl, rfl, Mem.get (by assumption) 0 rfl, by assumption⟩))
theorem get_bound {w : World} {s : Shared} {E : Value → Shared → Prop} {a d : Addr} {ep : Nat} {es : Array DictEntry} (KX : (K w.params).In s.heap) (ha : s.heap.get? a = some ⟨.ref 108, some d, .dict es ep, #[some (.ref 237)]⟩) :
  wpAny (model pw w) (AR 890 1000) (call (.builtin "method_descriptor.__get__") [.builtin "collections.defaultdict.__missing__", .ref a, .ref 108]) (GotM (.ref a) s) E s := by
 x_run
end
section
noncomputable def cd108 (P : Params) : ClassData := (clsIn (K P) 108).getD default
theorem cls108 (P : Params) : clsIn (K P) 108 = some (cd108 P) := by kernel_rfl
theorem mro108 (P : Params) : (cd108 P).mro = [.ref 108, .type "collections.defaultdict", .type "dict", .type "object"] := by kernel_rfl
theorem ty_dm : typeOf (.builtin missName) = pure (.type "method_descriptor") := by kernel_rfl
theorem lk_mdget : typeLookup (.type "method_descriptor") "__get__" = pure (some (.builtin "method_descriptor.__get__")) := by rw [typeLookup_type, builtinLookup_eq_fast]; kernel_rfl
theorem super_ga {w : World} {A : Around} {E : Value → Shared → Prop} {h : Heap} {g : Array GenState} {d : Drawn} {t : Nat} {os : OsState} {so x : Nat} {tk : Tok} {Q : PySem.Fin → Shared → Prop} (X : (K w.params).In h) (hlo : 303 ≤ x)
  (hso : h.get? so = some { cls := .type "super", dict := none, data := .fields #[.ref 108, .ref x, .ref 108], slots := #[] })
  (hq : wpAny (model pw w) A (call (.builtin "method_descriptor.__get__") [.builtin missName, .ref x, .ref 108]) (fun v s' => Q (.done (.ret v)) s') E ⟨h, g, d, t, os⟩) :
  wpAny (model pw w) A (Builtin.«super.__getattribute__» ⟨[.ref so, .str "__missing__" tk], []⟩) Q E ⟨h, g, d, t, os⟩ := by
 have hno : Looks (model pw w) h (opaqueClassAbove (.ref 108)) none := looks_opaque X (by kernel_rfl)
 have hC : Looks (model pw w) h (mroOf (.ref 108)) [.ref 108, .type "collections.defaultdict", .type "dict", .type "object"] := fun A Q E s k q => wpAny_bind ((looks_clsIn X (cls108 w.params)) A _ E s k (wpAny_pure (mro108 w.params ▸ q)))
 have hty := ty_dm
 have hlk := lk_mdget
 have hne : (Value.ref x == Value.ref 108) = false := by
  have h1 : x ≠ 108 := by lia
  simpa using h1
 have hdt : ({ cls := .type "super", dict := none, data := .fields #[.ref 108, .ref x, .ref 108], slots := #[] } : Obj).data = .fields #[.ref 108, .ref x, .ref 108] := rfl
 have f0 : (#[.ref 108, .ref x, .ref 108] : Array Value)[0]? = some (.ref 108) := rfl
 have f1 : (#[.ref 108, .ref x, .ref 108] : Array Value)[1]? = some (.ref x) := rfl
 have f2 : (#[.ref 108, .ref x, .ref 108] : Array Value)[2]? = some (.ref 108) := rfl
 have hn : ((("__missing__" : Str)) == ("__class__" : Str)) = false := by decide
 unfold Builtin.«super.__getattribute__»
 dsimp only
 iterate 12 (first
  | (with_reducible refine wpAny_field hso hdt f0 ?_) | (with_reducible refine wpAny_field hso hdt f1 ?_) | (with_reducible refine wpAny_field hso hdt f2 ?_)
  | wp_step)
 refine wpAny_field hso hdt f2 ?_
 rw [hn]
 rw [if_neg (show ¬ ((Value.ref 108 == Value.none || false) = true) from by decide)]
 refine wpAny_bind (ks_wpAny_notOpaque hno ?_)
 rw [if_neg (show ¬ ((Value.ref 108 == Value.type "module") = true) from by decide)]
 refine wpAny_bind (Looks.at hC ?_)
 refine wpAny_bind ?_
 rw [show (List.drop 1 (List.dropWhile (fun x => x != Value.ref 108) [Value.ref 108, .type "collections.defaultdict", .type "dict", .type "object"])) = [.type "collections.defaultdict", .type "dict", .type "object"] from by decide, List.forIn_cons]
 refine wpAny_bind (wpAny_bind (Looks.at (looks_ownIn X (r := some (.builtin missName)) (by kernel_rfl)) ?_))
 dsimp only
 refine wpAny_bind (wpAny_of_eq hty ?_)
 refine wpAny_bind (wpAny_of_eq hlk ?_)
 dsimp only
 rw [hne]
 refine wpAny_bind (wpAny_holding ?_)
 refine wpAny_mono hq (fun v s' hv => ?_) fun _ _ z => z
 exact wpAny_bind (wpAny_pure (wpAny_pure (wpAny_pure (wpAny_pure hv))))
end
end Mine
end
section
open PySem PySem.W PySem.Calls
open PyProof.Rows hiding wpAt wpAt_bind wpAt_mono callWith_type
namespace Mine
section
noncomputable def unstar : Expr → Bool
 | .Starred .. => false
 | _ => true
theorem backTo_plain {pos : Pos} {env : Env} : ∀ {es : List Expr}, es.all unstar = true → backTo pos (starEach es env) = es.map fun e => (false, eval e env)
 | [], _ => rfl
 | e :: r, h => by
  rw [List.all_cons, Bool.and_eq_true] at h
  have ih := backTo_plain (pos := pos) (env := env) h.2
  rw [List.map_cons, ← ih]
  have h1 := h.1
  cases e <;> first | rfl | (simp [unstar] at h1)
def evs (M : Model) (A : Around) (E : Value → Shared → Prop) (env : Env) : List Expr → (List Value → Shared → Prop) → Shared → Prop
 | [], Q, s => Q [] s
 | e :: r, Q, s => wpAny M A (eval e env) (fun v s₁ => evs M A E env r (fun vs s₂ => Q (v :: vs) s₂) s₁) E s
section
variable {M : Model} {A : Around} {c : Code} {E : Value → Shared → Prop} {s : Shared} {env : Env} {pos : Pos} {args : List Expr}
theorem spliced_evs : ∀ {args : List Expr} {Q : List Value → Shared → Prop} {s : Shared}, evs M A E env args Q s → wpAny M A (spliced (args.map fun e => (false, eval e env))) Q E s
 | [], Q, s, h => spliced_nil h
 | e :: r, Q, s, h => spliced_cons (wpAny_mono h (fun v s₁ h₁ => spliced_evs h₁) fun _ _ e => e)
theorem evalArgs_evs {f : Value} {Q : Args → Shared → Prop} (h : evs M A E env args (fun vs s₁ => Q ⟨vs, []⟩ s₁) s) : wpAny M A (evalArgs f true (args.map fun e => (false, eval e env)) []) Q E s := by
 cases args with
 | nil =>
  unfold evalArgs
  show wpAny M A (spliced [] >>= _) Q E s
  refine wpAny_bind (spliced_nil ?_)
  refine wpAny_bind (wpAny_pure ?_)
  refine wpAny_holding ?_
  exact wpAny_bind (wpAny_pure (wpAny_bind (wpAny_pure (wpAny_pure h))))
 | cons e r => exact evalArgs_plain (spliced_evs (args := e :: r) h)
theorem cw_builtin {id : String} {first : List Value} {Q : Value → Shared → Prop} (h : evs M A E env args (fun vs s₁ => wpAny M A (call (.builtin id) (first ++ vs)) Q E s₁) s) (hs : args.all unstar = true := by rfl) :
  wpAny M A (callWith pos (.builtin id) first (backTo pos (starEach args env)) []) Q E s := by
 rw [backTo_plain hs]
 exact callWith_builtin (by rw [List.any_map]; exact List.any_eq_false.mpr fun _ _ h => (Bool.noConfusion h)) (evalArgs_evs h)
theorem cw_type {T : String} {first : List Value} {Q : Value → Shared → Prop} (h : evs M A E env args (fun vs s₁ => wpAny M A (call (.type T) (first ++ vs)) Q E s₁) s) (hs : args.all unstar = true := by rfl) :
  wpAny M A (callWith pos (.type T) first (backTo pos (starEach args env)) []) Q E s := by
 rw [backTo_plain hs]
 exact callWith_type (by rw [List.any_map]; exact List.any_eq_false.mpr fun _ _ h => (Bool.noConfusion h)) (evalArgs_evs h)
def Callable (f : Value) (h : Heap) : Prop := ∃ m o, f = .ref m ∧ h.get? m = some o ∧ ((∃ fd, o.data = .func fd) ∨ (∃ vs, o.data = .fields vs ∧ o.cls = .type "builtin_function_or_method"))
theorem callWith_callable {f : Value} {first : List Value} {args : List (Bool × Sem Value)} {Q : Value → Shared → Prop}
  (h : wpAny M A (evalArgs f true args []) (fun x s₁ => Callable f s₁.heap ∧ wpAny M A (call f (first ++ x.pos) x.kw) Q E s₁) E s) :
  wpAny M A (callWith pos f first args []) Q E s := by
 unfold callWith
 refine wpAny_bind (wpAny_holding (wpAny_mono h (fun x s₁ h₁ => wpAny_bind (wpAny_standAt ?_)) fun _ _ x => x))
 have tail : ∀ {t : Sem Value}, wpAny M A t Q E s₁ → wpAny M A (t >>= fun r => holding [r] point >>= fun _ => pure r) Q E s₁ :=
  fun ht => wpAny_bind (wpAny_mono ht (fun r s₂ hr => wpAny_bind (wpAny_holding (wpAny_point (wpAny_pure hr)))) fun _ _ x => x)
 obtain ⟨⟨m, o, rfl, ho, hd⟩, hc⟩ := h₁
 rcases hd with ⟨fd, hd⟩ | ⟨vs, hd, hcls⟩
 ·cases hs : args.any (·.1) <;> simp only [List.any_nil, Bool.or_false] <;>
   refine wpAny_bind (m := keeperOf (.ref m)) ?_ <;> unfold keeperOf <;>
   refine wpAny_bind (wpAny_load ho ?_) <;> rw [hd] <;> refine wpAny_pure ?_
  ·first
    | refine wpAny_ite ?_
    | skip
   split <;> first
    | exact tail hc
    | exact tail (by unfold callMarked; exact wpAny_keep hc)
  ·first
    | exact tail (by unfold callMarked; exact wpAny_keep hc)
    | exact tail hc
 ·cases hs : args.any (·.1) <;> simp only [List.any_nil, Bool.or_false] <;>
   refine wpAny_bind (m := keeperOf (.ref m)) ?_ <;> unfold keeperOf <;>
   refine wpAny_bind (wpAny_load ho ?_) <;> rw [hd] <;> dsimp only <;> rw [hcls] <;> refine wpAny_pure ?_
  ·exact tail hc
  ·exact tail (fun Γ p hΓ => by rw [Sem.wp_operate]; exact hc Γ p hΓ)
theorem cw_callable {f : Value} {first : List Value} {Q : Value → Shared → Prop} (h : evs M A E env args (fun vs s₁ => Callable f s₁.heap ∧ wpAny M A (call f (first ++ vs)) Q E s₁) s) (hs : args.all unstar = true := by rfl) :
  wpAny M A (callWith pos f first (backTo pos (starEach args env)) []) Q E s := by
 rw [backTo_plain hs]
 exact callWith_callable (evalArgs_evs h)
theorem ev_Call {id : Str} {p1 : Pos} {Q : Value → Shared → Prop} (h : wpAny M A (eval (.Name id p1) env) (fun f s₁ => wpAny M A (callWith pos f [] (backTo pos (starEach args env)) []) Q E s₁) E s) :
  wpAny M A (eval (.Call (.Name id p1) args [] pos) env) Q E s := wpAny_Call_NameR h
end
section
variable {M : Model} {A : Around} {E : Value → Shared → Prop} {s : Shared} {env : Env} {pos : Pos} {args : List Expr}
theorem ev_Method {o : Expr} {name : Str} {apos : Pos} {Q : Value → Shared → Prop}
  (h : wpAny M A (eval o env) (fun ov s₁ => ∀ pl, wpAny M A (getMethod ov name pl) (fun fx s₂ => wpAny M A (callWith pos fx.1 fx.2 (backTo pos (starEach args env)) []) Q E s₂) E s₁) E s)
  (hb : attributeBase o name env (eval o env) = eval o env := by rfl) (hs : args.all unstar = true := by rfl) (hlen : Nat.blt args.length 30 = true := by rfl) (hline : (apos.endLine == pos.line) = true := by rfl) :
  wpAny M A (eval (.Call (.Attribute o name apos) args [] pos) env) Q E s := by
 rw [arm_eval_Call, hb]
 refine wpAny_bind (wpAny_mono h (fun ov s₁ h₁ => ?_) fun _ _ e => e)
 refine wpAny_bind (wpAny_standAt ?_)
 have hform : methodCallForm (args.length + ([] : List Keyword).length) (backTo pos (starEach args env)) (backToKw pos (keywordEach [] env)) = true := by
  unfold methodCallForm
  rw [backTo_plain hs]
  have e1 : ((args.map fun e => (false, eval e env)).all fun x => !x.1) = true := by rw [List.all_map]; exact List.all_eq_true.mpr fun _ _ => rfl
  rw [e1]
  have e2 : args.length < 30 := Nat.le_of_ble_eq_true hlen
  simp only [keywordEach, backToKw, List.map_nil, List.all_nil, List.isEmpty_nil, List.length_nil, if_true, Nat.add_zero, Bool.true_and, decide_eq_true_eq]
  exact e2
 have hpos : methodCallPos true o env apos pos = pure pos := by unfold methodCallPos; simp [hline]
 unfold methodCall
 rw [hform]
 refine wpAny_bind (wpAny_holding (wpAny_mono (h₁ _) (fun fx s₂ h₂ => ?_) fun _ _ e => e))
 obtain ⟨f, first⟩ := fx
 exact wpAny_bind (wpAny_of_eq hpos h₂)
end
theorem fnCallable {w : World} {h : Heap} {f : Addr} (B : Bs w h) (o : Obj) (fd : FuncData) (e : (K w.params).lookup f = some o := by kernel_rfl) (hd : o.data = .func fd := by rfl) : Callable (.ref f) h := ⟨f, o, rfl, B.k f o e, .inl ⟨fd, hd⟩⟩
section
variable {M : Model} {A : Around} {c : Code} {E : Value → Shared → Prop} {s : Shared} {env : Env} {pos : Pos} {args : List Expr}
def ats (M : Model) (A : Around) (c : Code) (E : Value → Shared → Prop) (env : Env) : List Expr → (List Value → Shared → Prop) → Shared → Prop
 | [], Q, s => Q [] s
 | e :: r, Q, s => PySem.wpAt M A c (eval e env) (fun v s₁ => ats M A c E env r (fun vs s₂ => Q (v :: vs) s₂) s₁) E s
theorem at_spliced_cons {x : Sem Value} {rest : List (Bool × Sem Value)} {Q : List Value → Shared → Prop}
  (h : PySem.wpAt M A c x (fun v s₁ => PySem.wpAt M A c (spliced rest) (fun vs s₂ => Q (v :: vs) s₂) E s₁) E s) : PySem.wpAt M A c (spliced ((false, x) :: rest)) Q E s := by
 rw [spliced]
 refine wpAt_bind (wpAt_mono h (fun v s₁ h₁ => ?_) fun _ _ x => x)
 simp only [Bool.false_eq_true, if_false]
 exact wpAt_bind (wpAt_of_wpAny (wpAny_pure (wpAt_bind (ks_wpAt_holding (wpAt_mono h₁ (fun vs s₂ h₂ => wpAt_of_wpAny (wpAny_pure h₂)) fun _ _ x => x)))))
theorem at_spliced : ∀ {args : List Expr} {Q : List Value → Shared → Prop} {s : Shared}, ats M A c E env args Q s → PySem.wpAt M A c (spliced (args.map fun e => (false, eval e env))) Q E s
 | [], Q, s, h => wpAt_of_wpAny (spliced_nil h)
 | e :: r, Q, s, h => at_spliced_cons (wpAt_mono h (fun v s₁ h₁ => at_spliced h₁) fun _ _ e => e)
theorem at_evalArgs_plain {f : Value} {x : Sem Value} {rest : List (Bool × Sem Value)} {Q : Args → Shared → Prop}
  (h : PySem.wpAt M A c (spliced ((false, x) :: rest)) (fun vs s' => Q ⟨vs, []⟩ s') E s) : PySem.wpAt M A c (evalArgs f true ((false, x) :: rest) []) Q E s := by
 unfold evalArgs
 show PySem.wpAt M A c (spliced ((false, x) :: rest) >>= _) Q E s
 refine wpAt_bind (wpAt_mono h (fun vs s' h' => ?_) fun _ _ x => x)
 refine wpAt_of_wpAny (wpAny_holding ?_)
 exact wpAny_bind (wpAny_pure (wpAny_bind (wpAny_pure (wpAny_pure h'))))
theorem at_cw_builtin {id : String} {e : Expr} {r : List Expr} {Q : Value → Shared → Prop} (h : ats M A c E env (e :: r) (fun vs s₁ => wpAny M A (call (.builtin id) vs) Q E s₁) s) (hs : (e :: r).all unstar = true := by rfl) :
  PySem.wpAt M A c (callWith pos (.builtin id) [] (backTo pos (starEach (e :: r) env)) []) Q E s := by
 rw [backTo_plain hs]
 have hp : ((e :: r).map fun e => (false, eval e env)).any (·.1) = false := by rw [List.any_map]; exact List.any_eq_false.mpr fun _ _ h => (Bool.noConfusion h)
 unfold callWith
 refine wpAt_bind (ks_wpAt_holding (at_evalArgs_plain (wpAt_mono (at_spliced (args := e :: r) h) (fun vs s₁ h₁ => wpAt_of_wpAny (wpAny_bind (wpAny_standAt ?_))) fun _ _ x => x)))
 simp only [hp, List.any_nil, Bool.or_false]
 refine wpAny_bind (wpAny_pure ?_)
 exact wpAny_bind (wpAny_mono h₁ (fun r s₂ hr => wpAny_bind (wpAny_holding (wpAny_point (wpAny_pure hr)))) fun _ _ x => x)
theorem at_Call_Call {id : Str} {p1 p' : Pos} {a' args : List Expr} {Q : Value → Shared → Prop} (h : PySem.wpAt M A c (eval (.Call (.Name id p1) a' [] p') env) (fun f s₁ => wpAny M A (callWith pos f [] (backTo pos (starEach args env)) []) Q E s₁) E s) :
  PySem.wpAt M A c (eval (.Call (.Call (.Name id p1) a' [] p') args [] pos) env) Q E s := by
 show PySem.wpAt M A c (do callWith pos (← eval (.Call (.Name id p1) a' [] p') env) [] (backTo pos (starEach args env)) (backToKw pos (keywordEach [] env))) Q E s
 exact wpAt_bind (wpAt_mono h (fun _ _ h' => wpAt_of_wpAny h') fun _ _ e => e)
theorem at_Call_Name {id : Str} {p1 : Pos} {args : List Expr} {Q : Value → Shared → Prop} (h : wpAny M A (eval (.Name id p1) env) (fun f s₁ => PySem.wpAt M A c (callWith pos f [] (backTo pos (starEach args env)) []) Q E s₁) E s) :
  PySem.wpAt M A c (eval (.Call (.Name id p1) args [] pos) env) Q E s := by
 show PySem.wpAt M A c (do callWith pos (← eval (.Name id p1) env) [] (backTo pos (starEach args env)) (backToKw pos (keywordEach [] env))) Q E s
 exact wpAt_bind (wpAt_of_wpAny h)
theorem at_Attribute {w : World} {e : Expr} {attr : Str} {Q : Value → Shared → Prop} (h : PySem.wpAt (Md w) A c (attributeBase e attr env (eval e env)) (fun o s₁ => wpAny (Md w) A (getAttr o attr true) Q E s₁) E s) :
  PySem.wpAt (Md w) A c (eval (.Attribute e attr pos) env) Q E s := by
 show PySem.wpAt _ A c (do
  let o ← attributeBase e attr env (eval e env)
  standAt pos.atName
  let r ← holding [o] (getAttr o attr true)
  letTemporaryGo e o r
  pure r) Q E s
 exact wpAt_bind (wpAt_mono h (fun o s₁ h₁ => wpAt_of_wpAny (wpAny_bind (wpAny_standAt (wpAny_bind (wpAny_holding (wpAny_mono h₁ (fun r s₂ h₂ => wpAny_bind (wpAny_letTemporaryGo (wpAny_pure h₂))) fun _ _ e => e)))))) fun _ _ e => e)
end
end
section
def Grow (s s' : Shared) : Prop := ∃ h' tk, s' = { s with heap := h', toks := tk } ∧ ∀ b o, s.heap.get? b = some o → h'.get? b = some o
theorem Grow.refl (s : Shared) : Grow s s := ⟨_, _, rfl, fun _ _ e => e⟩
theorem Grow.trans {s₁ s₂ s₃ : Shared} (x : Grow s₁ s₂) (y : Grow s₂ s₃) : Grow s₁ s₃ := by
 obtain ⟨h, t, rfl, k⟩ := x
 obtain ⟨h', t', rfl, k'⟩ := y
 exact ⟨h', t', rfl, fun b o e => k' b o (k b o e)⟩
theorem Grow.keep {s s' : Shared} (x : Grow s s') : ∀ b o, s.heap.get? b = some o → s'.heap.get? b = some o := by
 obtain ⟨h, t, rfl, k⟩ := x; exact k
theorem Grow.of {s : Shared} {h' : Heap} {tk : Nat} (k : ∀ b o, s.heap.get? b = some o → h'.get? b = some o) : Grow s { s with heap := h', toks := tk } := ⟨h', tk, rfl, k⟩
theorem Grow.tok (s : Shared) (tk : Nat) : Grow s { s with toks := tk } := ⟨s.heap, tk, rfl, fun _ _ e => e⟩
theorem Mem.grow {h h' : Heap} {news : List (Addr × Obj)} (D : PySem.W.X.Mem h h' [] news) : ∀ b o, h.get? b = some o → h'.get? b = some o := fun b o e => D.keep b o e (by simp [PySem.W.X.away])
noncomputable abbrev fd98 : FuncData := fnD (clsS 4 1) "FreezableDefaultDict.__missing__" 3 [("__class__", 86)] .none .none .none (.str "cpy313.importlib.metadata._collections" 286) none (.ref 97) (.ref 91) 0
noncomputable abbrev superO (a : Nat) : Obj := { cls := .type "super", dict := none, data := .fields #[.ref 108, .ref a, .ref 108], slots := #[] }
noncomputable abbrev boundO (a : Nat) : Obj := ⟨.type "builtin_function_or_method", none, .fields #[.builtin "collections.defaultdict.__missing__", .ref a], #[]⟩
theorem get_miss {w : World} {A : Around} {E : Value → Shared → Prop} {s : Shared} {a d so : Nat} {kvs : KVs} {Q : Value → Shared → Prop} (B : Bs w s.heap) (hA : Ok A 890 900) (hn : NodeAt w s.heap a d kvs) (hso : s.heap.get? so = some (superO a))
  (h : ∀ m s', Grow s s' → s'.heap.get? m = some (boundO a) → Q (.ref m) s') : wpAny (Md w) A (getAttr (.ref so) "__missing__" true) Q E s := by
 have hT : ∀ t', ({ s with toks := t' } : Shared).TypeIs (.ref so) "super" := fun _ => ⟨_, hso, rfl⟩
 have hlk := F.ks_slot_super_ga.lookup
 unfold getAttr getAttrBy
 refine wpAny_bind (wpAny_mkText (wpAny_holding (wpAny_bind (wpAny_typeOf (hT _) (wpAny_bind (wpAny_of_eq hlk ?_))))))
 show wpAny _ _ (getAttrByItsOwn (.ref so) (.str "__missing__" s.toks) (.type "super") (.builtin "super.__getattribute__") true true) _ _ _
 unfold getAttrByItsOwn hookBefore callGetattribute boundAndCalled
 refine wpAny_bind (wpAny_of_eq (show (if onTheHeap (.type "super") then typeLookup (.type "super") "__getattr__" else pure none) = pure none from rfl) ?_)
 refine wpAny_bind (wpAny_attempt (wpAny_holding ?_))
 show wpAny _ _ (bindSpecial (.builtin "super.__getattribute__") (.ref so) >>= _) _ _ _
 refine wpAny_bind (wpAny_of_eq (F.ks_slot_super_ga.bind _) ?_)
 refine wpAny_mono (Q := fun v s' => ∃ m, v = .ref m ∧ Grow s s' ∧ s'.heap.get? m = some (boundO a)) (E := fun _ _ => False)
  (wpAny_call_entry F.ks_slot_super_ga (hT _) F.ks_entry_super_ga (super_ga B.k hn.lo hso ?_) (F.ks_gaArgs_super _ _)) (fun v s' hv => ?_) fun _ _ z => z.elim
 ·obtain ⟨es, ep, ho, D⟩ := hn.at_
  refine wpAny_mono (weaken (by exact hA.h) (by have := hA.d; show A.depth ≤ 890; lia) (by have := hA.u; show A.units + 1 ≤ 1000; lia) (get_bound (s := { s with toks := s.toks + 1 }) (E := fun _ _ => False) B.k ho)) (fun v s' hv => ?_) fun _ _ z => z.elim
  obtain ⟨m, h', tk, news, rfl, rfl, hm, D'⟩ := hv
  exact ⟨_, rfl, _, rfl, Grow.of (Mem.grow D'), hm⟩
 ·obtain ⟨m, rfl, hg, hm⟩ := hv
  exact wpAny_pure (h m _ hg hm)
end
section
theorem call98 {w : World} {A : Around} {E : Value → Shared → Prop} {s : Shared} {a d : Nat} {kvs : KVs} {key : Value} {Q : Value → Shared → Prop} (B : Bs w s.heap) (hA : Ok A 880 890) (hn : NodeAt w s.heap a d kvs)
  (hg : ∀ A' E' s₂ m tok, Ok A' 881 893 → Grow s s₂ → s₂.heap.get? m = some (boundO a) → wpAny (Md w) A' (call (.builtin "getattr") [.ref a, .str "_frozen" tok, .ref m])
   (fun f s₃ => Grow s₂ s₃ ∧ Callable f s₃.heap ∧ wpAny (Md w) A' (call f [key]) Q E' s₃) E' s₂) : wpAny (Md w) A (call (.ref 98) [.ref a, key]) Q E s := by
 refine wpAny_call (ks_codeAny_call_defAt (fd := fd98) (binds := [("self", .ref a), ("key", key)]) (by have := hA.d; show A.depth < 1000; lia) (B.k 98 (o98p1 w.params) (by kernel_rfl)) rfl B.nolimit (codeRec_of B.k (by kernel_rfl)) rfl (.of_eq rfl) (by decide +kernel)
  (by
    intro x hx; rcases List.mem_cons.mp hx with rfl | hx; · rfl
    rcases List.mem_cons.mp hx with rfl | hx; · rfl
    cases hx) fun h₀ hns hk => ?_)
 have B₀ := B.grow hk
 have hV : Vars h₀ (callEnv fd98 s.heap.objs.size 98) (fun x => if x = "__class__" then some (.ref 108) else ([("self", Value.ref a), ("key", key)] : List (Str × Value)).reverse.lookup x) := by
  have hcl : ∀ y c, (callEnv fd98 s.heap.objs.size 98).cells.lookup y = some c → y = "__class__" ∧ c = 86 := by
   intro y c e
   have e' : List.lookup y [(("__class__" : Str), 86)] = some c := e
   simp only [List.lookup] at e'
   split at e'
   ·rename_i q; exact ⟨beq_iff_eq.mp q, (Option.some.inj e').symm⟩
   ·cases e'
  refine ⟨rfl, ⟨_, hns, fun y hy => ?_⟩, fun y c e => ?_, fun y z c ey ez => (hcl _ _ ey).1.trans (hcl _ _ ez).1.symm, fun y c e => ?_, fun y c e => ?_⟩
  ·have : y ≠ "__class__" := by rintro rfl; exact absurd (show fd98.scope.names.lookup ("__class__" : Str) = some NameKind.local from hy) (by decide +kernel)
   rw [if_neg this]
  ·obtain ⟨rfl, rfl⟩ := hcl y c e
   exact ⟨_, B₀.k 86 (o86p1 w.params) (by kernel_rfl), rfl⟩
  ·obtain ⟨rfl, rfl⟩ := hcl y c e
   have := B.n
   show (86 : Nat) ≠ s.heap.objs.size
   lia
  ·obtain ⟨rfl, rfl⟩ := hcl y c e
   exact (show fd98.scope.names.lookup ("__class__" : Str) ≠ some NameKind.local from by decide +kernel)
 have hA' : Ok (A.deeper (callEnv fd98 s.heap.objs.size 98)) 881 893 := hA.deeper _
 generalize hE : (fun (e : Value) (s' : Shared) => wpAny (model pw w) (A.deeper (callEnv fd98 s.heap.objs.size 98)) (leaving (callEnv fd98 s.heap.objs.size 98) e) _ _ s') = E'
 generalize htk : s.toks + _ = tk
 clear hE htk
 refine ks_wpAt_execs_cons (ks_wpAt_Return_some ?_)
 refine wpAt_mono (Q := Q) (E := E') ?_ (fun _ _ h => h) fun _ _ h => h
 have g0 : Grow s { s with heap := h₀, toks := tk } := Grow.of hk
 refine at_Call_Call (at_Call_Name (blt (v := .builtin "getattr") B₀ ?_))
 refine at_cw_builtin ?_
 refine wpAt_of_wpAny (hV.nm (v := .ref a) ?_ (by rfl))
 refine wpAt_of_wpAny (Constant_str ?_)
 refine at_Attribute ?_
 refine ks_wpAt_super_base (f := 98) (cc := 97) (by rfl) (by rfl) (by rfl) (by rfl) (B₀.k 98 (o98p1 w.params) (by kernel_rfl)) rfl (by rfl) (by rfl) (B₀.k 97 (o97p1 w.params) (by kernel_rfl)) rfl (by rfl) (by decide +kernel) (by decide +kernel) ?_
 refine bltN (v := .type "super") B₀ ⟨rfl, ?_⟩
 refine hV.ld (x := "__class__") (v := .ref 108) (by rfl) (by rfl) ?_
 refine hV.ld (x := "self") (v := .ref a) (by rfl) (by rfl) ?_
 refine ks_wpAny_isType_cls (B₀.k 108 (o108p1 w.params) (by kernel_rfl)) rfl ⟨rfl, ?_⟩
 obtain ⟨es, ep, ho, D⟩ := id hn.at_
 refine ks_wpAny_call_super (B₀.k 108 (o108p1 w.params) (by kernel_rfl)) rfl (hk _ _ ho) rfl (fun c e => by cases e) (looks_subIn B₀.k (by kernel_rfl)) fun h₁ hso hk₁ => ?_
 have hn₁ : NodeAt w h₁ a d kvs := ⟨hn.lo, hn.at_.at fun o e => hk₁ _ _ (hk _ _ e)⟩
 have B₁ := B₀.grow hk₁
 refine get_miss (s := ⟨h₁, s.gens, s.drawn, tk + 1, s.os⟩) B₁ (hA'.le (by lia) (by lia)) hn₁ hso fun m s₂ g₂ hm => ?_
 have g₁ : Grow s ⟨h₁, s.gens, s.drawn, tk + 1, s.os⟩ := Grow.of fun b o e => hk₁ _ _ (hk _ _ e)
 refine wpAny_mono (hg _ E' s₂ m _ hA' (g₁.trans g₂) hm) (fun f s₃ h₃ => ?_) fun _ _ e => e
 obtain ⟨g₃, hcal, hc⟩ := h₃
 have V₃ : Vars s₃.heap _ _ := hV.grow fun b o e => g₃.keep _ _ (g₂.keep _ _ (hk₁ _ _ e))
 refine cw_callable (V₃.nm (v := key) ⟨hcal, hc⟩ (by rfl))
end
end Mine
end
section
open PySem PySem.W PyProof.Rows PySem.W.X
namespace Mine
section
def GotIs (r : Value) (s : Shared) (v : Value) (s' : Shared) : Prop := ∃ h' tk news, v = r ∧ s' = { s with heap := h', toks := tk } ∧ PySem.W.X.Mem s.heap h' [] news
local macro_rules | `(tactic| x_close) => `(tactic| (exact ⟨_, _, _, rfl, rfl, by first | assumption | exact PySem.W.X.Mem.start _⟩))
theorem get_none {w : World} {s : Shared} {E : Value → Shared → Prop} {a d f : Addr} {ep ep' : Nat} {t : Tok} {es : Array DictEntry} (KX : (K w.params).In s.heap) (ha : s.heap.get? a = some ⟨.ref 108, some d, .dict es ep, #[some (.ref 237)]⟩) (hd : s.heap.get? d = some ⟨.type "dict", none, .dict #[] ep', #[]⟩) :
  wpAny (model pw w) (AR 890 1000) (call (.builtin "getattr") [.ref a, .str "_frozen" t, .ref f]) (GotIs (.ref f) s) E s := by
 x_run
theorem get_frozen {w : World} {s : Shared} {E : Value → Shared → Prop} {a d f F : Addr} {ep ep' t1 : Nat} {t : Tok} {es : Array DictEntry} (KX : (K w.params).In s.heap) (ha : s.heap.get? a = some ⟨.ref 108, some d, .dict es ep, #[some (.ref 237)]⟩)
  (hd : s.heap.get? d = some ⟨.type "dict", none, .dict #[⟨PyData.keyHash w.params "_frozen", .str "_frozen" t1, .ref F⟩] ep', #[]⟩) :
  wpAny (model pw w) (AR 890 1000) (call (.builtin "getattr") [.ref a, .str "_frozen" t, .ref f]) (GotIs (.ref F) s) E s := by
 x_run
end
end Mine
end
section
open PySem PySem.W PySem.Calls
open PyProof.Rows hiding wpAt wpAt_bind wpAt_mono callWith_type
namespace Mine
section
theorem wpAny_callBorrowed {M : Model} {A : Around} {E : Value → Shared → Prop} {s : Shared} {f : Value} {pos : List Value} {Q : Value → Shared → Prop} (h : wpAny M A (call f pos) Q E s) : wpAny M A (callBorrowed f pos) Q E s := fun Γ p hΓ => by
 have h1 := h Γ p hΓ
 unfold call at h1
 rw [Sem.wp_runValue] at h1
 refine wpCode_mono (fun r s' q => ?_) h1
 cases r with
 | ok fl => cases fl <;> first | exact q | exact q.elim
 | error e => exact q
noncomputable def sigM := (Manifest.signature? missName).get (by decide +kernel)
theorem sig_miss : Manifest.signature? missName = some sigM := by kernel_rfl
theorem kind_miss : builtinKind missName = some .method := by decide +kernel
theorem check_miss (P : Params) (a : Nat) (key : Value) : Bind.checkArgs missName { sigM with full := toString (cd108 P).qualname.toString ++ toString "." ++ toString (Bind.lastOf missName) } ⟨[.ref a, key], []⟩ = pure () := by kernel_rfl
theorem entry_miss : entryFor table missName = some Builtin.«collections.defaultdict.__missing__» := entryFor_of_fast (by kernel_rfl)
theorem plain_miss : plainId missName = true := by decide +kernel
abbrev openDict (h : Heap) (d : Nat) : Prop := ∃ ep, h.get? d = some ⟨.type "dict", none, .dict #[] ep, #[]⟩
def NewNode (s : Shared) (v : Value) (s' : Shared) : Prop := ∃ a d, v = .ref a ∧ Grow s s' ∧ s.heap.get? a = none ∧ s.heap.get? d = none ∧ (∃ ep, s'.heap.get? a = some (nodeO #[] ep d)) ∧ openDict s'.heap d
theorem node_mod (P : Params) : subIn (K P) (.ref 108) (.type "module") = some false := by kernel_rfl
theorem vm_miss : Manifest.varargsMethods.contains missName = false := by decide +kernel
theorem check_bound {w : World} {A : Around} {E : Value → Shared → Prop} {s : Shared} {a d : Nat} {kvs : KVs} {key : Value} {Q : Unit → Shared → Prop} (B : Bs w s.heap) (hn : NodeAt w s.heap a d kvs) (h : Q () s) :
  wpAny (Md w) A (checkBoundCall missName ⟨[.ref a, key], []⟩) Q E s := by
 unfold checkBoundCall
 rw [sig_miss]
 simp only [kind_miss]
 rw [if_neg (by decide)]
 refine wpAny_bind ((node_is B hn (node_mod _)).here ?_)
 rw [vm_miss]
 obtain ⟨es, ep, ho, D⟩ := id hn.at_
 obtain ⟨hh, g, dd, tk, os⟩ := s
 rw [if_neg (by decide)]
 refine wpAny_bind (ks_wpAny_isType_inst ho (fun c e => by cases e) ?_)
 rw [if_neg (by decide)]
 refine wpAny_bind ((node_ty hn).here ?_)
 refine wpAny_bind (Looks.at (looks_clsIn B.k (cls108 w.params)) ?_)
 refine wpAny_bind (Looks.at (looks_typeIn B.k (v := .ref 108) (t := .type "type") (by kernel_rfl)) ?_)
 rw [if_pos (by decide)]
 exact wpAny_of_eq (check_miss w.params a key) h
theorem dict_setdefault {w : World} {A : Around} {E : Value → Shared → Prop} {s : Shared} {a : Addr} {c : Value} {dd : Option Addr} {sl : Array (Option Value)} {kvs : KVs} {x : Str} {t : Tok} {v : Value} {Q : Value → Shared → Prop} (D : DAt w s.heap a c dd sl kvs) (hsz : kvs.length ≤ sizeLine) (hv : valueAt kvs x = none)
  (h : ∀ h', DAt w h' a c dd sl (stored kvs x v) → Heap.SameBut a s.heap h' → Q v { s with heap := h', toks := s.toks + 1 }) : wpAny (Md w) A (dictSetDefault a (.str x t) v) Q E s := by
 obtain ⟨es, ep, ho, D⟩ := D
 have hes : es.size ≤ sizeLine := by rw [D.size]; exact hsz
 unfold dictSetDefault
 refine wpAny_holding ?_
 refine wpAny_bind ((sk w).pyHash (str_is w x t) ?_)
 refine wpAny_bind (wpAny_dictFind_of (s := { s with toks := s.toks + 1 }) (str_is w x t) ho rfl D.keys ?_)
 have hidx := dk_idx (x := x) D
 have hnot : x ∉ kvs.map (·.1) := by
  intro hx
  obtain ⟨i, hi⟩ := List.getElem?_of_mem hx
  rw [List.getElem?_map] at hi
  cases hk : kvs[i]? with
  | none => rw [hk] at hi; cases hi
  | some kv =>
   rw [hk] at hi
   obtain ⟨k, u⟩ := kv
   have e : k = x := Option.some.inj hi
   subst e
   have := valueAt_of_get D.nodup hk
   rw [hv] at this
   cases this
 have hnone : (es.findIdx? fun e => (sk w).is x e.key) = none := by
  rw [hidx, List.findIdx?_eq_none_iff]
  intro kv hkv
  have : kv.1 ≠ x := fun e => hnot (List.mem_map.mpr ⟨kv, hkv, e⟩)
  simpa using this
 rw [hnone]
 have hany : ¬ (kvs.any fun kv => decide (kv.1 = x)) = true := by
  rw [List.any_eq_true]; rintro ⟨kv, hkv, he⟩
  exact hnot (List.mem_map.mpr ⟨kv, hkv, of_decide_eq_true he⟩)
 refine wpAny_bind (wpAny_rule (wpAny_bind (wpAny_updateDictKeys (hz := hes) (s := { s with toks := s.toks + 1 }) ho rfl (wpAny_pure (h _ ⟨_, ep + 1, Heap.get?_update_self _ ho rfl, D.keys.push (str_is w x t) _, ?_, ?_⟩ (Heap.SameBut.update ..))))))
 ·rw [stored, if_neg hany]
  have := D.pairs.append (str_is w x t) ((sk w).hash x) v
  obtain ⟨l⟩ := es
  simpa using this
 ·rw [stored, if_neg hany, List.map_append, List.nodup_append]
  refine ⟨D.nodup, by simp, ?_⟩
  intro a ha b hb
  simp only [List.map_cons, List.map_nil, List.mem_singleton] at hb
  subst hb
  exact fun e => hnot (e ▸ ha)
theorem call_bound {w : World} {A : Around} {E : Value → Shared → Prop} {s : Shared} {a d m : Nat} {kvs : KVs} {x : Str} {t : Tok} {Q : Value → Shared → Prop} (B : Bs w s.heap) (hA : Ok A 885 960) (hn : NodeAt w s.heap a d kvs) (hm : s.heap.get? m = some (boundO a)) (hv : valueAt kvs x = none) (hsz : kvs.length ≤ sizeLine)
  (hnode : ∀ A' E', Ok A' 885 970 → wpAny (Md w) A' (call (.ref 237) []) (NewNode s) E' s)
  (h : ∀ a' d' h' tk, s.heap.get? a' = none → s.heap.get? d' = none → (∃ ep, h'.get? a' = some (nodeO #[] ep d')) → openDict h' d' → NodeAt w h' a d (stored kvs x (.ref a')) → (∀ b o, b ≠ a → s.heap.get? b = some o → h'.get? b = some o) → Q (.ref a') { s with heap := h', toks := tk }) :
  wpAny (Md w) A (call (.ref m) [.str x t]) Q E s := by
 refine wpAny_call (codeAny_of_tree ?_)
 show wpAny _ A.in1 (callAny (.ref m) ⟨[.str x t], []⟩) _ _ s
 unfold callAny
 refine wpAny_bind (wpAny_load hm ?_)
 dsimp only
 rw [if_pos (by decide)]
 show wpAny _ _ (if (Value.type "builtin_function_or_method" != Value.type "method") = true then _ else _) _ _ s
 rw [if_pos (by decide)]
 refine wpAny_bind (check_bound B hn ?_)
 refine wpAny_bind (wpAny_pure ?_)
 refine wpAny_pure ⟨plainId_quiet plain_miss _, codeAny_builtin entry_miss ?_⟩
 rw [Around.under_plainId plain_miss]
 obtain ⟨es, ep, ho, D⟩ := id hn.at_
 unfold Builtin.«collections.defaultdict.__missing__»
 refine wpAny_bind (wpAny_of_eq (a := (Value.ref a, Value.str x t)) rfl ?_)
 dsimp only
 refine wpAny_bind ?_
 unfold Builtin.Collections_defaultdict.factory? slotAt
 refine wpAny_bind (wpAny_bind (wpAny_loadPart ho (wpAny_pure (wpAny_pure ?_))))
 show wpAny _ _ (callOutOfASlot (.ref 237) [] >>= _) _ _ s
 unfold callOutOfASlot borrowsExactly
 refine wpAny_bind (wpAny_bind (wpAny_bind (wpAny_load (B.k 237 (o237p6 w.params) (by kernel_rfl)) (wpAny_pure ?_))))
 rw [if_pos rfl]
 refine wpAny_callBorrowed (wpAny_mono (hnode _ _ ⟨hA.h, hA.d, ?_⟩) (fun v s₁ h₁ => ?_) fun _ _ e => e)
 ·have := hA.u; show A.units + 1 ≤ 970; omega
 obtain ⟨a', d', rfl, g₁, fa, fd, hn', hd'⟩ := h₁
 have k₁ := g₁.keep
 have hn₁ : NodeAt w s₁.heap a d kvs := ⟨hn.lo, hn.at_.at fun o e => k₁ _ _ e⟩
 refine wpAny_pure ⟨plainId_quiet (by decide +kernel) _, codeAny_builtin F.entry_dict_setdefault ?_⟩
 rw [Around.under_plainId (by decide +kernel)]
 unfold Builtin.«dict.setdefault»
 refine wpAny_bind ?_
 unfold Builtin.Dict.keyAndDefault
 refine wpAny_bind (node_notOrdered (B.grow k₁) hn₁ ?_)
 show wpAny _ _ (pure () >>= _) _ _ s₁
 refine wpAny_bind (wpAny_pure ?_)
 show wpAny _ _ (pure _ >>= _) _ _ s₁
 refine wpAny_bind (wpAny_pure ?_)
 refine wpAny_bind (wpAny_pure (wpAny_pure ?_))
 dsimp only
 rw [not_mods hn.lo]
 rw [if_neg (by decide)]
 refine wpAny_bind (dict_setdefault hn₁.at_ hsz hv fun h' D' S' => wpAny_pure ?_)
 obtain ⟨h₁, tk₁, rfl, _⟩ := g₁
 have ka : a' ≠ a := fun e => by rw [e, ho] at fa; cases fa
 have kd : d' ≠ a := fun e => by rw [e, ho] at fd; cases fd
 obtain ⟨ep', hn'⟩ := hn'
 obtain ⟨ep'', hd'⟩ := hd'
 exact h a' d' h' _ fa fd ⟨ep', (S'.2 a' ka).trans hn'⟩ ⟨ep'', (S'.2 d' kd).trans hd'⟩ ⟨hn.lo, D'⟩ fun b o hb e => (S'.2 b hb).trans (k₁ b o e)
end
end Mine
end
section
open PySem PySem.W PyProof.Rows PySem.W.X
namespace Mine
section
theorem Mem.both {h₀ h : Heap} {chg news : List (Addr × Obj)} (D : PySem.W.X.Mem h₀ h chg news) (i : Nat) {a : Addr} {o : Obj} (e : news[i]? = some (a, o)) : h.get? a = some o ∧ h₀.get? a = none := D.nw _ (List.mem_of_getElem? e)
def MadeNode (s : Shared) (v : Value) (s' : Shared) : Prop := ∃ a d h' tk news, v = .ref a ∧ s' = { s with heap := h', toks := tk } ∧ (h'.get? a = some (nodeO #[] 0 d) ∧ s.heap.get? a = none) ∧ (h'.get? d = some ⟨.type "dict", none, .dict #[] 0, #[]⟩ ∧ s.heap.get? d = none) ∧ PySem.W.X.Mem s.heap h' [] news
local macro_rules | `(tactic| x_close) => `(tactic| (exact ⟨_, _, _, _, _, rfl, rfl, Mem.both (by assumption) 0 rfl, Mem.both (by assumption) 1 rfl, by assumption⟩))
theorem mk_node0 {w : World} {s : Shared} {E : Value → Shared → Prop} {fd : FuncData} (KX : (K w.params).In s.heap) (h237 : s.heap.get? (nat_lit 237) = some ⟨.type "function", none, .func fd, #[]⟩) : wpAny (model pw w) (AR 910 1010) (call (.ref 108) [.ref 237]) (MadeNode s) E s := by
 x_run
theorem keep108 (P : Params) : keepIn (K P) (.ref 108) = true := by kernel_rfl
section
open PyProof.Rows hiding wpAt wpAt_bind wpAt_mono callWith_type
theorem law_node {w : World} {A : Around} {s : Shared} {E : Value → Shared → Prop} (B : Bs w s.heap) (hA : Ok A 900 1000) : wpAny (Md w) A (call (.ref 237) []) (NewNode s) E s := by
 refine enter (fd := fnD (topS 63) "_law_node" 3 [] (.none) (.none) (.none) (.str "law_in0017_01" 761) none (.ref 236) (.none) 0) (o := o237p6 w.params) (binds := []) B hA (by decide) fun h₁ tk E' V hk hown => ?_
 have hA' := hA.deeper (callEnvC (fnD (topS 63) "_law_node" 3 [] (.none) (.none) (.none) (.str "law_in0017_01" 761) none (.ref 236) (.none) 0) s.heap.objs.size 237)
 have B₁ := B.grow hk
 clear V hown
 refine wpAny_execs_cons (wpAny_Return_some (ev_Call (glob (v := .ref 108) B₁ ?_)))
 refine callWith_K B₁.k (keep108 _) ?_
 rw [backTo_plain (by rfl)]
 refine spliced_evs (glob (v := .ref 237) B₁ ⟨B₁.k, ?_⟩)
 refine wpAny_mono (weaken (d := 910) (u := 1010) hA'.h (Nat.le_trans hA'.d (by decide)) (Nat.le_trans hA'.u (by decide)) (mk_node0 B₁.k (B₁.k 237 (o237p6 w.params) (by kernel_rfl)))) (fun v s' h => ?_) fun _ _ e => e
 obtain ⟨a, d, h', tk', news, rfl, rfl, ha, hd, D⟩ := h
 have fr : ∀ z, h₁.get? z = none → s.heap.get? z = none := fun z fz => by
  cases e : s.heap.get? z with
  | none => rfl
  | some o => have := hk z o e; rw [fz] at this; cases this
 exact ⟨a, d, rfl, Grow.of fun b o e => Mem.grow D b o (hk b o e), fr a ha.2, fr d hd.2, ⟨_, ha.1⟩, ⟨_, hd.1⟩⟩
end
end
end Mine
end
section
open PySem PySem.W PySem.Calls
open PyProof.Rows hiding wpAt wpAt_bind wpAt_mono callWith_type
namespace Mine
section
section
variable {w : World} {A : Around} {E : Value → Shared → Prop} {s : Shared} {a d : Nat} {kvs : KVs} {od : Obj} {name : Str}
theorem f_ga (P : Params) : findIn (K P) (.ref 108) "__getattribute__" = some (some (.builtin "collections.defaultdict.__getattribute__")) := by kernel_rfl
theorem f_gattr (P : Params) : findIn (K P) (.ref 108) "__getattr__" = some none := by kernel_rfl
theorem can_dga : (Manifest.canonical "collections.defaultdict.__getattribute__" != "object.__getattribute__") = false := by decide +kernel
theorem bs_dga (v : Value) : bindSpecial (.builtin "collections.defaultdict.__getattribute__") v = pure (.builtin "collections.defaultdict.__getattribute__", [v]) := by kernel_rfl
theorem node_inst' {h : Heap} (hn : NodeAt w h a d kvs) (hd : h.get? d = some od) : ∃ ox, InstAt h a ox 108 (some od) := let ⟨_, _, ho, _⟩ := hn.at_; ⟨_, node_inst ho hd⟩
theorem node_getAttr {expr : Bool} {Q : Value → Shared → Prop} (B : Bs w s.heap) (hn : NodeAt w s.heap a d kvs)
  (h : wpAny (Md w) A (call (.builtin "collections.defaultdict.__getattribute__") [.ref a, .str name s.toks]) (fun v s' => handedOut v = pure v ∧ Q v s') (fun _ _ => False) { s with toks := s.toks + 1 }) : wpAny (Md w) A (getAttr (.ref a) name expr) Q E s := by
 obtain ⟨es, ep, ho, D⟩ := id hn.at_
 obtain ⟨hh, g, dd, tk, os⟩ := s
 have L0 : Looks (Md w) hh (typeOf (.ref a)) (.ref 108) := node_ty hn
 have L1 := looks_findIn (M := Md w) B.k (f_ga w.params)
 have L2 := looks_findIn (M := Md w) B.k (f_gattr w.params)
 unfold getAttr getAttrBy
 refine wpAny_bind (wpAny_mkText (wpAny_holding (wpAny_bind (L0.at (wpAny_bind (L1.at ?_))))))
 show wpAny _ _ (getAttrByItsOwn _ _ _ _ _ _) _ _ _
 unfold getAttrByItsOwn hookBefore
 refine wpAny_bind (L2.at ?_)
 show wpAny _ _ ((holding [] (callGetattribute (.ref a) (.str name tk) (.builtin "collections.defaultdict.__getattribute__") expr)).attempt >>= _) _ _ _
 refine wpAny_bind (wpAny_attempt (wpAny_holding ?_))
 have e : callGetattribute (.ref a) (.str name tk) (.builtin "collections.defaultdict.__getattribute__") expr = boundAndCalled (.builtin "collections.defaultdict.__getattribute__") (.ref a) (.str name tk) := by
  unfold callGetattribute
  rw [show (expr && onTheHeap (.builtin "collections.defaultdict.__getattribute__")) = false from by cases expr <;> rfl]
  rfl
 rw [e]
 unfold boundAndCalled
 rw [bs_dga]
 refine wpAny_bind (wpAny_pure ?_)
 refine wpAny_mono h (fun v s' hv => ?_) fun _ _ z => z.elim
 show wpAny _ _ (handedOut v) _ _ _
 rw [hv.1]
 exact wpAny_pure hv.2
theorem getm_usual {r : Option Value} {pl : Sem Bool} {Q : Value × List Value → Shared → Prop} (B : Bs w s.heap) (hn : NodeAt w s.heap a d kvs) (hf : findIn (K w.params) (.ref 108) name = some r)
  (ht : r.all (fun a => (typeIn (K w.params) a).any fun t => t != .type "function" && t != .type "method_descriptor" && t != .type "wrapper_descriptor") = true)
  (h : wpAny (Md w) A (getAttr (.ref a) name) (fun v => Q (v, [])) E s) : wpAny (Md w) A (getMethod (.ref a) name pl) Q E s := by
 have L0 : Looks (Md w) s.heap (typeOf (.ref a)) (.ref 108) := node_ty hn
 have u : wpAny (Md w) A (do return (← getAttr (.ref a) name, ([] : List Value))) Q E s := wpAny_bind (wpAny_mono h (fun _ _ z => wpAny_pure z) fun _ _ z => z)
 unfold getMethod specialOf
 refine wpAny_bind (wpAny_bind (L0.here ((looks_findIn B.k (f_ga _)).here ?_)))
 dsimp only
 rw [can_dga, if_neg (by decide)]
 refine wpAny_bind (wpAny_bind (L0.here ((looks_findIn B.k (f_gattr _)).here ?_)))
 refine wpAny_bind (wpAny_bind (L0.here ((looks_findIn B.k hf).here ?_)))
 cases r with
 | none => exact u
 | some a =>
  obtain ⟨t, a1, a2⟩ := any_some ht
  refine wpAny_bind ((looks_typeIn B.k a1).here ?_)
  rw [if_pos a2]; exact u
theorem getm_meth {f : Value} {tf : Value} {pl : Sem Bool} {Q : Value × List Value → Shared → Prop} (B : Bs w s.heap) (hn : NodeAt w s.heap a d kvs) (hd : s.heap.get? d = some od) (hf : findIn (K w.params) (.ref 108) name = some (some f))
  (ht : typeIn (K w.params) f = some tf) (ht' : (tf != .type "function" && tf != .type "method_descriptor" && tf != .type "wrapper_descriptor") = false) (hs : lookIn name od = some none) (h : Q (f, [.ref a]) s) : wpAny (Md w) A (getMethod (.ref a) name pl) Q E s := by
 have L0 : Looks (Md w) s.heap (typeOf (.ref a)) (.ref 108) := node_ty hn
 obtain ⟨es, ep, ho, D⟩ := id hn.at_
 unfold getMethod specialOf
 refine wpAny_bind (wpAny_bind (L0.here ((looks_findIn B.k (f_ga _)).here ?_)))
 dsimp only
 rw [can_dga, if_neg (by decide)]
 refine wpAny_bind (wpAny_bind (L0.here ((looks_findIn B.k (f_gattr _)).here ?_)))
 refine wpAny_bind (wpAny_bind (L0.here ((looks_findIn B.k hf).here (wpAny_bind ((looks_typeIn B.k ht).here ?_)))))
 rw [ht', if_neg (by decide)]
 refine wpAny_bind (wpAny_loadPart ho ?_)
 refine wpAny_bind (wpAny_bind (wpAny_loadPart hd ?_))
 rw [nsLook_of hs]
 refine wpAny_pure ?_
 exact wpAny_bind (wpAny_rule (wpAny_pure h))
end
end
end Mine
end
section
open PySem PySem.W PyProof.Rows PySem.W.X
namespace Mine
section
local macro_rules | `(tactic| x_close) => `(tactic| (exact ⟨_, _, _, rfl, rfl, by first | assumption | exact PySem.W.X.Mem.start _⟩))
theorem get_fac0 {w : World} {s : Shared} {E : Value → Shared → Prop} {a d : Addr} {ep : Nat} {t : Tok} {es : Array DictEntry} (KX : (K w.params).In s.heap) (ha : s.heap.get? a = some ⟨.ref 108, some d, .dict es ep, #[some (.ref 237)]⟩) :
  wpAny (model pw w) (AR 890 1000) (call (.builtin "collections.defaultdict.__getattribute__") [.ref a, .str "default_factory" t]) (GotIs (.ref 237) s) E s := by
 x_run
theorem get_fac {w : World} {A : Around} {s : Shared} {E : Value → Shared → Prop} {a d : Nat} {kvs : KVs} {expr : Bool} {Q : Value → Shared → Prop} (B : Bs w s.heap) (hA : Ok A 890 990) (hn : NodeAt w s.heap a d kvs)
  (h : ∀ s', Grow s s' → Q (.ref 237) s') : wpAny (Md w) A (getAttr (.ref a) "default_factory" expr) Q E s := by
 obtain ⟨es, ep, ho, D⟩ := id hn.at_
 refine node_getAttr B hn (wpAny_mono (weaken hA.h hA.d (Nat.le_trans hA.u (by decide)) (get_fac0 (s := { s with toks := s.toks + 1 }) B.k ho)) (fun v s' hv => ?_) fun _ _ z => z)
 obtain ⟨h', tk, news, rfl, rfl, D'⟩ := hv
 exact ⟨rfl, h _ (Grow.of (Mem.grow D'))⟩
noncomputable def frzBody : List Stmt := match clsS 4 2 with
 | .FunctionDef _ _ b _ _ _ _ _ _ _ => b
 | _ => []
noncomputable def lamX : Expr := match frzBody with
 | [.Assign _ v _] => v
 | _ => .Constant .none 0 default
noncomputable def lamP : Arguments := match lamX with
 | .Lambda p _ _ _ => p
 | _ => default
noncomputable def lamB : Expr := match lamX with
 | .Lambda _ b _ _ => b
 | _ => .Constant .none 0 default
noncomputable def lamS : Scope := match lamX with
 | .Lambda _ _ sc _ => sc
 | _ => default
noncomputable abbrev lamQ : Str := "FreezableDefaultDict.freeze.<locals>.<lambda>"
def LamAt (h : Heap) (F a : Nat) : Prop := ∃ c pm c' ctv, h.get? F = some (kla_obj "<lambda>" lamQ lamP lamB lamS [("self", c)] pm c' ctv) ∧ h.IsCell c (some (.ref a)) ∧ h.CodeRec (.ref c') lamQ
end
end Mine
end
section
open PySem PySem.W PySem.Calls
open PyProof.Rows hiding wpAt wpAt_bind wpAt_mono callWith_type
namespace Mine
section
theorem NewNode.after {s s₁ s' : Shared} {v : Value} (g : Grow s s₁) (x : NewNode s₁ v s') : NewNode s v s' := by
 obtain ⟨a, d, rfl, g', fa, fd, r⟩ := x
 refine ⟨a, d, rfl, g.trans g', ?_, ?_, r⟩
 ·cases e : s.heap.get? a with
  | none => rfl
  | some o => rw [g.keep _ _ e] at fa; cases fa
 ·cases e : s.heap.get? d with
  | none => rfl
  | some o => rw [g.keep _ _ e] at fd; cases fd
theorem call_lam {w : World} {A : Around} {E : Value → Shared → Prop} {s : Shared} {F a d : Nat} {kvs : KVs} {key : Value} (B : Bs w s.heap) (hA : Ok A 885 970) (hn : NodeAt w s.heap a d kvs) (hL : LamAt s.heap F a) : wpAny (Md w) A (call (.ref F) [key]) (NewNode s) E s := by
 obtain ⟨c, pm, c', ctv, hF, hc, hcd⟩ := hL
 refine wpAny_call (kla_callFunE (by have := hA.d; show A.depth < 1000; lia) hF rfl (by rfl) (by rfl) rfl hcd ?_)
 show wpAny _ _ (bindArgs (kla_fn "<lambda>" lamQ lamP lamB lamS [("self", c)] pm (.ref c') ctv) ⟨[key], []⟩) _ _ _
 rw [show bindArgs (kla_fn "<lambda>" lamQ lamP lamB lamS [("self", c)] pm (.ref c') ctv) ⟨[key], []⟩ = (pure [(("key" : Str), key)] : Sem (List (Str × Value))) from rfl]
 refine wpAny_pure (wpAny_newFunctionEnv (show ∀ x ∈ lamS.names, x.2 ≠ .cell from by decide +kernel) (fun x hx => by
  rcases List.mem_cons.mp hx with rfl | hx
  ·rfl
  ·cases hx) (fun h₀ hns hsb => ⟨B.nolimit.fresh _ hsb, ?_⟩) (by rfl))
 have hk : ∀ b o, s.heap.get? b = some o → h₀.get? b = some o := fun b o e => hsb.extBut b o (Nat.ne_of_lt (Heap.lt_size e)) (Heap.get?_push_of_some _ e)
 generalize hen : newEnv lamS s.heap.objs.size mainGlobals [("self", c)] (lamQ ++ ".<locals>.") (some F) (.ref c') none builtinsNs = env
 have g0 : Grow s { s with heap := h₀, toks := s.toks + [("key", key)].length } := Grow.of hk
 have B₀ := B.grow hk
 have hV : Vars h₀ env (fun x => if x = "self" then some (.ref a) else ([(("key" : Str), key)] : List (Str × Value)).reverse.lookup x) := by
  have hcl : ∀ y c', env.cells.lookup y = some c' → y = "self" ∧ c' = c := by
   intro y c' e
   subst hen
   have e' : List.lookup y [(("self" : Str), c)] = some c' := e
   simp only [List.lookup] at e'
   split at e'
   ·rename_i q; exact ⟨beq_iff_eq.mp q, (Option.some.inj e').symm⟩
   ·cases e'
  refine ⟨by subst hen; rfl, ⟨_, by subst hen; exact hns, fun y hy => ?_⟩, fun y c e => ?_, fun y z c ey ez => (hcl _ _ ey).1.trans (hcl _ _ ez).1.symm, fun y c e => ?_, fun y c e => ?_⟩
  ·have : y ≠ "self" := by
    rintro rfl
    subst hen
    exact absurd (show lamS.names.lookup ("self" : Str) = some NameKind.local from hy) (by decide +kernel)
   rw [if_neg this]
  ·obtain ⟨rfl, rfl⟩ := hcl y c e
   exact hc.keeps hk
  ·obtain ⟨rfl, rfl⟩ := hcl y c e
   subst hen
   exact Nat.ne_of_lt hc.lt
  ·obtain ⟨rfl, rfl⟩ := hcl y c e
   subst hen
   exact (show lamS.names.lookup ("self" : Str) ≠ some NameKind.local from by decide +kernel)
 have hA' : Ok (A.deeper env) 886 973 := hA.deeper _
 subst hen
 refine kla_codeExpr ?_
 refine wpAny_mono (Q := NewNode s) (E := fun _ _ => False) ?_ (fun v s' h => h) fun _ _ z => z.elim
 have hn₀ : NodeAt w h₀ a d kvs := ⟨hn.lo, hn.at_.at fun o e => hk _ _ e⟩
 refine ev_Method (hV.nm (v := .ref a) (fun pl => ?_) (by rfl))
 refine getm_usual (r := some (.builtin "collections.defaultdict.default_factory")) B₀ hn₀ (by kernel_rfl) (by kernel_rfl) ?_
 refine get_fac B₀ (hA'.le (by lia) (by lia)) hn₀ fun s₁ g₁ => ?_
 have g₁' := g0.trans g₁
 have B₁ := B.grow g₁'.keep
 refine cw_callable ⟨fnCallable B₁ (o237p6 w.params) _, ?_⟩
 exact wpAny_mono (law_node B₁ (hA'.le (by lia) (by lia))) (fun v s' h => h.after g₁') fun _ _ e => e
end
section
section
variable {w : World} {A : Around} {E : Value → Shared → Prop} {s : Shared} {a d : Nat} {kvs : KVs} {x : Str} {t : Tok}
theorem node_miss {Q : Value → Shared → Prop} (B : Bs w s.heap) (hn : NodeAt w s.heap a d kvs) (hv : valueAt kvs x = none)
  (h : wpAny (Md w) A.in1 (call (.ref 98) [.ref a, .str x t]) Q E { s with toks := s.toks + 1 }) : wpAny (Md w) A (getItem (.ref a) (.str x t)) Q E s := by
 refine node_getItem B hn ?_
 show wpAny _ _ (dictGet a (.str x t) >>= _) _ _ s
 refine wpAny_bind (dict_get hn.at_ ?_)
 rw [hv]
 show wpAny _ _ (Builtin.Dict.missed a (.str x t) >>= _) _ _ _
 unfold Builtin.Dict.missed
 rw [not_mods hn.lo]
 refine wpAny_bind (wpAny_pure ?_)
 refine wpAny_bind (Looks.at (node_ty hn) ?_)
 rw [if_pos (by decide)]
 refine wpAny_bind ?_
 unfold callSpecial?
 refine wpAny_bind (Looks.at (node_sp B hn (f_missing _)) ?_)
 dsimp only
 refine wpAny_holding ?_
 refine wpAny_bind (Looks.at (bind_fn B.k (.ref a) (by kernel_rfl)) ?_)
 refine wpAny_bind (wpAny_mono h (fun v s' hq => wpAny_pure ?_) fun _ _ e => e)
 exact wpAny_bind (wpAny_rule (wpAny_pure ⟨v, rfl, hq⟩))
end
def NodeNew (w : World) (h : Heap) (a d : Nat) : Prop := NodeAt w h a d [] ∧ openDict h d
theorem NewNode.at_ {w : World} {s s' : Shared} {v : Value} (B : Bs w s.heap) (x : NewNode s v s') : ∃ a d, v = .ref a ∧ Grow s s' ∧ s.heap.get? a = none ∧ s.heap.get? d = none ∧ NodeNew w s'.heap a d := by
 obtain ⟨a, d, rfl, g, fa, fd, ⟨ep, ha⟩, hd⟩ := x
 exact ⟨a, d, rfl, g, fa, fd, ⟨B.new fa, _, ep, ha, DK.nil w⟩, hd⟩
def SubOpen (w : World) (s : Shared) (a d : Nat) (kvs : KVs) (x : Str) (v : Value) (s' : Shared) : Prop := ∃ a' d' h' tk, v = .ref a' ∧ s' = { s with heap := h', toks := tk } ∧ s.heap.get? a' = none ∧ s.heap.get? d' = none ∧
 NodeNew w h' a' d' ∧ NodeAt w h' a d (stored kvs x (.ref a')) ∧ (∀ b o, b ≠ a → s.heap.get? b = some o → h'.get? b = some o)
def ShutAt (w : World) (h : Heap) (d a : Nat) : Prop := ∃ F ep t, h.get? d = some ⟨.type "dict", none, .dict #[⟨PyData.keyHash w.params "_frozen", .str "_frozen" t, .ref F⟩] ep, #[]⟩ ∧ LamAt h F a
section
variable {w : World} {A : Around} {E : Value → Shared → Prop} {s : Shared} {a d : Nat} {kvs : KVs} {x : Str} {t : Tok}
theorem none_of {s s₁ : Shared} (g : Grow s s₁) {b : Nat} (e : s₁.heap.get? b = none) : s.heap.get? b = none := by
 cases e' : s.heap.get? b with
 | none => rfl
 | some o => rw [g.keep _ _ e'] at e; cases e
theorem sub_open (B : Bs w s.heap) (hA : Ok A 879 880) (hn : NodeAt w s.heap a d kvs) (ho : openDict s.heap d) (hv : valueAt kvs x = none) (hsz : kvs.length ≤ sizeLine) : wpAny (Md w) A (getItem (.ref a) (.str x t)) (SubOpen w s a d kvs x) E s := by
 have g0 : Grow s { s with toks := s.toks + 1 } := Grow.tok s _
 refine node_miss B hn hv (call98 (s := { s with toks := s.toks + 1 }) B ⟨hA.h, Nat.le_trans hA.d (by decide), Nat.le_trans (Nat.add_le_add_right hA.u 1) (by decide)⟩ hn fun A' E' s₂ m tok hA' g₂ hm => ?_)
 have g₂' := g0.trans g₂
 have B₂ := B.grow g₂'.keep
 obtain ⟨es, ep, hoa, D⟩ := id hn.at_
 obtain ⟨epd, hod⟩ := id ho
 refine wpAny_mono (weaken hA'.h (Nat.le_trans hA'.d (by decide)) (Nat.le_trans hA'.u (by decide)) (get_none B₂.k (g₂'.keep _ _ hoa) (g₂'.keep _ _ hod))) (fun f s₃ hf => ?_) fun _ _ e => e
 obtain ⟨h', tk, news, rfl, rfl, D'⟩ := hf
 have g₃ : Grow s₂ { s₂ with heap := h', toks := tk } := Grow.of (Mem.grow D')
 have g₃' := g₂'.trans g₃
 have B₃ : Bs w h' := B.grow g₃'.keep
 have hn₃ : NodeAt w h' a d kvs := ⟨hn.lo, hn.at_.at fun o e => g₃'.keep _ _ e⟩
 refine ⟨g₃, ⟨m, _, rfl, g₃.keep _ _ hm, .inr ⟨_, rfl, rfl⟩⟩, ?_⟩
 refine call_bound (s := { s₂ with heap := h', toks := tk }) B₃ (hA'.le (by lia) (by lia)) hn₃ (g₃.keep _ _ hm) hv hsz (fun A'' E'' hA'' => law_node B₃ (hA''.le (by lia) (by lia))) fun a' d' h'' tk' fa fd hna hda hn' k => ?_
 obtain ⟨epa, hna⟩ := hna
 obtain ⟨h₂, tk₂, rfl, k₂⟩ := g₂'
 exact ⟨a', d', h'', tk', rfl, rfl, none_of g₃' fa, none_of g₃' fd, ⟨⟨B₃.new fa, _, epa, hna, DK.nil w⟩, hda⟩, hn', fun b o hb e => k b o hb (g₃'.keep _ _ e)⟩
theorem sub_shut (B : Bs w s.heap) (hA : Ok A 879 880) (hn : NodeAt w s.heap a d kvs) (ho : ShutAt w s.heap d a) (hv : valueAt kvs x = none) : wpAny (Md w) A (getItem (.ref a) (.str x t)) (NewNode s) E s := by
 have g0 : Grow s { s with toks := s.toks + 1 } := Grow.tok s _
 refine node_miss B hn hv (call98 (s := { s with toks := s.toks + 1 }) B ⟨hA.h, Nat.le_trans hA.d (by decide), Nat.le_trans (Nat.add_le_add_right hA.u 1) (by decide)⟩ hn fun A' E' s₂ m tok hA' g₂ hm => ?_)
 have g₂' := g0.trans g₂
 have B₂ := B.grow g₂'.keep
 obtain ⟨es, ep, hoa, D⟩ := id hn.at_
 obtain ⟨F, epd, tF, hod, hL⟩ := id ho
 refine wpAny_mono (weaken hA'.h (Nat.le_trans hA'.d (by decide)) (Nat.le_trans hA'.u (by decide)) (get_frozen B₂.k (g₂'.keep _ _ hoa) (g₂'.keep _ _ hod))) (fun f s₃ hf => ?_) fun _ _ e => e
 obtain ⟨h', tk, news, rfl, rfl, D'⟩ := hf
 have g₃ : Grow s₂ { s₂ with heap := h', toks := tk } := Grow.of (Mem.grow D')
 have g₃' := g₂'.trans g₃
 have B₃ : Bs w h' := B.grow g₃'.keep
 have hn₃ : NodeAt w h' a d kvs := ⟨hn.lo, hn.at_.at fun o e => g₃'.keep _ _ e⟩
 obtain ⟨c, pm, c', ctv, hF, hc, hcd⟩ := hL
 have hL₃ : LamAt h' F a := ⟨c, pm, c', ctv, g₃'.keep _ _ hF, hc.keeps g₃'.keep, hcd.keeps g₃'.keep⟩
 refine ⟨g₃, ⟨F, _, rfl, g₃'.keep _ _ hF, .inl ⟨_, rfl⟩⟩, ?_⟩
 exact wpAny_mono (call_lam (s := { s₂ with heap := h', toks := tk }) B₃ (hA'.le (by lia) (by lia)) hn₃ hL₃) (fun v s' h => h.after g₃') fun _ _ e => e
theorem sub_hit {v : Value} {Q : Value → Shared → Prop} (B : Bs w s.heap) (hn : NodeAt w s.heap a d kvs) (hv : valueAt kvs x = some v) (h : Q v { s with toks := s.toks + 1 }) : wpAny (Md w) A (getItem (.ref a) (.str x t)) Q E s := node_getItem_hit B hn hv h
end
end
section
theorem refuse108 (self : Value) : refuseLoop self "__setattr__" [.ref 108, .type "collections.defaultdict", .type "dict", .type "object"] = pure () := by
 rw [refuseLoop_ref]
 kernel_rfl
section
variable {w : World} {A : Around} {E : Value → Shared → Prop} {s : Shared} {a d : Nat} {kvs : KVs}
theorem f_setattr (P : Params) : findIn (K P) (.ref 108) "__setattr__" = some (some (.builtin "object.__setattr__")) := by kernel_rfl
theorem s_object (P : Params) : subIn (K P) (.ref 108) (.type "object") = some true := by kernel_rfl
theorem taker_frozen (P : Params) : findIn (K P) (.ref 108) "_frozen" = some none := by kernel_rfl
theorem hasDict108 (P : Params) : (cd108 P).hasDict = true := by kernel_rfl
theorem set_frozen {es : List DictEntry} {n : Nat} {v : Value} {Q : Unit → Shared → Prop} (B : Bs w s.heap) (hn : NodeAt w s.heap a d kvs) (hd : s.heap.get? d = some (dictOf es n)) (hl : (getL "_frozen" es).isSome = true) (hz : es.length ≤ 900)
  (h : ∀ h' tk, h'.get? d = some (dictOf (putL "_frozen" (PyData.keyHash w.params "_frozen") (.str "_frozen" (s.toks + 1)) v es) (putN "_frozen" es n)) → Heap.SameBut d s.heap h' → Q () { s with heap := h', toks := tk }) :
  wpAny (Md w) A (setAttr (.ref a) "_frozen" v) Q E s := by
 obtain ⟨ox, I⟩ := node_inst' hn hd
 refine set_plain B.k I (f_setattr _) ?_
 have SF := PySem.F.store_object
 obtain ⟨hh, g, dd, tk, os⟩ := s
 have L0 : Looks (Md w) hh (typeOf (.ref a)) (.ref 108) := node_ty hn
 refine codeAny_call_builtin SF.slot.plain SF.entry (@check_slot (model pw w) _ _ _ "object.__setattr__" "object" "__setattr__" (.ref a) [.str "_frozen" tk, v] [] _ SF.kind SF.split (node_is B hn (s_object _)) (SF.args (.ref a) (.str "_frozen" tk) v) ?_)
 have hm : Looks (model pw w) hh (mroOf (.ref 108)) (cd108 w.params).mro := (looks_clsIn B.k (cls108 w.params)).andThen .now
 rw [osa_eq, refuse_eq]
 refine wpAny_bind (wpAny_bind (L0.at (wpAny_bind (hm.at ?_))))
 rw [mro108, refuse108]
 refine wpAny_pure (wpAny_bind (L0.at (wpAny_bind (Looks.at (looks_findIn B.k (taker_frozen _)) ?_))))
 refine wpAny_bind (wpAny_pure ?_)
 obtain ⟨es', ep, ho, D⟩ := id hn.at_
 refine wpAny_bind (wpAny_pure (wpAny_bind (wpAny_bind (wpAny_loadPart ho (wpAny_bind (Looks.at (looks_clsIn B.k (cls108 w.params)) ?_))))))
 rw [hasDict108]
 refine wpAny_pure (a := some d) (wpAny_bind (wpAny_pure (wpAny_bind ?_)))
 unfold nsSet
 refine wpAny_bind (wpAny_bind (wpAny_askSetting (wpAny_pure (wpAny_bind (wpAny_mkText (wpAny_bind (wpAny_loadPart hd ?_)))))))
 have c : (!es.toArray.any (·.key.isStr ("_frozen" : Str)) && es.toArray.any (·.refKey)) = false := by
  rw [← Array.any_toList, ← Array.any_toList]
  unfold getL at hl
  split at hl
  ·rename_i en he
   rw [List.any_eq_true.mpr ⟨en, List.mem_of_find?_eq_some he, List.find?_some he⟩]; rfl
  ·split at hl
   ·cases hl
   ·rename_i z; rw [Bool.not_eq_true] at z; rw [show es.toArray.toList = es from rfl, z, Bool.and_false]
 dsimp only
 rw [aRefKeyMayBeTheName_at, c]
 have e' := putName_dict "_frozen" (PyData.keyHash w.params "_frozen") (.str "_frozen" (tk + 1)) v es n
 have hf : (Obj.putName "_frozen" (PyData.keyHash w.params "_frozen") (.str "_frozen" (tk + 1)) v (dictOf es n)).isFreed = false := by rw [e']; rfl
 have D' := Heap.get?_update_self (Obj.putName "_frozen" (PyData.keyHash w.params "_frozen") (.str "_frozen" (tk + 1)) v) hd hf
 rw [e'] at D'
 have hlen : (putL "_frozen" (PyData.keyHash w.params "_frozen") (.str "_frozen" (tk + 1)) v es).length ≤ 1000 := by
  have : ∀ l : List DictEntry, (putL "_frozen" (PyData.keyHash w.params "_frozen") (.str "_frozen" (tk + 1)) v l).length ≤ l.length + 1 := by
   intro l
   induction l with
   | nil => exact Nat.le_refl _
   | cons x r ih =>
    unfold putL
    split
    ·simp
    ·simp only [List.length_cons]; lia
  have := this es
  lia
 refine wpAny_updatePart hd ?_
 refine wpAny_bind (wpAny_lookBehind D' (pastItsLine_dict (by rw [List.size_toArray, sizeLine_eq]; lia)) ?_)
 exact wpAny_pure (h _ _ D' (Heap.SameBut.update ..))
end
end
section
noncomputable def lamPos : Pos := match lamX with
 | .Lambda _ _ _ p => p
 | _ => default
noncomputable abbrev fd105 : FuncData := fnD (clsS 4 2) "FreezableDefaultDict.freeze" 3 [] .none .none .none (.str "cpy313.importlib.metadata._collections" 286) none (.ref 104) .none 0
def Tab (h : Heap) : Prop := ∃ ps, h.get? 100 = some (tabObj ps) ∧ (ps = #[] ∨ ∃ c' : Nat, ps = #[rawInt lamPos.line, rawInt lamPos.col, .ref c'] ∧ c' ≠ 100 ∧ h.CodeRec (.ref c') lamQ)
theorem code104 {w : World} {h : Heap} (B : Bs w h) : CodeHd h 104 100 :=
 ⟨_, _, _, _, _, _, _, _, _, B.k 104 (o104p1 w.params) (by kernel_rfl), rfl, rfl, rfl, rfl, rfl, rfl, rfl, rfl, by decide⟩
theorem blt4 {w : World} {h : Heap} (B : Bs w h) : h.BuiltinsAt (h.nsMap 3) 100 :=
 ⟨4, o4a w.params, mg_of B.k (B.nsAt (a := 3) (by kernel_rfl)) (by kernel_rfl), by decide, by decide, by decide, B.k 4 (o4a w.params) (by kernel_rfl), rfl, rfl, rfl⟩
theorem clos_lam (L : Nat) : closureFor lamS (callEnvC fd105 L 105) = pure [(("self" : Str), (L + 1 : Addr))] := by kernel_rfl
section
variable {w : World} {A : Around} {E : Value → Shared → Prop} {s : Shared} {a d : Nat} {kvs : KVs}
theorem ev_lam {L : Nat} {Q : Value → Shared → Prop} (B : Bs w s.heap) (hT : Tab s.heap) (hc : s.heap.IsCell (L + 1) (some (.ref a)))
  (h : ∀ F h' tk, LamAt h' F a → Tab h' → (∀ b o, b ≠ 100 → s.heap.get? b = some o → h'.get? b = some o) → Q (.ref F) { s with heap := h', toks := tk }) :
  wpAny (Md w) A (eval (.Lambda lamP lamB lamS lamPos) (callEnvC fd105 L 105)) Q E s := by
 obtain ⟨ps, hP, hps⟩ := hT
 refine kla_eval (by rfl) ?_
 rcases hps with rfl | ⟨c', rfl, hc', hrec⟩
 ·refine kla_makeFunction (clos_lam L) rfl (B.nsAt (a := 3) (by kernel_rfl)) rfl (code104 B) hP trivial rfl (by decide) (blt4 B) fun c' ctv h' tk hx hge hlt hr htb => ?_
  have up : ∀ o b x, h'.get? b = some x → (h'.push o).get? b = some x := fun o b x e => Heap.get?_push_of_some _ e
  have hne : (100 : Nat) ≠ L + 1 := by
   rintro e
   obtain ⟨o, ho, hd⟩ := hc
   rw [← e, hP] at ho
   cases ho; cases hd
  have hc100 : c' ≠ 100 := by
   rintro rfl
   have := B.n
   lia
  refine h _ _ _ ⟨L + 1, _, c', ctv, Heap.get?_push_size _ rfl, ?_, hr.keeps (up _)⟩ ⟨_, up _ _ _ htb, .inr ⟨c', by rfl, hc100, hr.keeps (up _)⟩⟩ fun b o hb e => up _ _ _ (hx b o hb e)
  obtain ⟨o, ho, hd⟩ := hc
  exact ⟨o, up _ _ _ (hx _ _ (Ne.symm hne) ho), hd⟩
 ·refine kla_makeFunctionHit (cv := .ref c') (clos_lam L) rfl (B.nsAt (a := 3) (by kernel_rfl)) rfl (code104 B) hP trivial (by simp [codeAmong, rawInt]) (blt4 B) fun ctv h' tk hk hsz => ?_
  have up : ∀ o b x, h'.get? b = some x → (h'.push o).get? b = some x := fun o b x e => Heap.get?_push_of_some _ e
  exact h _ _ _ ⟨L + 1, _, c', ctv, Heap.get?_push_size _ rfl, (hc.keeps hk).keeps (up _), (hrec.keeps hk).keeps (up _)⟩ ⟨_, up _ _ _ (hk _ _ hP), .inr ⟨c', rfl, hc', (hrec.keeps hk).keeps (up _)⟩⟩ fun b o hb e => up _ _ _ (hk b o e)
theorem ne_dict {h : Heap} {b d : Nat} {o : Obj} {c : Value} {dd : Option Addr} {es : Array DictEntry} {n : Nat} {sl : Array (Option Value)} (hb : h.get? b = some o) (hd : h.get? d = some ⟨c, dd, .dict es n, sl⟩) (hno : ∀ es n, o.data ≠ .dict es n) : b ≠ d := by
 rintro rfl
 rw [hd] at hb
 cases hb
 exact hno _ _ rfl
theorem LamAt.but {h h' : Heap} {F : Nat} {c : Value} {dd : Option Addr} {es : Array DictEntry} {n : Nat} {sl : Array (Option Value)} (x : LamAt h F a) (hd : h.get? d = some ⟨c, dd, .dict es n, sl⟩) (k : ∀ b o, b ≠ d → h.get? b = some o → h'.get? b = some o) : LamAt h' F a := by
 obtain ⟨c, pm, c', ctv, hF, ⟨o, ho, hdo⟩, c2, o2, vs, t, e1, e2, e3, e4⟩ := x
 refine ⟨c, pm, c', ctv, k _ _ (ne_dict hF hd (fun _ _ e => by cases e)) hF, ⟨o, k _ _ (ne_dict ho hd fun _ _ e => by rw [hdo] at e; cases e) ho, hdo⟩, c2, o2, vs, t, e1, k _ _ (ne_dict e2 hd fun _ _ e => by rw [e3] at e; cases e) e2, e3, e4⟩
theorem Tab.but {h h' : Heap} {c : Value} {dd : Option Addr} {es : Array DictEntry} {n : Nat} {sl : Array (Option Value)} (x : Tab h) (hd : h.get? d = some ⟨c, dd, .dict es n, sl⟩) (k : ∀ b o, b ≠ d → h.get? b = some o → h'.get? b = some o) : Tab h' := by
 obtain ⟨ps, hP, hps⟩ := x
 refine ⟨ps, k _ _ (ne_dict hP hd (fun _ _ e => by cases e)) hP, hps.imp id ?_⟩
 rintro ⟨c', e, hne, c2, o2, vs, t, e1, e2, e3, e4⟩
 exact ⟨c', e, hne, c2, o2, vs, t, e1, k _ _ (ne_dict e2 hd fun _ _ e => by rw [e3] at e; cases e) e2, e3, e4⟩
theorem call_freeze {Q : Value → Shared → Prop} (B : Bs w s.heap) (hA : Ok A 880 900) (hn : NodeAt w s.heap a d kvs) (hd : openDict s.heap d ∨ ShutAt w s.heap d a) (hT : Tab s.heap)
  (h : ∀ h' tk, ShutAt w h' d a → Tab h' → NodeAt w h' a d kvs → (∀ b o, b ≠ d → b ≠ 100 → s.heap.get? b = some o → h'.get? b = some o) → Q .none { s with heap := h', toks := tk }) : wpAny (Md w) A (call (.ref 105) [.ref a]) Q E s := by
 refine enter (fd := fd105) (o := o105p1 w.params) (binds := [("self", .ref a)]) B hA (by decide) fun h₁ tk E' V hk hown => ?_
 have B₁ := B.grow hk
 have hA' : Ok (A.deeper (callEnvC fd105 s.heap.objs.size 105)) 881 903 := hA.deeper _
 have hc : h₁.IsCell (s.heap.objs.size + 1) (some (.ref a)) := V.cell "self" (s.heap.objs.size + 1) rfl
 have hT₁ : Tab h₁ := by
  obtain ⟨ps, hP, hps⟩ := hT
  exact ⟨ps, hk _ _ hP, hps.imp id fun ⟨c', e, n, r⟩ => ⟨c', e, n, r.keeps hk⟩⟩
 refine wpAny_execs_cons (plainObj_wpAny_Assign_Attribute (ev_lam (s := { s with heap := h₁, toks := tk }) B₁ hT₁ hc fun F h₂ tk₂ hL hT₂ k₂ => ?_))
 have V₂ : Vars h₂ _ _ := V.keep fun b o hb e => k₂ b o (fun e0 => by have h3 : s.heap.objs.size ≤ (100 : Nat) := e0 ▸ hown b hb; have := B.n; lia) e
 refine V₂.nm (v := .ref a) ?_ (by rfl)
 have B₂ : Bs w h₂ := B₁.mono (fun b o _ hb e => k₂ b o hb e) (let ⟨_, hP, _⟩ := hT₂; ⟨_, hP⟩)
 have ha100 : a ≠ 100 := Nat.ne_of_gt (Nat.lt_of_lt_of_le (by decide) hn.lo)
 have hn₂ : NodeAt w h₂ a d kvs := ⟨hn.lo, hn.at_.at fun o e => k₂ _ _ ha100 (hk _ _ e)⟩
 obtain ⟨P0, hP0, _⟩ := hT
 have fin : ∀ (es : List DictEntry) (n : Nat), s.heap.get? d = some (dictOf es n) → (getL "_frozen" es).isSome = true → es.length ≤ 900 →
   (∀ tk' : Nat, ∃ ep t, dictOf (putL "_frozen" (PyData.keyHash w.params "_frozen") (.str "_frozen" tk') (.ref F) es) (putN "_frozen" es n) = ⟨.type "dict", none, .dict #[⟨PyData.keyHash w.params "_frozen", .str "_frozen" t, .ref F⟩] ep, #[]⟩) →
   wpAny (Md w) (A.deeper (callEnvC fd105 s.heap.objs.size 105)) (setAttr (.ref a) "_frozen" (.ref F)) (fun x s' => wpAny (Md w) (A.deeper (callEnvC fd105 s.heap.objs.size 105)) (execs [] (callEnvC fd105 s.heap.objs.size 105)) (fun f s' => Q (flowV f) s') E' s') E' { s with heap := h₂, toks := tk₂ } := by
  intro es n hds hl hz he
  have hd100 : (100 : Nat) ≠ d := ne_dict hP0 hds (fun _ _ e => by cases e)
  have hd₂ := k₂ _ _ (Ne.symm hd100) (hk _ _ hds)
  refine set_frozen (s := { s with heap := h₂, toks := tk₂ }) B₂ hn₂ hd₂ hl hz fun h₃ tk₃ e₃ S₃ => wpAny_execs_nil ?_
  have k₃ : ∀ b o, b ≠ d → h₂.get? b = some o → h₃.get? b = some o := fun b o hb e => (S₃.2 b hb).trans e
  have had : a ≠ d := by
   obtain ⟨es', ep', ho', _⟩ := hn₂.at_
   rintro rfl
   rw [hd₂] at ho'
   cases ho'
  obtain ⟨ep, t, e₄⟩ := he (tk₂ + 1)
  refine h h₃ tk₃ ⟨F, ep, t, e₃.trans (congrArg some e₄), hL.but hd₂ k₃⟩ (hT₂.but hd₂ k₃) ⟨hn.lo, hn₂.at_.at fun o e => k₃ _ _ had e⟩ fun b o hb hb' e => k₃ _ _ hb (k₂ _ _ hb' (hk _ _ e))
 rcases hd with ⟨ep, hd⟩ | ⟨F0, ep, t, hd, _⟩
 ·exact fin [] ep hd rfl (by decide) fun tk' => ⟨_, _, rfl⟩
 ·refine fin [_] ep hd ?_ (Nat.le_of_ble_eq_true rfl) fun tk' => ⟨ep, t, ?_⟩
  ·unfold getL
   simp [Value.isStr]
  ·unfold putL putN
   simp [Value.isStr, dictOf]
end
end
section
def But (wr : List Addr) (h h' : Heap) : Prop := ∀ b o, b ∉ wr → h.get? b = some o → h'.get? b = some o
section
variable {w : World} {A : Around} {E : Value → Shared → Prop} {env : Env} {it : Addr} {fp wr : List Addr} {n : Nat} {P : Nat → Value → Prop} {St : Nat → Heap → Prop}
theorem for_walks {target : Expr} {body : List Stmt} {R : Result → Shared → Prop} {s : Shared} (W : Walks pw w A it fp wr n P St) (J : Nat → Shared → Prop) (h0 : J 0 s) (hst : St 0 s.heap)
  (stab : ∀ i (s : Shared) h' tk, J i s → St i s.heap → But wr s.heap h' → J i { s with heap := h', toks := tk })
  (step : ∀ i v s E', i < n → P i v → J i s → St (i + 1) s.heap → wpAny (Md w) A (letOwnedTupleGo target (.ref it) v) (fun _ s₁ => wpAny (Md w) A (assign target env v) (fun _ s₂ => wpAny (Md w) A (execs body env) (fun f s₃ => match f with
   | .next | .cont => J (i + 1) s₃ ∧ St (i + 1) s₃.heap
   | .brk => R (.ok .next) s₃
   | .ret v => R (.ok (.ret v)) s₃) E' s₂) E' s₁) E' s)
  (fin : ∀ s, J n s → R (.ok .next) s) : codeAny (Md w) A (.forLoop target (.ref it) body [] env) R s := by
 refine codeAny_forLoop_any (fun k s' => ∃ i, i ≤ n ∧ k = n - i ∧ J i s' ∧ St i s'.heap) ?_ n ⟨0, Nat.zero_le _, rfl, h0, hst⟩
 rintro k s' ⟨i, hi, rfl, hJ, hS⟩
 by_cases hlt : i < n
 ·refine W.item i s' _ _ hlt hS fun v h' tk hP hS' hk => ?_
  refine wpAny_mono (step i v { s' with heap := h', toks := tk } _ hlt hP (stab i s' h' tk hJ hS hk) hS') (fun _ s₁ h₁ => wpAny_mono h₁ (fun _ s₂ h₂ => wpAny_mono h₂ (fun f s₃ h₃ => ?_) fun _ _ e => e) fun _ _ e => e) fun _ _ e => e
  cases f with
  | next => exact ⟨n - (i + 1), by omega, i + 1, hlt, rfl, h₃.1, h₃.2⟩
  | cont => exact ⟨n - (i + 1), by omega, i + 1, hlt, rfl, h₃.1, h₃.2⟩
  | brk => exact h₃
  | ret v => exact h₃
 ·have : i = n := by omega
  subst this
  refine W.done s' _ _ hS fun h' tk hk => ?_
  exact wpAny_execs_nil (fin _ (stab _ s' h' tk hJ hS hk))
theorem for_walksP {target : Expr} {body : List Stmt} {R : Result → Shared → Prop} {s : Shared} (W : Walks pw w A it fp wr n P St) (J : Nat → Shared → Prop) (h0 : J 0 s) (hst : St 0 s.heap)
  (stab : ∀ i (s : Shared) h' tk, J i s → St i s.heap → But wr s.heap h' → J i { s with heap := h', toks := tk })
  (step : ∀ i v s E' (G : Flow → Shared → Prop), i < n → P i v → J i s → St (i + 1) s.heap → (∀ s₃, J (i + 1) s₃ → St (i + 1) s₃.heap → G .next s₃) → (∀ s₃, J (i + 1) s₃ → St (i + 1) s₃.heap → G .cont s₃) → (∀ s₃, R (.ok .next) s₃ → G .brk s₃) → (∀ v s₃, R (.ok (.ret v)) s₃ → G (.ret v) s₃) →
   wpAny (Md w) A (letOwnedTupleGo target (.ref it) v) (fun _ s₁ => wpAny (Md w) A (assign target env v) (fun _ s₂ => wpAny (Md w) A (execs body env) G E' s₂) E' s₁) E' s)
  (fin : ∀ s, J n s → R (.ok .next) s) : codeAny (Md w) A (.forLoop target (.ref it) body [] env) R s :=
 for_walks W J h0 hst stab (fun i v s E' hi hP hJ hS => step i v s E' _ hi hP hJ hS (fun _ a b => ⟨a, b⟩) (fun _ a b => ⟨a, b⟩) (fun _ a => a) fun _ _ a => a) fin
end
theorem iter_str {w : World} {A : Around} {E : Value → Shared → Prop} {s : Shared} {x : Str} {t : Tok} {Q : Value → Shared → Prop}
  (hQ : ∀ ty, (∀ A' : Around, A'.handled = none → Walks pw w A' s.heap.objs.size [s.heap.objs.size] [s.heap.objs.size] x.cps.size (SignAt x) (fun i h => h.IsStrIter s.heap.objs.size ty x t i)) →
   Q (.ref s.heap.objs.size) { s with heap := s.heap.push { cls := .type ty, data := .fields #[.str x t, .int 0 0] } }) : wpAny (Md w) A (pyIter (.str x t)) Q E s := by
 cases ha : x.cps.all (· < 128)
 ·exact wpAny_pyIter_wide ha (hQ _ (fun A' hA => Walks.strWide hA _ x t))
 ·exact wpAny_pyIter_ascii ha (hQ _ (fun A' hA => Walks.strAscii hA _ x t))
end
section
noncomputable abbrev Path := List Nat
noncomputable def toS (p : Path) : Str := ⟨p.toArray⟩
theorem toS_inj {p q : Path} (h : toS p = toS q) : p = q := by
 have := congrArg (fun x : Str => x.cps.toList) h
 simpa [toS] using this
structure St where
 below : List (Path × List Path)
 ends : List (Path × Int)
 shut : List Path
noncomputable def look {β : Type} (l : List (Path × β)) (p : Path) : Option β := (l.find? fun kv => decide (kv.1 = p)).map (·.2)
noncomputable def has {β : Type} (l : List (Path × β)) (p : Path) : Bool := l.any fun kv => decide (kv.1 = p)
theorem has_iff {β : Type} {l : List (Path × β)} {p : Path} : has l p = true ↔ ∃ b, (p, b) ∈ l := by
 unfold has
 rw [List.any_eq_true]
 constructor
 ·rintro ⟨⟨q, b⟩, hm, e⟩
  have : q = p := of_decide_eq_true e
  exact ⟨b, this ▸ hm⟩
 ·rintro ⟨b, hm⟩
  exact ⟨(p, b), hm, by simp⟩
theorem look_mem {β : Type} {l : List (Path × β)} {p : Path} {b : β} (h : look l p = some b) : (p, b) ∈ l := by
 unfold look at h
 obtain ⟨⟨q, c⟩, e, rfl⟩ := Option.map_eq_some_iff.mp h
 have h1 := List.mem_of_find?_eq_some e
 have h2 : q = p := by simpa using List.find?_some e
 exact h2 ▸ h1
theorem key_uniq {β : Type} : ∀ {l : List (Path × β)} {p : Path} {b c : β}, (l.map (·.1)).Nodup → (p, b) ∈ l → (p, c) ∈ l → b = c
 | x :: r, p, b, c, hn, hb, hc => by
  rw [List.map_cons, List.nodup_cons] at hn
  rcases List.mem_cons.mp hb with eb | hb'
  ·rcases List.mem_cons.mp hc with ec | hc'
   ·exact (Prod.mk.inj (eb.trans ec.symm)).2
   ·subst eb
    exact absurd (show p ∈ r.map (·.1) from List.mem_map.mpr ⟨(p, c), hc', rfl⟩) hn.1
  ·rcases List.mem_cons.mp hc with ec | hc'
   ·subst ec
    exact absurd (show p ∈ r.map (·.1) from List.mem_map.mpr ⟨(p, b), hb', rfl⟩) hn.1
   ·exact key_uniq hn.2 hb' hc'
theorem mem_look {β : Type} {l : List (Path × β)} {p : Path} {b : β} (hn : (l.map (·.1)).Nodup) (h : (p, b) ∈ l) : look l p = some b := by
 cases e : look l p with
 | some c => rw [key_uniq hn h (look_mem e)]
 | none =>
  unfold look at e
  rw [Option.map_eq_none_iff, List.find?_eq_none] at e
  exact absurd (by simp) (e (p, b) h)
theorem look_none {β : Type} {l : List (Path × β)} {p : Path} : look l p = none ↔ has l p = false := by
 constructor
 ·intro e
  cases h : has l p with
  | false => rfl
  | true =>
   obtain ⟨b, hb⟩ := has_iff.mp h
   unfold look at e
   rw [Option.map_eq_none_iff, List.find?_eq_none] at e
   exact absurd (by simp) (e (p, b) hb)
 ·intro h
  cases e : look l p with
  | none => rfl
  | some b => rw [has_iff.mpr ⟨b, look_mem e⟩] at h; cases h
noncomputable def addB (l : List (Path × List Path)) (p : Path) (c : Nat) : List (Path × List Path) := (l.map fun kv => if kv.1 = p then (kv.1, kv.2 ++ [[c]]) else kv) ++ [(p ++ [c], [])]
noncomputable def St.add (S : St) (p : Path) (c : Nat) : St := { S with below := addB S.below p c }
theorem addB_keys {l : List (Path × List Path)} {p : Path} {c : Nat} : (addB l p c).map (·.1) = l.map (·.1) ++ [p ++ [c]] := by
 unfold addB
 rw [List.map_append, List.map_map]
 congr 1
 refine List.map_congr_left fun kv _ => ?_
 simp only [Function.comp]
 split <;> rfl
theorem mem_addB {l : List (Path × List Path)} {p q : Path} {c : Nat} {bs : List Path} : (q, bs) ∈ addB l p c ↔ (q ≠ p ∧ (q, bs) ∈ l) ∨ (q = p ∧ ∃ b, (p, b) ∈ l ∧ bs = b ++ [[c]]) ∨ (q = p ++ [c] ∧ bs = []) := by
 unfold addB
 rw [List.mem_append, List.mem_map, List.mem_singleton]
 constructor
 ·rintro (⟨⟨k, b⟩, hm, e⟩ | e)
  ·by_cases hk : k = p
   ·rw [if_pos hk] at e
    obtain ⟨rfl, rfl⟩ := Prod.mk.inj e
    exact .inr (.inl ⟨hk, b, hk ▸ hm, rfl⟩)
   ·rw [if_neg hk] at e
    cases e
    exact .inl ⟨hk, hm⟩
  ·obtain ⟨rfl, rfl⟩ := Prod.mk.inj e
   exact .inr (.inr ⟨rfl, rfl⟩)
 ·rintro (⟨hq, hm⟩ | ⟨rfl, b, hm, rfl⟩ | ⟨rfl, rfl⟩)
  ·exact .inl ⟨_, hm, by rw [if_neg hq]⟩
  ·exact .inl ⟨_, hm, by rw [if_pos rfl]⟩
  ·exact .inr rfl
theorem has_addB {l : List (Path × List Path)} {p q : Path} {c : Nat} : has (addB l p c) q = true ↔ has l q = true ∨ q = p ++ [c] := by
 have e : ∀ {β : Type} (l : List (Path × β)) (q : Path), has l q = true ↔ q ∈ l.map (·.1) := by
  intro β l q
  rw [has_iff, List.mem_map]
  constructor
  ·rintro ⟨b, hm⟩; exact ⟨_, hm, rfl⟩
  ·rintro ⟨⟨k, b⟩, hm, rfl⟩; exact ⟨b, hm⟩
 rw [e, e, addB_keys, List.mem_append, List.mem_singleton]
noncomputable def gone : St → Path → Path → St × Bool
 | S, _, [] => (S, true)
 | S, p, c :: r => if has S.below (p ++ [c]) = true then gone S (p ++ [c]) r else if p ∈ S.shut then (S, false) else gone (S.add p c) (p ++ [c]) r
structure WF (S : St) : Prop where
 nd : (S.below.map (·.1)).Nodup
 root : has S.below [] = true
 kids : ∀ p bs, (p, bs) ∈ S.below → bs.Nodup ∧ ∀ g ∈ bs, (g = [] ∧ has S.ends p = true) ∨ ∃ c, g = [c] ∧ has S.below (p ++ [c]) = true
 up : ∀ p c, has S.below (p ++ [c]) = true → ∃ bs, (p, bs) ∈ S.below ∧ [c] ∈ bs
 ends : ∀ p, has S.ends p = true → ∃ bs, (p, bs) ∈ S.below ∧ [] ∈ bs
 endnd : (S.ends.map (·.1)).Nodup
 shutk : ∀ p, p ∈ S.shut → has S.below p = true
theorem WF.add {S : St} (W : WF S) {p : Path} {c : Nat} (hp : has S.below p = true) (hc : ¬ has S.below (p ++ [c]) = true) : WF (S.add p c) where
 nd := by
  show ((addB S.below p c).map (·.1)).Nodup
  rw [addB_keys, List.nodup_append]
  refine ⟨W.nd, by simp, ?_⟩
  intro a ha b hb e
  rw [List.mem_singleton] at hb
  subst hb
  obtain ⟨⟨k, x⟩, hm, hk⟩ := List.mem_map.mp ha
  have hk : k = a := hk
  exact hc (has_iff.mpr ⟨x, by rw [← e, ← hk]; exact hm⟩)
 root := has_addB.mpr (.inl W.root)
 kids := by
  intro q bs hm
  have lift : ∀ {q g}, ((g = [] ∧ has S.ends q = true) ∨ ∃ c, g = [c] ∧ has S.below (q ++ [c]) = true) → (g = [] ∧ has S.ends q = true) ∨ ∃ d, g = [d] ∧ has (addB S.below p c) (q ++ [d]) = true := by
   rintro q g (h | ⟨d, h1, h2⟩)
   ·exact .inl h
   ·exact .inr ⟨d, h1, has_addB.mpr (.inl h2)⟩
  rcases mem_addB.mp hm with ⟨hq, hm'⟩ | ⟨rfl, b, hm', rfl⟩ | ⟨rfl, rfl⟩
  ·exact ⟨(W.kids q bs hm').1, fun g hg => lift ((W.kids q bs hm').2 g hg)⟩
  ·refine ⟨?_, fun g hg => ?_⟩
   ·rw [List.nodup_append]
    refine ⟨(W.kids _ b hm').1, by simp, ?_⟩
    intro a ha x hx e
    rw [List.mem_singleton] at hx
    subst hx; subst e
    rcases (W.kids _ b hm').2 _ ha with ⟨h, _⟩ | ⟨d, h1, h2⟩
    ·cases h
    ·cases h1; exact hc h2
   ·rcases List.mem_append.mp hg with hg | hg
    ·exact lift ((W.kids _ b hm').2 g hg)
    ·rw [List.mem_singleton] at hg
     subst hg
     exact .inr ⟨c, rfl, has_addB.mpr (.inr rfl)⟩
  ·exact ⟨List.nodup_nil, fun g hg => nomatch hg⟩
 up := by
  intro q d h
  rcases has_addB.mp h with h | h
  ·obtain ⟨bs, hm, hb⟩ := W.up q d h
   by_cases hq : q = p
   ·subst hq
    exact ⟨bs ++ [[c]], mem_addB.mpr (.inr (.inl ⟨rfl, bs, hm, rfl⟩)), List.mem_append_left _ hb⟩
   ·exact ⟨bs, mem_addB.mpr (.inl ⟨hq, hm⟩), hb⟩
  ·obtain ⟨rfl, h2⟩ := List.append_inj' h rfl
   cases h2
   obtain ⟨b, hb⟩ := has_iff.mp hp
   exact ⟨b ++ [[c]], mem_addB.mpr (.inr (.inl ⟨rfl, b, hb, rfl⟩)), by simp⟩
 ends := by
  intro q h
  obtain ⟨bs, hm, hb⟩ := W.ends q h
  by_cases hq : q = p
  ·subst hq
   exact ⟨bs ++ [[c]], mem_addB.mpr (.inr (.inl ⟨rfl, bs, hm, rfl⟩)), List.mem_append_left _ hb⟩
  ·exact ⟨bs, mem_addB.mpr (.inl ⟨hq, hm⟩), hb⟩
 endnd := W.endnd
 shutk := fun q hq => has_addB.mpr (.inl (W.shutk q hq))
end
section
def EntV (S : St) (α : Path → Nat) (p g : Path) (v : Value) : Prop := if g = [] then ∃ k t, look S.ends p = some k ∧ v = .int k t else v = .ref (α (p ++ g))
inductive Ents (S : St) (α : Path → Nat) (p : Path) : List Path → KVs → Prop
 | nil : Ents S α p [] []
 | cons {g bs v kvs} : EntV S α p g v → Ents S α p bs kvs → Ents S α p (g :: bs) ((toS g, v) :: kvs)
structure Tree (w : World) (h : Heap) (S : St) (α δ : Path → Nat) : Prop where
 bs : Bs w h
 tab : Tab h
 node : ∀ p bs, (p, bs) ∈ S.below → ∃ kvs, NodeAt w h (α p) (δ p) kvs ∧ Ents S α p bs kvs
 door : ∀ p, has S.below p = true → if p ∈ S.shut then ShutAt w h (δ p) (α p) else openDict h (δ p)
 inj : ∀ p q, has S.below p = true → has S.below q = true → α p = α q → p = q
 injd : ∀ p q, has S.below p = true → has S.below q = true → δ p = δ q → p = q
 lod : ∀ p, has S.below p = true → 303 ≤ δ p
def Away (S : St) (α δ : Path → Nat) (b : Nat) : Prop := ∀ p, has S.below p = true → b ≠ α p ∧ b ≠ δ p
structure Ev (h : Heap) (S : St) (α δ : Path → Nat) (h' : Heap) (S' : St) (α' δ' : Path → Nat) : Prop where
 kept : ∀ b o, b ≠ 100 → Away S α δ b → h.get? b = some o → h'.get? b = some o
 away : ∀ b o, h.get? b = some o → Away S α δ b → Away S' α' δ' b
theorem Ev.refl {h : Heap} {S : St} {α δ : Path → Nat} : Ev h S α δ h S α δ := ⟨fun _ _ _ _ e => e, fun _ _ _ a => a⟩
theorem Ev.trans {h h' h'' : Heap} {S S' S'' : St} {α δ α' δ' α'' δ'' : Path → Nat} (x : Ev h S α δ h' S' α' δ') (y : Ev h' S' α' δ' h'' S'' α'' δ'') (t : ∃ o, h'.get? 100 = some o) (t0 : ∀ b, Away S α δ b → b = 100 → Away S'' α'' δ'' b) : Ev h S α δ h'' S'' α'' δ'' where
 kept := fun b o hb a e => y.kept b o hb (x.away b o e a) (x.kept b o hb a e)
 away := fun b o e a => by
  by_cases hb : b = 100
  ·exact t0 b a hb
  ·exact y.away b o (x.kept b o hb a e) (x.away b o e a)
theorem Tree.lo {w : World} {h : Heap} {S : St} {α δ : Path → Nat} (T : Tree w h S α δ) {p : Path} (hp : has S.below p = true) : 303 ≤ α p := by
 obtain ⟨bs, hb⟩ := has_iff.mp hp
 obtain ⟨kvs, hn, _⟩ := T.node p bs hb
 exact hn.lo
theorem Tree.away100 {w : World} {h : Heap} {S : St} {α δ : Path → Nat} (T : Tree w h S α δ) : ∀ b, b < 303 → Away S α δ b := fun b hb p hp => ⟨by have := T.lo hp; lia, by have := T.lod p hp; lia⟩
theorem Tree.objA {w : World} {h : Heap} {S : St} {α δ : Path → Nat} (T : Tree w h S α δ) {p : Path} (hp : has S.below p = true) : ∃ es ep, h.get? (α p) = some (nodeO es ep (δ p)) := by
 obtain ⟨bs, hb⟩ := has_iff.mp hp
 obtain ⟨kvs, hn, _⟩ := T.node p bs hb
 obtain ⟨es, ep, ho, _⟩ := hn.at_
 exact ⟨es, ep, ho⟩
theorem Tree.objD {w : World} {h : Heap} {S : St} {α δ : Path → Nat} (T : Tree w h S α δ) {p : Path} (hp : has S.below p = true) : ∃ es ep, h.get? (δ p) = some ⟨.type "dict", none, .dict es ep, #[]⟩ := by
 have := T.door p hp
 split at this
 ·obtain ⟨F, ep, t, e, _⟩ := this; exact ⟨_, ep, e⟩
 ·obtain ⟨ep, e⟩ := this; exact ⟨_, ep, e⟩
theorem Tree.ad {w : World} {h : Heap} {S : St} {α δ : Path → Nat} (T : Tree w h S α δ) {p q : Path} (hp : has S.below p = true) (hq : has S.below q = true) : α p ≠ δ q := by
 obtain ⟨es, ep, e1⟩ := T.objA hp
 obtain ⟨es', ep', e2⟩ := T.objD hq
 intro e
 rw [e, e2] at e1
 cases e1
theorem Tree.nondict {w : World} {h : Heap} {S : St} {α δ : Path → Nat} (T : Tree w h S α δ) {b : Nat} {o : Obj} (e : h.get? b = some o) (hno : ∀ es n, o.data ≠ .dict es n) : Away S α δ b := fun p hp => by
 constructor
 ·rintro rfl
  obtain ⟨es, ep, e1⟩ := T.objA hp
  rw [e] at e1; cases e1; exact hno _ _ rfl
 ·rintro rfl
  obtain ⟨es, ep, e1⟩ := T.objD hp
  rw [e] at e1; cases e1; exact hno _ _ rfl
def Nd3 (o : Obj) : Prop := (∃ fd, o.data = .func fd) ∨ (∃ v, o.data = .cell v) ∨ ∃ vs, o.data = .fields vs ∧ ∃ q t, vs[1]? = some (.str q t)
theorem Nd3.nd {o : Obj} (x : Nd3 o) : ∀ es n, o.data ≠ .dict es n := fun es n e => by
 rcases x with ⟨_, h⟩ | ⟨_, h⟩ | ⟨_, h, _⟩ <;> (rw [e] at h; cases h)
def Need (S : St) (α δ : Path → Nat) (b : Nat) (o : Obj) : Prop := b < 303 ∨ (∃ p, has S.below p = true ∧ (b = α p ∨ b = δ p)) ∨ Nd3 o
theorem CodeRec.need {h h' : Heap} {cd : Value} {q : Str} (x : h.CodeRec cd q) (k : ∀ b o, h.get? b = some o → Nd3 o → h'.get? b = some o) : h'.CodeRec cd q :=
 let ⟨c, o, vs, t, e1, e2, e3, e4⟩ := x; ⟨c, o, vs, t, e1, k _ _ e2 (.inr (.inr ⟨vs, e3, q, t, e4⟩)), e3, e4⟩
theorem Tab.need {h h' : Heap} (x : Tab h) (k : ∀ b o, h.get? b = some o → Nd3 o → h'.get? b = some o) (k100 : ∀ o, h.get? 100 = some o → h'.get? 100 = some o) : Tab h' :=
 let ⟨ps, hP, hps⟩ := x; ⟨ps, k100 _ hP, hps.imp id fun ⟨c', e, n, r⟩ => ⟨c', e, n, CodeRec.need r k⟩⟩
theorem LamAt.need {h h' : Heap} {F a : Nat} (x : LamAt h F a) (k : ∀ b o, h.get? b = some o → Nd3 o → h'.get? b = some o) : LamAt h' F a :=
 let ⟨c, pm, c', ctv, hF, ⟨o, ho, hd⟩, hcd⟩ := x; ⟨c, pm, c', ctv, k _ _ hF (.inl ⟨_, rfl⟩), ⟨o, k _ _ ho (.inr (.inl ⟨_, hd⟩)), hd⟩, CodeRec.need hcd k⟩
theorem ShutAt.need {w : World} {h h' : Heap} {d a : Nat} (x : ShutAt w h d a) (hd : ∀ o, h.get? d = some o → h'.get? d = some o) (k : ∀ b o, h.get? b = some o → Nd3 o → h'.get? b = some o) : ShutAt w h' d a :=
 let ⟨F, ep, t, e, l⟩ := x; ⟨F, ep, t, hd _ e, l.need k⟩
theorem Tree.keep {w : World} {h h' : Heap} {S : St} {α δ : Path → Nat} (T : Tree w h S α δ) (k : ∀ b o, h.get? b = some o → Need S α δ b o → h'.get? b = some o) : Tree w h' S α δ where
 bs := T.bs.mono (fun b o hb _ e => k b o e (.inl hb)) (let ⟨ps, hP, _⟩ := T.tab; ⟨_, k _ _ hP (.inl (by decide))⟩)
 tab := T.tab.need (fun b o e hn => k b o e (.inr (.inr hn))) fun o e => k _ _ e (.inl (by decide))
 node := fun p bs hb => let ⟨kvs, hn, he⟩ := T.node p bs hb; ⟨kvs, ⟨hn.lo, hn.at_.at fun o e => k _ _ e (.inr (.inl ⟨p, has_iff.mpr ⟨bs, hb⟩, .inl rfl⟩))⟩, he⟩
 door := fun p hp => by
  have := T.door p hp
  split
  ·rename_i hs
   rw [if_pos hs] at this
   exact this.need (fun o e => k _ _ e (.inr (.inl ⟨p, hp, .inr rfl⟩))) fun b o e hn => k b o e (.inr (.inr hn))
  ·rename_i hs
   rw [if_neg hs] at this
   obtain ⟨ep, e⟩ := this
   exact ⟨ep, k _ _ e (.inr (.inl ⟨p, hp, .inr rfl⟩))⟩
 inj := T.inj
 injd := T.injd
 lod := T.lod
theorem Tree.grow {w : World} {h h' : Heap} {S : St} {α δ : Path → Nat} (T : Tree w h S α δ) (k : ∀ b o, h.get? b = some o → h'.get? b = some o) : Tree w h' S α δ := T.keep fun b o e _ => k b o e
theorem Tree.same {w : World} {h h' : Heap} {S : St} {α δ : Path → Nat} {b : Nat} {o : Obj} {es : Array DictEntry} {n : Nat} (T : Tree w h S α δ) (hb : 303 ≤ b) (ho : h.get? b = some o) (hd : o.data = .dict es n) (ha : Away S α δ b) (k : ∀ x o, x ≠ b → h.get? x = some o → h'.get? x = some o) : Tree w h' S α δ := by
 refine T.keep fun x ox e hn => k x ox ?_ e
 rintro rfl
 rcases hn with hn | ⟨p, hp, hn | hn⟩ | hn
 ·lia
 ·exact (ha p hp).1 hn
 ·exact (ha p hp).2 hn
 ·rw [ho] at e; cases e; exact hn.nd _ _ hd
theorem Ents.keys {S : St} {α : Path → Nat} {p : Path} {bs : List Path} {kvs : KVs} (x : Ents S α p bs kvs) : kvs.map (·.1) = bs.map toS := by
 induction x with
 | nil => rfl
 | cons _ _ ih => rw [List.map_cons, List.map_cons, ih]
theorem Ents.len {S : St} {α : Path → Nat} {p : Path} {bs : List Path} {kvs : KVs} (x : Ents S α p bs kvs) : kvs.length = bs.length := by
 have := congrArg List.length x.keys; simpa using this
theorem Ents.val {S : St} {α : Path → Nat} {p : Path} {bs : List Path} {kvs : KVs} (x : Ents S α p bs kvs) {g : Path} (hg : g ∈ bs) : ∃ v, valueAt kvs (toS g) = some v ∧ EntV S α p g v := by
 induction x with
 | nil => cases hg
 | @cons g' bs v kvs hv _ ih =>
  by_cases e : g' = g
  ·subst e
   exact ⟨v, by simp [valueAt], hv⟩
  ·obtain ⟨u, h1, h2⟩ := ih (by rcases List.mem_cons.mp hg with e' | h; exact absurd e'.symm e; exact h)
   refine ⟨u, ?_, h2⟩
   have : toS g' ≠ toS g := fun h => e (toS_inj h)
   unfold valueAt at h1 ⊢
   rw [List.find?_cons_of_neg (by simpa using this)]
   exact h1
theorem Ents.none {S : St} {α : Path → Nat} {p : Path} {bs : List Path} {kvs : KVs} (x : Ents S α p bs kvs) {g : Path} (hg : g ∉ bs) : valueAt kvs (toS g) = Option.none := by
 unfold valueAt
 rw [Option.map_eq_none_iff, List.find?_eq_none]
 intro kv hm hk
 have hk : kv.1 = toS g := by simpa using hk
 have : kv.1 ∈ kvs.map (·.1) := List.mem_map.mpr ⟨kv, hm, rfl⟩
 rw [x.keys, hk] at this
 obtain ⟨g', hg', e⟩ := List.mem_map.mp this
 exact hg (toS_inj e ▸ hg')
theorem Ents.mono {S S' : St} {α α' : Path → Nat} {p : Path} {bs : List Path} {kvs : KVs} (x : Ents S α p bs kvs) (k : ∀ g ∈ bs, ∀ v, EntV S α p g v → EntV S' α' p g v) : Ents S' α' p bs kvs := by
 induction x with
 | nil => exact .nil
 | cons hv _ ih => exact .cons (k _ List.mem_cons_self _ hv) (ih fun g hg => k g (List.mem_cons_of_mem _ hg))
theorem Ents.snoc {S : St} {α : Path → Nat} {p g : Path} {bs : List Path} {kvs : KVs} {v : Value} (x : Ents S α p bs kvs) (hv : EntV S α p g v) : Ents S α p (bs ++ [g]) (kvs ++ [(toS g, v)]) := by
 induction x with
 | nil => exact .cons hv .nil
 | cons h _ ih => exact .cons h ih
end
section
section
variable {w : World} {A : Around} {E : Value → Shared → Prop} {s : Shared} {S : St} {α δ : Path → Nat} {p : Path} {c : Nat} {t : Tok}
theorem kid_of {S : St} (W : WF S) {p : Path} {c : Nat} {bs : List Path} (hb : (p, bs) ∈ S.below) : [c] ∈ bs ↔ has S.below (p ++ [c]) = true := by
 constructor
 ·intro h
  rcases (W.kids p bs hb).2 _ h with ⟨e, _⟩ | ⟨d, e, h2⟩
  ·cases e
  ·cases e; exact h2
 ·intro h
  obtain ⟨bs', hb', hc⟩ := W.up p c h
  rw [key_uniq W.nd hb hb']; exact hc
theorem step_hit {Q : Value → Shared → Prop} (T : Tree w s.heap S α δ) (W : WF S) (hp : has S.below p = true) (hc : has S.below (p ++ [c]) = true) (h : Q (.ref (α (p ++ [c]))) { s with toks := s.toks + 1 }) :
  wpAny (Md w) A (getItem (.ref (α p)) (.str (toS [c]) t)) Q E s := by
 obtain ⟨bs, hb⟩ := has_iff.mp hp
 obtain ⟨kvs, hn, he⟩ := T.node p bs hb
 obtain ⟨v, hv, hE⟩ := he.val ((kid_of W hb).mpr hc)
 unfold EntV at hE
 rw [if_neg (by simp)] at hE
 subst hE
 exact sub_hit T.bs hn hv h
def Step (w : World) (s : Shared) (S : St) (α δ : Path → Nat) (p : Path) (c : Nat) (v : Value) (s' : Shared) : Prop := ∃ h' tk α' δ', v = .ref (α' (p ++ [c])) ∧ s' = { s with heap := h', toks := tk } ∧ Tree w h' (S.add p c) α' δ' ∧ Ev s.heap S α δ h' (S.add p c) α' δ' ∧ ∀ q, has S.below q = true → α' q = α q ∧ δ' q = δ q
theorem step_new (hA : Ok A 879 880) (T : Tree w s.heap S α δ) (W : WF S) (hp : has S.below p = true) (hc : ¬ has S.below (p ++ [c]) = true) (hs : p ∉ S.shut) (hsz : ∀ bs, (p, bs) ∈ S.below → bs.length ≤ sizeLine) :
  wpAny (Md w) A (getItem (.ref (α p)) (.str (toS [c]) t)) (Step w s S α δ p c) E s := by
 obtain ⟨bs, hb⟩ := has_iff.mp hp
 obtain ⟨kvs, hn, he⟩ := T.node p bs hb
 have hnot : [c] ∉ bs := fun h => hc ((kid_of W hb).mp h)
 have hd := T.door p hp
 rw [if_neg hs] at hd
 have hnone := he.none hnot
 refine wpAny_mono (sub_open T.bs hA hn hd hnone (by rw [he.len]; exact hsz bs hb)) (fun v s' hv => ?_) fun _ _ e => e
 obtain ⟨a', d', h', tk, rfl, rfl, fa, fd, hnew, hn', k⟩ := hv
 have hold : ∀ q, has S.below q = true → q ≠ p ++ [c] := fun q hq e => hc (e ▸ hq)
 have ea : ∀ q, has S.below q = true → (if q = p ++ [c] then a' else α q) = α q := fun q hq => if_neg (hold q hq)
 have ed : ∀ q, has S.below q = true → (if q = p ++ [c] then d' else δ q) = δ q := fun q hq => if_neg (hold q hq)
 have nd : ∀ b o, s.heap.get? b = some o → (∀ es n, o.data ≠ .dict es n) → h'.get? b = some o := fun b o e hno => k b o (T.nondict e hno p hp).1 e
 have nd3 : ∀ b o, s.heap.get? b = some o → Nd3 o → h'.get? b = some o := fun b o e h3 => nd b o e h3.nd
 have tab' : Tab h' := T.tab.need nd3 fun o e => k _ _ (T.away100 100 (by decide) p hp).1 e
 have fresh : ∀ b o, s.heap.get? b = some o → b ≠ a' ∧ b ≠ d' := fun b o e => ⟨fun x => (by rw [← x, e] at fa; cases fa), fun x => (by rw [← x, e] at fd; cases fd)⟩
 have freshA : ∀ q, has S.below q = true → α q ≠ a' ∧ α q ≠ d' := fun q hq => let ⟨_, _, e⟩ := T.objA hq; fresh _ _ e
 have freshD : ∀ q, has S.below q = true → δ q ≠ a' ∧ δ q ≠ d' := fun q hq => let ⟨_, _, e⟩ := T.objD hq; fresh _ _ e
 refine ⟨h', tk, fun q => if q = p ++ [c] then a' else α q, fun q => if q = p ++ [c] then d' else δ q, by simp, rfl, ⟨?_, tab', ?_, ?_, ?_, ?_, ?_⟩, ⟨?_, ?_⟩, fun q hq => ⟨ea q hq, ed q hq⟩⟩
 ·exact T.bs.mono (fun b o hb' _ e => k b o (T.away100 b hb' p hp).1 e) (let ⟨_, hP, _⟩ := tab'; ⟨_, hP⟩)
 ·intro q qs hm
  rcases mem_addB.mp hm with ⟨hq, hm'⟩ | ⟨rfl, b, hm', rfl⟩ | ⟨rfl, rfl⟩
  ·have hq' : has S.below q = true := has_iff.mpr ⟨qs, hm'⟩
   obtain ⟨kvs', hn2, he2⟩ := T.node q qs hm'
   rw [ea q hq', ed q hq']
   refine ⟨kvs', ⟨hn2.lo, hn2.at_.at fun o e => k _ _ (fun x => hq (T.inj q p hq' hp x)) e⟩, he2.mono fun g hg v hv => ?_⟩
   unfold EntV at hv ⊢
   split
   ·rename_i h0; rw [if_pos h0] at hv; exact hv
   ·rename_i h0
    rw [if_neg h0] at hv
    rcases (W.kids q qs hm').2 g hg with ⟨e, _⟩ | ⟨x, rfl, hx⟩
    ·exact absurd e h0
    ·exact hv.trans (congrArg Value.ref (ea _ hx).symm)
  ·rw [key_uniq W.nd hm' hb]
   rw [ea _ hp, ed _ hp]
   have hst : stored kvs (toS [c]) (.ref a') = kvs ++ [(toS [c], .ref a')] := by
    unfold stored
    rw [if_neg]
    intro h
    obtain ⟨kv, hkv, h2⟩ := List.any_eq_true.mp h
    have h2 : kv.1 = toS [c] := by simpa using h2
    have : kv.1 ∈ kvs.map (·.1) := List.mem_map.mpr ⟨kv, hkv, rfl⟩
    rw [he.keys, h2] at this
    obtain ⟨g', hg', e⟩ := List.mem_map.mp this
    exact hnot (toS_inj e ▸ hg')
   refine ⟨_, hn', ?_⟩
   rw [hst]
   refine (he.mono fun g hg v hv => ?_).snoc ?_
   ·unfold EntV at hv ⊢
    split
    ·rename_i h0; rw [if_pos h0] at hv; exact hv
    ·rename_i h0
     rw [if_neg h0] at hv
     rcases (W.kids _ bs hb).2 g hg with ⟨e, _⟩ | ⟨x, rfl, hx⟩
     ·exact absurd e h0
     ·exact hv.trans (congrArg Value.ref (ea _ hx).symm)
   ·unfold EntV
    rw [if_neg (by simp)]
    simp
  ·refine ⟨[], ?_, .nil⟩
   rw [if_pos rfl, if_pos rfl]
   exact hnew.1
 ·intro q hq
  show if q ∈ S.shut then _ else _
  rcases has_addB.mp hq with hq' | rfl
  ·rw [ea q hq', ed q hq']
   have := T.door q hq'
   split
   ·rename_i h0
    rw [if_pos h0] at this
    exact this.need (fun o e => k _ _ (Ne.symm (T.ad hp hq')) e) nd3
   ·rename_i h0
    rw [if_neg h0] at this
    obtain ⟨ep, e⟩ := this
    exact ⟨ep, k _ _ (Ne.symm (T.ad hp hq')) e⟩
  ·rw [if_neg (fun h => hc (W.shutk _ h)), if_pos rfl]
   exact hnew.2
 ·intro q r hq hr e
  rcases has_addB.mp hq with hq' | rfl <;> rcases has_addB.mp hr with hr' | rfl
  ·rw [ea q hq', ea r hr'] at e; exact T.inj q r hq' hr' e
  ·rw [ea q hq', if_pos rfl] at e; exact absurd e (freshA q hq').1
  ·rw [ea r hr', if_pos rfl] at e; exact absurd e.symm (freshA r hr').1
  ·rfl
 ·intro q r hq hr e
  rcases has_addB.mp hq with hq' | rfl <;> rcases has_addB.mp hr with hr' | rfl
  ·rw [ed q hq', ed r hr'] at e; exact T.injd q r hq' hr' e
  ·rw [ed q hq', if_pos rfl] at e; exact absurd e (freshD q hq').2
  ·rw [ed r hr', if_pos rfl] at e; exact absurd e.symm (freshD r hr').2
  ·rfl
 ·intro q hq
  rcases has_addB.mp hq with hq' | rfl
  ·show 303 ≤ (if q = p ++ [c] then d' else δ q)
   rw [ed q hq']; exact T.lod q hq'
  ·simpa using T.bs.new fd
 ·exact fun b o _ ha e => k b o (ha p hp).1 e
 ·intro b o e ha q hq
  rcases has_addB.mp hq with hq' | rfl
  ·show b ≠ (if q = p ++ [c] then a' else α q) ∧ b ≠ (if q = p ++ [c] then d' else δ q)
   rw [ea q hq', ed q hq']; exact ha q hq'
  ·simpa using fresh b o e
theorem step_shut (hA : Ok A 879 880) (T : Tree w s.heap S α δ) (W : WF S) (hp : has S.below p = true) (hc : ¬ has S.below (p ++ [c]) = true) (hs : p ∈ S.shut) :
  wpAny (Md w) A (getItem (.ref (α p)) (.str (toS [c]) t)) (NewNode s) E s := by
 obtain ⟨bs, hb⟩ := has_iff.mp hp
 obtain ⟨kvs, hn, he⟩ := T.node p bs hb
 have hnot : [c] ∉ bs := fun h => hc ((kid_of W hb).mp h)
 have hd := T.door p hp
 rw [if_pos hs] at hd
 exact sub_shut T.bs hA hn hd (he.none hnot)
end
end
section
theorem gone_cons (S : St) (p : Path) (c : Nat) (r : Path) : gone S p (c :: r) = if has S.below (p ++ [c]) = true then gone S (p ++ [c]) r else if p ∈ S.shut then (S, false) else gone (S.add p c) (p ++ [c]) r := rfl
theorem gone_snoc : ∀ (S : St) (p l : Path) (c : Nat), gone S p (l ++ [c]) = if (gone S p l).2 = true then gone (gone S p l).1 (p ++ l) [c] else gone S p l
 | S, p, [], c => by simp [gone]
 | S, p, d :: r, c => by
  have e : p ++ d :: r = (p ++ [d]) ++ r := by simp
  rw [List.cons_append, gone_cons S p d (r ++ [c]), gone_cons S p d r, e]
  split
  ·exact gone_snoc S (p ++ [d]) r c
  ·split
   ·simp
   ·exact gone_snoc (S.add p d) (p ++ [d]) r c
theorem gone_one (S : St) (p : Path) (c : Nat) : gone S p [c] = if has S.below (p ++ [c]) = true then (S, true) else if p ∈ S.shut then (S, false) else (S.add p c, true) := by
 unfold gone
 split
 ·rfl
 ·split <;> rfl
def Sz (n : Nat) (S : St) : Prop := ∀ p bs, (p, bs) ∈ S.below → bs.length ≤ n
theorem Sz.add {n : Nat} {S : St} (z : Sz n S) (p : Path) (c : Nat) : Sz (n + 1) (S.add p c) := by
 intro q bs hm
 rcases mem_addB.mp hm with ⟨_, hm'⟩ | ⟨rfl, b, hm', rfl⟩ | ⟨rfl, rfl⟩
 ·exact Nat.le_succ_of_le (z q bs hm')
 ·rw [List.length_append]; exact Nat.add_le_add_right (z _ b hm') 1
 ·exact Nat.zero_le _
theorem Sz.le {n k : Nat} {S : St} (z : Sz n S) (h : n ≤ k) : Sz k S := fun p bs hm => Nat.le_trans (z p bs hm) h
def Loose (w : World) (h : Heap) (S : St) (α δ : Path → Nat) (a d : Nat) : Prop := NodeNew w h a d ∧ Away S α δ a ∧ Away S α δ d
structure Came (w : World) (h₀ : Heap) (S₀ : St) (α₀ δ₀ : Path → Nat) (n : Nat) (path : Path) (h : Heap) (α δ : Path → Nat) (x d : Nat) : Prop where
 T : Tree w h (gone S₀ [] path).1 α δ
 W : WF (gone S₀ [] path).1
 z : Sz n (gone S₀ [] path).1
 ev : Ev h₀ S₀ α₀ δ₀ h (gone S₀ [] path).1 α δ
 old : ∀ q, has S₀.below q = true → has (gone S₀ [] path).1.below q = true ∧ α q = α₀ q ∧ δ q = δ₀ q
 at_ : if (gone S₀ [] path).2 = true then has (gone S₀ [] path).1.below path = true ∧ x = α path ∧ d = δ path else Loose w h (gone S₀ [] path).1 α δ x d ∧ h₀.get? x = none ∧ h₀.get? d = none
theorem Tree.freshAway {w : World} {h : Heap} {S : St} {α δ : Path → Nat} (T : Tree w h S α δ) {b : Nat} (fb : h.get? b = none) : Away S α δ b := fun q hq => by
 obtain ⟨_, _, e1⟩ := T.objA hq
 obtain ⟨_, _, e2⟩ := T.objD hq
 exact ⟨fun x => by (rw [x, e1] at fb; cases fb), fun x => by (rw [x, e2] at fb; cases fb)⟩
theorem Came.fresh {w : World} {h₀ : Heap} {S₀ : St} {α₀ δ₀ : Path → Nat} {n : Nat} {path : Path} {h : Heap} {α δ : Path → Nat} {x d : Nat} (C : Came w h₀ S₀ α₀ δ₀ n path h α δ x d) {b : Nat} (fb : h.get? b = none) : h₀.get? b = none := by
 cases e : h₀.get? b with
 | none => rfl
 | some o =>
  exfalso
  by_cases h100 : b = 100
  ·subst h100
   obtain ⟨_, hP, _⟩ := C.T.tab
   rw [hP] at fb; cases fb
  ·by_cases ha : Away S₀ α₀ δ₀ b
   ·rw [C.ev.kept b o h100 ha e] at fb; cases fb
   ·unfold Away at ha
    rw [Classical.not_forall] at ha
    obtain ⟨q, ha⟩ := ha
    rw [Classical.not_imp] at ha
    obtain ⟨hq, ha⟩ := ha
    obtain ⟨h1, h2, h3⟩ := C.old q hq
    obtain ⟨_, _, e1⟩ := C.T.objA h1
    obtain ⟨_, _, e2⟩ := C.T.objD h1
    by_cases hb : b = α₀ q
    ·rw [h2, ← hb, fb] at e1; cases e1
    ·by_cases hb2 : b = δ₀ q
     ·rw [h3, ← hb2, fb] at e2; cases e2
     ·exact ha ⟨hb, hb2⟩
theorem Came.keep {w : World} {h₀ : Heap} {S₀ : St} {α₀ δ₀ : Path → Nat} {n : Nat} {path : Path} {h h' : Heap} {α δ : Path → Nat} {x d b : Nat} {o : Obj} (C : Came w h₀ S₀ α₀ δ₀ n path h α δ x d) (hb : 303 ≤ b) (ho : h.get? b = some o) (hno : ¬ Nd3 o) (ha : Away (gone S₀ [] path).1 α δ b) (hx : b ≠ x) (hd : b ≠ d) (hf : h₀.get? b = none)
  (k : ∀ y oy, y ≠ b → h.get? y = some oy → h'.get? y = some oy) : Came w h₀ S₀ α₀ δ₀ n path h' α δ x d where
 T := C.T.keep fun y oy e hn => k y oy (by
  rintro rfl
  rcases hn with hn | ⟨p, hp, hn | hn⟩ | hn
  ·lia
  ·exact (ha p hp).1 hn
  ·exact (ha p hp).2 hn
  ·rw [ho] at e; cases e; exact hno hn) e
 W := C.W
 z := C.z
 ev := ⟨fun y oy hy ay e => k y oy (fun hyb => by rw [hyb, hf] at e; cases e) (C.ev.kept y oy hy ay e), C.ev.away⟩
 old := C.old
 at_ := by
  have := C.at_
  split
  ·rename_i hs; rw [if_pos hs] at this; exact this
  ·rename_i hs
   rw [if_neg hs] at this
   obtain ⟨⟨⟨hna, ep, hod⟩, ax, ad⟩, f1, f2⟩ := this
   exact ⟨⟨⟨⟨hna.lo, hna.at_.at fun o e => k _ _ (Ne.symm hx) e⟩, ep, k _ _ (Ne.symm hd) hod⟩, ax, ad⟩, f1, f2⟩
theorem Came.grow {w : World} {h₀ : Heap} {S₀ : St} {α₀ δ₀ : Path → Nat} {n : Nat} {path : Path} {h h' : Heap} {α δ : Path → Nat} {x d : Nat} (C : Came w h₀ S₀ α₀ δ₀ n path h α δ x d) (k : ∀ y oy, h.get? y = some oy → h'.get? y = some oy) : Came w h₀ S₀ α₀ δ₀ n path h' α δ x d where
 T := C.T.grow k
 W := C.W
 z := C.z
 ev := ⟨fun y oy hy ay e => k y oy (C.ev.kept y oy hy ay e), C.ev.away⟩
 old := C.old
 at_ := by
  have := C.at_
  split
  ·rename_i hs; rw [if_pos hs] at this; exact this
  ·rename_i hs
   rw [if_neg hs] at this
   obtain ⟨⟨⟨hna, ep, hod⟩, ax, ad⟩, f1, f2⟩ := this
   exact ⟨⟨⟨⟨hna.lo, hna.at_.at fun o e => k _ _ e⟩, ep, k _ _ hod⟩, ax, ad⟩, f1, f2⟩
theorem Came.start {w : World} {h : Heap} {S : St} {α δ : Path → Nat} {n : Nat} (T : Tree w h S α δ) (W : WF S) (z : Sz n S) : Came w h S α δ n [] h α δ (α []) (δ []) :=
 ⟨T, W, z, Ev.refl, fun q hq => ⟨hq, rfl, rfl⟩, ⟨W.root, rfl, rfl⟩⟩
section
variable {w : World} {A : Around} {E : Value → Shared → Prop} {s : Shared} {h₀ : Heap} {S₀ : St} {α₀ δ₀ α δ : Path → Nat} {n x d : Nat} {path : Path} {c : Nat} {t : Tok}
theorem came_step {Q : Value → Shared → Prop} (hA : Ok A 879 880) (hn : n ≤ sizeLine) (C : Came w h₀ S₀ α₀ δ₀ n path s.heap α δ x d)
  (h : ∀ h' tk α' δ' x' d', Came w h₀ S₀ α₀ δ₀ (n + 1) (path ++ [c]) h' α' δ' x' d' → (∀ b o, b ≠ 100 → s.heap.get? b = some o → Away (gone S₀ [] path).1 α δ b → b ≠ x → b ≠ d → h'.get? b = some o ∧ Away (gone S₀ [] (path ++ [c])).1 α' δ' b ∧ b ≠ x' ∧ b ≠ d') → Q (.ref x') { s with heap := h', toks := tk }) :
  wpAny (Md w) A (getItem (.ref x) (.str (toS [c]) t)) Q E s := by
 have e := gone_snoc S₀ [] path c
 rw [List.nil_append] at e
 obtain ⟨T, W, z, ev, old, at_⟩ := id C
 by_cases hs : (gone S₀ [] path).2 = true
 ·rw [if_pos hs] at e at_
  rw [gone_one] at e
  obtain ⟨hp, rfl, rfl⟩ := at_
  by_cases hc : has (gone S₀ [] path).1.below (path ++ [c]) = true
  ·rw [if_pos hc] at e
   refine step_hit T W hp hc (h s.heap _ α δ _ (δ (path ++ [c])) ⟨?_, ?_, ?_, ?_, ?_, ?_⟩ fun b o h1 eb ab _ _ => ⟨eb, ?_, (ab _ hc).1, (ab _ hc).2⟩)
   all_goals rw [e]
   ·exact T
   ·exact W
   ·exact z.le (Nat.le_succ n)
   ·exact ev
   ·exact old
   ·exact ⟨hc, rfl, rfl⟩
   ·exact ab
  ·rw [if_neg hc] at e
   by_cases hsh : path ∈ (gone S₀ [] path).1.shut
   ·rw [if_pos hsh] at e
    refine wpAny_mono (step_shut hA T W hp hc hsh) (fun v s' hv => ?_) fun _ _ e => e
    obtain ⟨a, d, rfl, g, fa, fd, hnew⟩ := hv.at_ T.bs
    obtain ⟨h', tk, rfl, k⟩ := g
    refine h h' tk α δ a d ⟨?_, ?_, ?_, ?_, ?_, ?_⟩ fun b o h1 eb ab _ _ => ⟨k _ _ eb, ?_, fun hb => by (rw [← hb, eb] at fa; cases fa), fun hb => by (rw [← hb, eb] at fd; cases fd)⟩
    all_goals rw [e]
    ·exact T.grow k
    ·exact W
    ·exact z.le (Nat.le_succ n)
    ·exact ⟨fun b o hb ab eb => k _ _ (ev.kept b o hb ab eb), ev.away⟩
    ·exact old
    ·exact ⟨⟨hnew, T.freshAway fa, T.freshAway fd⟩, C.fresh fa, C.fresh fd⟩
    ·exact ab
   ·rw [if_neg hsh] at e
    refine wpAny_mono (step_new hA T W hp hc hsh fun bs hb => Nat.le_trans (z path bs hb) hn) (fun v s' hv => ?_) fun _ _ e => e
    obtain ⟨h', tk, α', δ', rfl, rfl, T', ev', same⟩ := hv
    refine h h' tk α' δ' _ (δ' (path ++ [c])) ⟨?_, ?_, ?_, ?_, ?_, ?_⟩ fun b o h1 eb ab hx hd => ⟨?_, ?_, (ev'.away b o eb ab _ (has_addB.mpr (.inr rfl))).1, (ev'.away b o eb ab _ (has_addB.mpr (.inr rfl))).2⟩
    all_goals try rw [e]
    ·exact T'
    ·exact W.add hp hc
    ·exact z.add path c
    ·exact ev.trans ev' (let ⟨_, hP, _⟩ := T.tab; ⟨_, hP⟩) fun b _ hb => by
      subst hb
      exact T'.away100 100 (by decide)
    ·exact fun q hq => let ⟨h1, h2, h3⟩ := old q hq; ⟨has_addB.mpr (.inl h1), (same q h1).1.trans h2, (same q h1).2.trans h3⟩
    ·exact ⟨has_addB.mpr (.inr rfl), rfl, rfl⟩
    ·exact ev'.kept b o h1 ab eb
    ·exact ev'.away b o eb ab
 ·rw [if_neg hs] at e at_
  obtain ⟨⟨⟨hna, hod⟩, ax, ad⟩, fx, fd⟩ := at_
  refine wpAny_mono (sub_open T.bs hA hna hod rfl (Nat.zero_le _)) (fun v s' hv => ?_) fun _ _ e => e
  obtain ⟨a', d', h', tk, rfl, rfl, fa', fd', hnew, hn', k⟩ := hv
  obtain ⟨es, ep, hox, _⟩ := hna.at_
  have T' : Tree w h' (gone S₀ [] path).1 α δ := T.same hna.lo hox rfl ax k
  refine h h' tk α δ a' d' ⟨?_, ?_, ?_, ?_, ?_, ?_⟩ fun b o h1 eb ab hx hd => ⟨k b o hx eb, ?_, fun hb => by (rw [← hb, eb] at fa'; cases fa'), fun hb => by (rw [← hb, eb] at fd'; cases fd')⟩
  all_goals try rw [e]
  ·exact T'
  ·exact W
  ·exact z.le (Nat.le_succ n)
  ·exact ⟨fun b o hb ab eb => k _ _ (fun hbx => by rw [hbx, fx] at eb; cases eb) (ev.kept b o hb ab eb), ev.away⟩
  ·exact old
  ·rw [if_neg hs]
   exact ⟨⟨hnew, T.freshAway fa', T.freshAway fd'⟩, C.fresh fa', C.fresh fd'⟩
  ·exact ab
end
end
section
theorem ev_Sub {w : World} {A : Around} {E : Value → Shared → Prop} {s : Shared} {env : Env} {value slice : Expr} {pos : Pos} {Q : Value → Shared → Prop}
  (h : wpAny (Md w) A (eval value env) (fun o s₁ => wpAny (Md w) A (eval slice env) (fun i s₂ => wpAny (Md w) A (getitemInPython o) (fun b s₃ => b = false ∧ wpAny (Md w) A (getItem o i) Q E s₃) E s₂) E s₁) E s)
  (hs : ∀ o i, subscripted slice false o i = operate [o, i] (getItem o i) := by intro _ _; rfl) : wpAny (Md w) A (eval (.Subscript value slice pos) env) Q E s := by
 rw [arm_eval_Subscript]
 refine wpAny_bind (wpAny_mono h (fun o s₁ h₁ => wpAny_bind (wpAny_holding (wpAny_mono h₁ (fun i s₂ h₂ => wpAny_bind (wpAny_standAt (wpAny_bind (wpAny_mono h₂ (fun b s₃ h₃ => ?_) fun _ _ e => e)))) fun _ _ e => e))) fun _ _ e => e)
 obtain ⟨rfl, h₃⟩ := h₃
 rw [hs]
 refine wpAny_bind (wpAny_mono (fun Γ p hΓ => by rw [Sem.wp_operate]; exact h₃ Γ p hΓ) (fun r s₄ h₄ => wpAny_bind (wpAny_letTemporaryGo (wpAny_pure h₄))) fun _ _ e => e)
theorem gip_node {w : World} {A : Around} {E : Value → Shared → Prop} {s : Shared} {a d : Nat} {kvs : KVs} {Q : Bool → Shared → Prop} (B : Bs w s.heap) (hn : NodeAt w s.heap a d kvs) (h : Q false s) : wpAny (Md w) A (getitemInPython (.ref a)) Q E s := by
 unfold getitemInPython
 exact wpAny_bind ((node_sp B hn (f_getitem _)).here (wpAny_pure h))
theorem Came.node {w : World} {h₀ : Heap} {S₀ : St} {α₀ δ₀ : Path → Nat} {n : Nat} {path : Path} {h : Heap} {α δ : Path → Nat} {x d : Nat} (C : Came w h₀ S₀ α₀ δ₀ n path h α δ x d) : ∃ kvs, NodeAt w h x d kvs := by
 have := C.at_
 split at this
 ·obtain ⟨hp, rfl, rfl⟩ := this
  obtain ⟨bs, hb⟩ := has_iff.mp hp
  obtain ⟨kvs, hn, _⟩ := C.T.node _ _ hb
  exact ⟨kvs, hn⟩
 ·exact ⟨[], this.1.1.1⟩
noncomputable abbrev fdL (i : Nat) (q : Str) (c : Nat) : FuncData := fnD (topS i) q 3 [] .none .none .none (.str "law_in0017_01" 761) none (.ref c) .none 0
section
variable {w : World} {A : Around} {E : Value → Shared → Prop} {s : Shared} {S : St} {α δ : Path → Nat} {n : Nat} {path : Path} {t : Tok}
theorem strIter_nd3 {ty : String} {x : Str} {t : Tok} {i : Nat} {h : Heap} {I : Addr} (y : h.IsStrIter I ty x t i) : ∃ o, h.get? I = some o ∧ ¬ Nd3 o := by
 obtain ⟨o, ho, hc, hd⟩ := y
 refine ⟨o, ho, ?_⟩
 rintro (⟨_, h⟩ | ⟨_, h⟩ | ⟨_, h, _, _, h2⟩)
 ·rw [hd] at h; cases h
 ·rw [hd] at h; cases h
 ·rw [hd] at h; cases h; cases h2
noncomputable def eWk (L : Nat) : Env := callEnvC (fdL 64 "_law_walk" 243) L 244
theorem own_wk {L b : Nat} (h : OwnA (eWk L) b) : b = L := by
 rcases h with rfl | ⟨y, e⟩
 ·rfl
 ·cases e
inductive WkI (w : World) (s₀ : Shared) (S : St) (α δ : Path → Nat) (n : Nat) (path : Path) (L I i : Nat) (s' : Shared) : Prop
 | mk (h : Heap) (tk : Tok) (α' δ' : Path → Nat) (x d : Nat) (m : Str → Option Value) (e : s' = { s₀ with heap := h, toks := tk }) (C : Came w s₀.heap S α δ (n + i) (path.take i) h α' δ' x d) (V : Vars h (eWk L) m) (mn : m "node" = some (.ref x)) (off : ∀ b, (b = L ∨ b = I) → Away (gone S [] (path.take i)).1 α' δ' b ∧ b ≠ x ∧ b ≠ d) : WkI w s₀ S α δ n path L I i s'
theorem Came.at' {w : World} {h₀ hh hh' : Heap} {mm : Str → Option Value} {S : St} {α δ : Path → Nat} {k L : Nat} {pp : Path} {a1 d1 : Path → Nat} {x1 d1' : Nat} (C1 : Came w h₀ S α δ k pp hh a1 d1 x1 d1') (V1 : Vars hh (eWk L) mm) (L3 : 303 ≤ L) (fL : h₀.get? L = none) (o1 : Away (gone S [] pp).1 a1 d1 L ∧ L ≠ x1 ∧ L ≠ d1') (S1 : Heap.SameBut L hh hh') : Came w h₀ S α δ k pp hh' a1 d1 x1 d1' := by
 obtain ⟨ml, ⟨o, es, ep, ho, hd, _⟩, _⟩ := V1.ns
 exact C1.keep L3 ho (fun h3 => h3.nd _ _ hd) o1.1 o1.2.1 o1.2.2 fL fun y oy hy e => (S1.2 y hy).trans e
theorem call_walk {Q : Value → Shared → Prop} (hA : Ok A 870 870) (T : Tree w s.heap S α δ) (W : WF S) (z : Sz n S) (hn : n + path.length ≤ sizeLine)
  (h : ∀ h' tk α' δ' x d, Came w s.heap S α δ (n + path.length) path h' α' δ' x d → Q (.ref x) { s with heap := h', toks := tk }) : wpAny (Md w) A (call (.ref 244) [.ref (α []), .str (toS path) t]) Q E s := by
 refine enter (fd := fdL 64 "_law_walk" 243) (o := o244p6 w.params) (binds := [("node", .ref (α [])), ("path", .str (toS path) t)]) T.bs hA (by decide) fun h₁ tk E' V hk hown => ?_
 have hA' := hA.deeper (eWk s.heap.objs.size)
 rw [show callEnvC (fdL 64 "_law_walk" 243) s.heap.objs.size 244 = eWk s.heap.objs.size from rfl] at V hown ⊢
 generalize A.deeper (eWk s.heap.objs.size) = A' at hA' ⊢
 refine wpAny_execs_cons (wpAny_For (V.nm (v := .str (toS path) t) ?_ (by rfl)))
 refine iter_str fun ty Wk => ?_
 have hsz : (toS path).cps.size = path.length := by simp [toS]
 have k₁ : ∀ b o, s.heap.get? b = some o → (h₁.push { cls := .type ty, data := .fields #[.str (toS path) t, .int 0 0] }).get? b = some o := fun b o e => Heap.get?_push_of_some _ (hk b o e)
 have fresh : ∀ b, s.heap.objs.size ≤ b → s.heap.get? b = none := fun b hb => by
  cases e : s.heap.get? b with
  | none => rfl
  | some o => exact absurd (Heap.lt_size e) (Nat.not_lt.mpr hb)
 have T1 : Tree w (h₁.push { cls := .type ty, data := .fields #[.str (toS path) t, .int 0 0] }) S α δ := T.grow k₁
 have hit : s.heap.objs.size ≤ h₁.objs.size := by
  have := Heap.lt_size (hk 302 _ (T.bs.k 302 (o302p6 w.params) (by kernel_rfl)))
  obtain ⟨o, ho⟩ := V.own (.inl rfl)
  exact Nat.le_of_lt (Nat.lt_of_le_of_lt (hown _ (.inl rfl)) (Heap.lt_size ho))
 have hLI : s.heap.objs.size < h₁.objs.size := let ⟨_, ho⟩ := V.own (.inl rfl); Heap.lt_size ho
 have fL := fresh _ (Nat.le_refl s.heap.objs.size)
 have L3 : 303 ≤ s.heap.objs.size := T.bs.n
 refine for_walksP (Wk _ hA'.h) (WkI w s S α δ n path s.heap.objs.size h₁.objs.size) ?_ ⟨_, Heap.get?_push_size _ rfl, rfl, rfl⟩ ?_ ?_ ?_
 ·refine ⟨_, _, α, δ, α [], δ [], _, rfl, ?_, V.grow fun b o e => Heap.get?_push_of_some _ e, by rfl, fun b hb => ?_⟩
  ·exact (Came.start T W z).grow k₁
  ·have hb : s.heap.objs.size ≤ b := by rcases hb with rfl | rfl; exact Nat.le_refl _; exact hit
   exact ⟨T.freshAway (fresh b hb), T.freshAway (fresh b hb) [] W.root⟩
 ·rintro i s' h' tk' ⟨h₂, tk₂, α', δ', x, d, m, rfl, C, V₂, hm, hoff⟩ hSt hB
  obtain ⟨oi, hoi, hno⟩ := strIter_nd3 hSt
  obtain ⟨off, ox, od⟩ := hoff h₁.objs.size (.inr rfl)
  have kB : ∀ y oy, y ≠ h₁.objs.size → h₂.get? y = some oy → h'.get? y = some oy := fun y oy hy e => hB y oy (by simpa using hy) e
  exact ⟨h', tk', α', δ', x, d, m, rfl, C.keep (Nat.le_trans T.bs.n hit) hoi hno off ox od (fresh _ hit) kB, V₂.keep fun b o hb e => kB b o (Nat.ne_of_lt (let ⟨_, ho⟩ := V.own hb; Heap.lt_size ho)) e, hm, hoff⟩
 ·rintro i v s' E'' G hi ⟨c, u, hc, rfl⟩ ⟨h₂, tk₂, α', δ', x, d, m, rfl, C, V₂, hm, hoff⟩ hSt gN _ _ _
  refine wpAny_of_eq (a := ()) (by rfl) ?_
  refine wpAny_assign_Name (V₂.st (x := "sign") fun h₃ tk₃ b V₃ hb S₃ => ?_)
  have := own_wk hb
  subst this
  have C₃ := C.at' V₂ L3 fL (hoff _ (.inl rfl)) S₃
  obtain ⟨kvs, hnode⟩ := C₃.node
  have hpi : path[i]? = some c := by simpa [toS] using hc
  have htake : path.take (i + 1) = path.take i ++ [c] := by rw [List.take_add_one, hpi]; rfl
  refine wpAny_execs_cons (wpAny_Assign_Name (ev_Sub (V₃.nm (v := .ref x) (V₃.nm (v := .str (toS [c]) u) (gip_node C₃.T.bs hnode ⟨rfl, ?_⟩) (by rfl)) ((set_ne (by decide)).trans hm))))
  refine came_step (hA'.le (by lia) (by lia)) (by rw [hsz] at hi; lia) C₃ fun h₄ tk₄ α₄ δ₄ x₄ d₄ C₄ k₄ => ?_
  have k₄L := fun o ho => k₄ s.heap.objs.size o (Nat.ne_of_gt (Nat.lt_of_lt_of_le (by decide) T.bs.n)) ho (hoff _ (.inl rfl)).1 (hoff _ (.inl rfl)).2.1 (hoff _ (.inl rfl)).2.2
  have hSt₃ : h₃.IsStrIter h₁.objs.size ty (toS path) t (i + 1) := let ⟨o, ho, r⟩ := hSt; ⟨o, (S₃.2 _ (Nat.ne_of_gt hLI)).trans ho, r⟩
  have hit3 : ∃ o, h₃.get? h₁.objs.size = some o := let ⟨o, ho, _⟩ := hSt₃; ⟨o, ho⟩
  have k₄I := fun o ho => k₄ h₁.objs.size o (Nat.ne_of_gt (Nat.lt_of_lt_of_le (by decide) (Nat.le_trans T.bs.n hit))) ho (hoff _ (.inr rfl)).1 (hoff _ (.inr rfl)).2.1 (hoff _ (.inr rfl)).2.2
  have V₄ : Vars h₄ _ _ := V₃.keep fun b o hb e => by
   have := own_wk hb
   subst this
   exact (k₄L o e).1
  refine V₄.st (x := "node") fun h₅ tk₅ b₅ V₅ hb₅ S₅ => wpAny_execs_nil ?_
  have := own_wk hb₅
  subst this
  obtain ⟨oL, hoL⟩ := V₃.own (.inl rfl)
  obtain ⟨oI, hoI⟩ := hit3
  have C₅ := C₄.at' V₄ L3 fL (k₄L oL hoL).2 S₅
  refine gN _ ⟨h₅, tk₅, α₄, δ₄, x₄, d₄, _, rfl, ?_, V₅, set_self, ?_⟩ ?_
  ·rw [htake]; exact C₅
  ·rw [htake]
   rintro b (rfl | rfl)
   ·exact (k₄L oL hoL).2
   ·exact (k₄I oI hoI).2
  ·obtain ⟨o, ho, r⟩ := hSt₃
   exact ⟨o, (S₅.2 _ (Nat.ne_of_gt hLI)).trans (k₄I o ho).1, r⟩
 ·rintro s' ⟨h₂, tk₂, α', δ', x, d, m, rfl, C, V₂, hm, hoff⟩
  rw [hsz] at C
  rw [List.take_of_length_le (Nat.le_refl _)] at C
  refine wpAny_execs_cons (wpAny_Return_some (V₂.nm (v := .ref x) ?_ hm))
  exact h h₂ tk₂ α' δ' x d C
end
end
section
noncomputable abbrev fdT (i : Nat) (q : Str) (c : Nat) : FuncData := fnD (topS i) q 3 [] .none .none .none (.str "cpy313.token" 541) none (.ref c) .none 0
section
variable {w : World} {A : Around} {E : Value → Shared → Prop} {s : Shared} {k : Int} {t : Tok} {Q : Value → Shared → Prop}
theorem call_iseof (B : Bs w s.heap) (hA : Ok A 900 1000) (h : ∀ s', Grow s s' → Q (.bool (k == 0)) s') : wpAny (Md w) A (call (.ref 230) [.int k t]) Q E s := by
 refine enter (fd := fdT 61 "ISEOF" 229) (o := o230p6 w.params) (binds := [("x", .int k t)]) B hA (by decide) fun h₁ tk E' V hk hown => ?_
 refine wpAny_execs_cons (wpAny_Return_some (wpAny_Compare1 (V.nm (v := .int k t) (glob (v := .int 0 543) (B.grow hk) (PyProof.Rows.eq_int ?_)) (by rfl))))
 exact h _ (Grow.of hk)
theorem call_isterm (B : Bs w s.heap) (hA : Ok A 900 1000) (h : ∀ s', Grow s s' → Q (.bool (decide (k < 256))) s') : wpAny (Md w) A (call (.ref 216) [.int k t]) Q E s := by
 refine enter (fd := fdT 59 "ISTERMINAL" 215) (o := o216p6 w.params) (binds := [("x", .int k t)]) B hA (by decide) fun h₁ tk E' V hk hown => ?_
 refine wpAny_execs_cons (wpAny_Return_some (wpAny_Compare1 (V.nm (v := .int k t) (glob (v := .int 256 641) (B.grow hk) (PyProof.Rows.lt_int ?_)) (by rfl))))
 exact h _ (Grow.of hk)
theorem call_isnon (B : Bs w s.heap) (hA : Ok A 900 1000) (h : ∀ s', Grow s s' → Q (.bool (decide (k ≥ 256))) s') : wpAny (Md w) A (call (.ref 223) [.int k t]) Q E s := by
 refine enter (fd := fdT 60 "ISNONTERMINAL" 222) (o := o223p6 w.params) (binds := [("x", .int k t)]) B hA (by decide) fun h₁ tk E' V hk hown => ?_
 refine wpAny_execs_cons (wpAny_Return_some (wpAny_Compare1 (V.nm (v := .int k t) (glob (v := .int 256 641) (B.grow hk) (PyProof.Rows.ge_int ?_)) (by rfl))))
 exact h _ (Grow.of hk)
end
end
section
theorem Heap.SameBut.but {a : Addr} {h h' : Heap} (x : Heap.SameBut a h h') : But [a] h h' := fun b o hb e => (x.2 b (by simpa using hb)).trans e
theorem nodeKeys {w : World} {A : Around} (hh : A.handled = none) (it a : Nat) (hne : a ≠ it) {c : Value} {dd : Option Addr} {sl : Array (Option Value)} (kvs : KVs) (ep : Nat) :
  Walks pw w A it [it, a] [it] kvs.length (fun i v => ∃ k u t, kvs[i]? = some (k, u) ∧ v = .str k t) (fun i h => h.get? it = some (keyItO a i kvs.length ep) ∧ DEp w h a c dd sl kvs ep) where
 sub := fun b hb => by simp at hb; simp [hb]
 frame := fun _ _ _ st hk => ⟨hk it (by simp) _ st.1, st.2.at fun o e => hk a (by simp) o e⟩
 item := fun i s Q E hi st hQ => by
  obtain ⟨k, v⟩ : ∃ kv, kvs[i]? = some kv := ⟨_, List.getElem?_eq_getElem hi⟩
  obtain ⟨k, u⟩ := k
  refine key_next st.1 st.2 v fun t h' e S => hQ _ h' s.toks ⟨k, u, t, v, rfl⟩ ⟨e, st.2.at fun o eo => (S.2 _ hne).trans eo⟩ (Heap.SameBut.but S)
 done := fun s Q E st hQ => key_end hh st.1 st.2 (by simp) fun h' hx _ => hQ h' s.toks fun b o hb e => hx b o (by simpa using hb) e
 self := fun i s Q E st hQ => wpAny_pyIter_keyiter ⟨_, st.1, rfl, rfl⟩ hQ
end
section
theorem Tab.nd3 {h : Heap} {o : Obj} (x : Tab h) (e : h.get? 100 = some o) : ¬ Nd3 o := by
 obtain ⟨ps, hP, hps⟩ := x
 rw [hP] at e
 cases e
 rintro (⟨_, h⟩ | ⟨_, h⟩ | ⟨_, h, q, t, h2⟩)
 ·cases h
 ·cases h
 ·cases h
  rcases hps with rfl | ⟨c', rfl, _⟩
  ·cases h2
  ·cases h2
noncomputable def St.close (S : St) (p : Path) : St := { S with shut := p :: S.shut }
theorem WF.close {S : St} (W : WF S) {p : Path} (hp : has S.below p = true) : WF (S.close p) :=
 ⟨W.nd, W.root, W.kids, W.up, W.ends, W.endnd, fun q hq => by rcases List.mem_cons.mp hq with rfl | hq; exact hp; exact W.shutk q hq⟩
section
variable {w : World} {A : Around} {E : Value → Shared → Prop} {s : Shared} {S : St} {α δ : Path → Nat} {p : Path} {Q : Value → Shared → Prop}
theorem tree_freeze (hA : Ok A 880 900) (T : Tree w s.heap S α δ) (hp : has S.below p = true)
  (h : ∀ h' tk, Tree w h' (S.close p) α δ → (∀ b o, b ≠ δ p → b ≠ 100 → s.heap.get? b = some o → h'.get? b = some o) → Q .none { s with heap := h', toks := tk }) : wpAny (Md w) A (call (.ref 105) [.ref (α p)]) Q E s := by
 obtain ⟨bs, hb⟩ := has_iff.mp hp
 obtain ⟨kvs, hn, he⟩ := T.node p bs hb
 have hd : openDict s.heap (δ p) ∨ ShutAt w s.heap (δ p) (α p) := by
  have := T.door p hp
  split at this
  ·exact .inr this
  ·exact .inl this
 refine call_freeze T.bs hA hn hd T.tab fun h' tk hS hT hN k => h h' tk ⟨?_, hT, ?_, ?_, T.inj, T.injd, T.lod⟩ k
 ·exact T.bs.mono (fun b o hb hb' e => k b o (Nat.ne_of_lt (Nat.lt_of_lt_of_le hb (T.lod p hp))) hb' e) (let ⟨_, hP, _⟩ := hT; ⟨_, hP⟩)
 ·intro q qs hq
  have hq' := has_iff.mpr ⟨qs, hq⟩
  obtain ⟨kvs', hn', he'⟩ := T.node q qs hq
  exact ⟨kvs', ⟨hn'.lo, hn'.at_.at fun o e => k _ _ (T.ad hq' hp) (Nat.ne_of_gt (Nat.lt_of_lt_of_le (by decide) hn'.lo)) e⟩, he'.mono fun g hg v hv => hv⟩
 ·intro q hq
  have hq : has S.below q = true := hq
  show if q ∈ p :: S.shut then _ else _
  obtain ⟨_, _, eD⟩ := T.objD hp
  have kN : ∀ b o, s.heap.get? b = some o → Nd3 o → h'.get? b = some o := fun b o e h3 => k b o (fun x => by rw [x, eD] at e; cases e; exact h3.nd _ _ rfl) (fun x => by subst x; exact T.tab.nd3 e h3) e
  by_cases hqp : q = p
  ·subst hqp
   rw [if_pos (by simp)]
   exact hS
  ·have hne : δ q ≠ δ p := fun e => hqp (T.injd q p hq hp e)
   have h100 : δ q ≠ 100 := Nat.ne_of_gt (Nat.lt_of_lt_of_le (by decide) (T.lod q hq))
   have := T.door q hq
   by_cases hs : q ∈ S.shut
   ·rw [if_pos hs] at this
    rw [if_pos (List.mem_cons_of_mem _ hs)]
    exact this.need (fun o e => k _ _ hne h100 e) kN
   ·rw [if_neg hs] at this
    rw [if_neg (by simp [hqp, hs])]
    obtain ⟨ep, e⟩ := this
    exact ⟨ep, k _ _ hne h100 e⟩
end
end
section
theorem prefix_has {S : St} (W : WF S) : ∀ (r p : Path), has S.below (p ++ r) = true → has S.below p = true
 | [], p, h => by simpa using h
 | c :: r, p, h => by
  have h1 := prefix_has W r (p ++ [c]) (by simpa using h)
  obtain ⟨bs, hb, _⟩ := W.up p c h1
  exact has_iff.mpr ⟨bs, hb⟩
theorem below_cases {S : St} (W : WF S) {p q : Path} (hq : has S.below q = true) (h : p <+: q) : q = p ∨ ∃ c, has S.below (p ++ [c]) = true ∧ p ++ [c] <+: q := by
 obtain ⟨r, rfl⟩ := h
 cases r with
 | nil => exact .inl (by simp)
 | cons c r =>
  refine .inr ⟨c, prefix_has W r (p ++ [c]) (by simpa using hq), ⟨r, by simp⟩⟩
structure Shutting (w : World) (h₀ : Heap) (S : St) (α δ : Path → Nat) (h : Heap) (S' : St) : Prop where
 b : S'.below = S.below
 e : S'.ends = S.ends
 m : ∀ q, q ∈ S.shut → q ∈ S'.shut
 W : WF S'
 T : Tree w h S' α δ
 k : ∀ b o, b ≠ 100 → (∀ q, has S.below q = true → b ≠ δ q) → h₀.get? b = some o → h.get? b = some o
theorem Shutting.keep {w : World} {h₀ h h' : Heap} {S S' : St} {α δ : Path → Nat} {b : Nat} {o : Obj} (C : Shutting w h₀ S α δ h S') (hb : 303 ≤ b) (ho : h.get? b = some o) (hno : ¬ Nd3 o) (ha : Away S α δ b) (hf : h₀.get? b = none)
  (k : ∀ y oy, y ≠ b → h.get? y = some oy → h'.get? y = some oy) : Shutting w h₀ S α δ h' S' where
 b := C.b
 e := C.e
 m := C.m
 W := C.W
 T := C.T.keep fun y oy e hn => k y oy (by
  rintro rfl
  rcases hn with hn | ⟨p, hp, hn | hn⟩ | hn
  ·omega
  ·exact (ha p (C.b ▸ hp)).1 hn
  ·exact (ha p (C.b ▸ hp)).2 hn
  ·rw [ho] at e; cases e; exact hno hn) e
 k := fun y oy hy ay e => k y oy (fun hyb => by rw [hyb, hf] at e; cases e) (C.k y oy hy ay e)
theorem Shutting.trans {w : World} {h₀ h h' : Heap} {S S' S'' : St} {α δ : Path → Nat} (x : Shutting w h₀ S α δ h S') (y : Shutting w h S' α δ h' S'') : Shutting w h₀ S α δ h' S'' where
 b := y.b.trans x.b
 e := y.e.trans x.e
 m := fun q hq => y.m q (x.m q hq)
 W := y.W
 T := y.T
 k := fun b o hb ha e => y.k b o hb (fun q hq => ha q (x.b ▸ hq)) (x.k b o hb ha e)
theorem Tree.shadow {w : World} {h : Heap} {S : St} {α δ : Path → Nat} (T : Tree w h S α δ) {p : Path} (hp : has S.below p = true) {name : Str} (hne : ("_frozen" : Str) ≠ name) : ∃ od, h.get? (δ p) = some od ∧ lookIn name od = some none := by
 have := T.door p hp
 split at this
 ·obtain ⟨F, ep, t, e, _⟩ := this
  refine ⟨_, e, ?_⟩
  have hne' : ¬ (Str.ofString "_frozen" = name) := hne
  unfold lookIn
  simp [Value.isStr, DictEntry.refKey, hne']
 ·obtain ⟨ep, e⟩ := this
  exact ⟨_, e, rfl⟩
theorem keyIt_nd3 {a i n ep : Nat} : ¬ Nd3 (keyItO a i n ep) := by
 rintro (⟨_, h⟩ | ⟨_, h⟩ | ⟨_, h, _, _, h2⟩)
 ·cases h
 ·cases h
 ·cases h; cases h2
section
variable {w : World} {α δ : Path → Nat} {t : Tok}
theorem s_shutname : (("" : Str)) = toS [] := by decide
noncomputable def eSh (L : Nat) : Env := callEnvC (fdL 65 "_law_shut" 250) L 251
theorem own_sh {L b : Nat} (h : OwnA (eSh L) b) : b = L := by
 rcases h with rfl | ⟨y, e⟩
 ·rfl
 ·cases e
def ShutOk (w : World) (α δ : Path → Nat) (f : Nat) : Prop := ∀ {A : Around} {E : Value → Shared → Prop} {s : Shared} {S : St} {p : Path} {Q : Value → Shared → Prop}, Ok A (870 - f) (870 - 3 * f) → Tree w s.heap S α δ → WF S → has S.below p = true →
 (∀ q, has S.below q = true → p <+: q → q.length ≤ p.length + f) →
 (∀ h' tk S', Shutting w s.heap S α δ h' S' → (∀ q, has S.below q = true → p <+: q → q ∈ S'.shut) → Q .none { s with heap := h', toks := tk }) → wpAny (Md w) A (call (.ref 251) [.ref (α p)]) Q E s
inductive ShI (w : World) (s₀ : Shared) (S : St) (α δ : Path → Nat) (p : Path) (bs : List Path) (L i : Nat) (s' : Shared) : Prop
 | mk (h : Heap) (tk : Tok) (S' : St) (m : Str → Option Value) (e : s' = { s₀ with heap := h, toks := tk }) (C : Shutting w s₀.heap S α δ h S') (V : Vars h (eSh L) m) (mn : m "node" = some (.ref (α p))) (hj : ∀ j c, j < i → bs[j]? = some [c] → ∀ q, has S.below q = true → p ++ [c] <+: q → q ∈ S'.shut) : ShI w s₀ S α δ p bs L i s'
noncomputable def shBody : List Stmt := match topS 65 with
 | .FunctionDef _ _ (.For _ _ b _ _ :: _) _ _ _ _ _ _ _ => b
 | _ => []
section
variable {A : Around} {E : Value → Shared → Prop} {s s₀ : Shared} {S : St} {p : Path} {bs : List Path} {kvs : KVs} {L I ep i f : Nat}
theorem sh_step {v : Value} {G : Flow → Shared → Prop} {tg : Expr} {p1 : Pos} (tge : tg = .Name "key" p1) (ih : ∀ k, k < f → k ≤ 100 → ShutOk w α δ k) (hf : f ≤ 100) (hA : Ok A (871 - f) (873 - 3 * f)) (T : Tree w s₀.heap S α δ) (W : WF S) (hp : has S.below p = true) (hl : ∀ q, has S.below q = true → p <+: q → q.length ≤ p.length + f) (hb : (p, bs) ∈ S.below) (he : Ents S α p bs kvs)
  (hLI : L < I) (hL : s₀.heap.objs.size ≤ L) (hv : ∃ g u t, kvs[i]? = some (g, u) ∧ v = .str g t) (J : ShI w s₀ S α δ p bs L i s) (hSt : s.heap.get? I = some (keyItO (α p) (i + 1) kvs.length ep) ∧ DEp w s.heap (α p) (.ref 108) (some (δ p)) #[some (.ref 237)] kvs ep)
  (g : ∀ s', ShI w s₀ S α δ p bs L (i + 1) s' → (s'.heap.get? I = some (keyItO (α p) (i + 1) kvs.length ep) ∧ DEp w s'.heap (α p) (.ref 108) (some (δ p)) #[some (.ref 237)] kvs ep) → G .next s') :
  wpAny (Md w) A (letOwnedTupleGo tg (.ref I) v) (fun _ s₁ => wpAny (Md w) A (assign tg (eSh L) v) (fun _ s₂ => wpAny (Md w) A (execs shBody (eSh L)) G E s₂) E s₁) E s := by
 subst tge
 obtain ⟨x, u, t, hgi, rfl⟩ := hv
 obtain ⟨h₂, tk₂, S', m, rfl, C, V₂, hm, hj⟩ := J
 have fL : s₀.heap.get? L = none := by
  cases e : s₀.heap.get? L with
  | none => rfl
  | some o => exact absurd (Heap.lt_size e) (Nat.not_lt.mpr hL)
 have fI : s₀.heap.get? I = none := by
  cases e : s₀.heap.get? I with
  | none => rfl
  | some o => exact absurd (Heap.lt_size e) (Nat.not_lt.mpr (Nat.le_trans hL (Nat.le_of_lt hLI)))
 have awL : Away S α δ L := T.freshAway fL
 have awI : Away S α δ I := T.freshAway fI
 have L3 : 303 ≤ L := Nat.le_trans T.bs.n hL
 have I3 : 303 ≤ I := Nat.le_trans L3 (Nat.le_of_lt hLI)
 refine wpAny_of_eq (a := ()) (by rfl) ?_
 refine wpAny_assign_Name (V₂.st (x := "key") fun h₃ tk₃ b V₃ hb₃ S₃ => ?_)
 have := own_sh hb₃
 subst this
 obtain ⟨ml, ⟨oL, esL, epL, hoL, hdL, _⟩, _⟩ := V₂.ns
 have C₃ : Shutting w s₀.heap S α δ h₃ S' := C.keep L3 hoL (fun h3 => h3.nd _ _ hdL) awL fL fun y oy hy e => (S₃.2 y hy).trans e
 have hSt₃ : h₃.get? I = some (keyItO (α p) (i + 1) kvs.length ep) ∧ DEp w h₃ (α p) (.ref 108) (some (δ p)) #[some (.ref 237)] kvs ep := ⟨(S₃.2 _ (Nat.ne_of_gt hLI)).trans hSt.1, hSt.2.at fun o e => (S₃.2 _ (fun x => (awL p hp).1 x.symm)).trans e⟩
 have hkey : ∃ g', bs[i]? = some g' ∧ x = toS g' := by
  have e1 : (kvs.map (·.1))[i]? = some x := by rw [List.getElem?_map, hgi]; rfl
  rw [he.keys, List.getElem?_map] at e1
  obtain ⟨g', e2, e3⟩ := Option.map_eq_some_iff.mp e1
  exact ⟨g', e2, e3.symm⟩
 obtain ⟨g', hg', rfl⟩ := hkey
 have hm₃ : set m "key" (.str (toS g') t) "node" = some (.ref (α p)) := (set_ne (by decide)).trans hm
 have hk₃ : set m "key" (.str (toS g') t) "key" = some (.str (toS g') t) := set_self
 generalize set m "key" (.str (toS g') t) = m₃ at *
 clear hgi hSt hoL hdL S₃ V₂ C hm fL fI
 refine wpAny_execs_cons (wpAny_If (wpAny_isTrue_Compare1 (V₃.nm (v := .str (toS g') t) (Constant_str (PyProof.Rows.ne_str (wpAny_truthy_bool ?_))) hk₃)))
 rcases (W.kids p bs hb).2 g' (List.mem_of_getElem? hg') with ⟨rfl, _⟩ | ⟨c, rfl, hc⟩
 ·rw [if_neg (by decide)]
  refine wpAny_execs_nil (wpAny_execs_nil (g _ ⟨h₃, _, S', _, rfl, C₃, V₃, hm₃, fun j c hji hjb => ?_⟩ hSt₃))
  rcases Nat.lt_or_ge j i with hlt | hge
  ·exact hj j c hlt hjb
  ·have : j = i := by omega
   subst this
   rw [hg'] at hjb; cases hjb
 ·have hne0 : toS [c] ≠ Str.ofString "" := fun e => by
   have h1 : (toS [c]).cps.size = (Str.ofString "").cps.size := congrArg (fun x : Str => x.cps.size) e
   exact absurd h1 (show (1 : Nat) ≠ 0 by decide)
  rw [if_pos (bne_iff_ne.mpr hne0)]
  have hp₃ : has S'.below p = true := C₃.b ▸ hp
  have hc₃ : has S'.below (p ++ [c]) = true := C₃.b ▸ hc
  obtain ⟨kvs₃, hn₃, _⟩ := C₃.T.node p bs (C₃.b ▸ hb)
  have hfpos : 1 ≤ f := by
   have := hl (p ++ [c]) hc ⟨[c], rfl⟩
   simp at this
   omega
  refine wpAny_execs_cons (wpAny_Expr (ev_Call (glob (v := .ref 251) C₃.T.bs (cw_callable (ev_Sub (V₃.nm (v := .ref (α p)) (V₃.nm (v := .str (toS [c]) t) (gip_node C₃.T.bs hn₃ ⟨rfl, step_hit C₃.T C₃.W hp₃ hc₃ ⟨fnCallable C₃.T.bs (o251p6 w.params) _, ?_⟩⟩) hk₃) hm₃))))))
  refine ih (f - 1) (by omega) (by omega) (hA.le (by omega) (by omega)) (S := S') C₃.T C₃.W hc₃ (fun q hq hpq => ?_) fun h₄ tk₄ S₄ C₄ hs₄ => ?_
  ·have := hl q (C₃.b ▸ hq) (List.IsPrefix.trans ⟨[c], rfl⟩ hpq)
   simp
   omega
  ·have kk : ∀ b o, b ≠ 100 → Away S α δ b → h₃.get? b = some o → h₄.get? b = some o := fun b o hb ha e => C₄.k b o hb (fun q hq => (ha q (C₃.b ▸ hq)).2) e
   have n100 : ∀ {z : Nat}, 303 ≤ z → z ≠ 100 := fun hz => Nat.ne_of_gt (Nat.lt_of_lt_of_le (by decide) hz)
   refine wpAny_execs_nil (wpAny_execs_nil (g _ ⟨h₄, tk₄, S₄, _, rfl, C₃.trans C₄, V₃.keep fun b o hb e => by have := own_sh hb; subst this; exact kk _ o (n100 L3) awL e, hm₃, fun j c' hji hjb q hq hpq => ?_⟩ ⟨kk _ _ (n100 I3) awI hSt₃.1, hSt₃.2.at fun o e => C₄.k _ o (n100 hn₃.lo) (fun q hq => T.ad hp (C₃.b ▸ hq)) e⟩))
   rcases Nat.lt_or_ge j i with hlt | hge
   ·exact C₄.m q (hj j c' hlt hjb q hq hpq)
   ·have : j = i := by omega
    subst this
    rw [hg'] at hjb; cases hjb
    exact hs₄ q (C₃.b ▸ hq) hpq
noncomputable def shEnd : List Stmt := match topS 65 with
 | .FunctionDef _ _ b _ _ _ _ _ _ _ => b.drop 1
 | _ => []
theorem sh_end {Q : Flow → Shared → Prop} (hA : Ok A 871 873) (T : Tree w s₀.heap S α δ) (W : WF S) (hp : has S.below p = true) (hb : (p, bs) ∈ S.below) (he : Ents S α p bs kvs) (J : ShI w s₀ S α δ p bs L kvs.length s)
  (h : ∀ h' tk S', Shutting w s₀.heap S α δ h' S' → (∀ q, has S.below q = true → p <+: q → q ∈ S'.shut) → Q .next { s₀ with heap := h', toks := tk }) : wpAny (Md w) A (execs shEnd (eSh L)) Q E s := by
 obtain ⟨h₂, tk₂, S', m, rfl, C, V₂, hm, hj⟩ := J
 obtain ⟨kvs₂, hn₂, he₂⟩ := C.T.node p bs (C.b ▸ hb)
 have hp₂ : has S'.below p = true := C.b ▸ hp
 obtain ⟨od, hD, hlook⟩ := C.T.shadow hp₂ (name := "freeze") (by decide)
 refine wpAny_execs_cons (wpAny_Expr (ev_Method (V₂.nm (v := .ref (α p)) (fun pl => ?_) hm)))
 refine getm_meth (f := .ref 105) (tf := .type "function") C.T.bs hn₂ hD (by kernel_rfl) (by kernel_rfl) (by decide) hlook ?_
 refine cw_callable ⟨fnCallable C.T.bs (o105p1 w.params) _, ?_⟩
 refine tree_freeze (hA.le (by decide) (by decide)) C.T hp₂ fun h₃ tk₃ T₃ k₃ => ?_
 refine wpAny_execs_nil (h h₃ tk₃ (S'.close p) ⟨C.b, C.e, fun q hq => List.mem_cons_of_mem _ (C.m q hq), C.W.close hp₂, T₃, fun b o hb ha e => k₃ b o (ha p hp) hb (C.k b o hb ha e)⟩ fun q hq hpq => ?_)
 rcases below_cases W hq hpq with rfl | ⟨c, hc, hcq⟩
 ·exact List.mem_cons_self
 ·obtain ⟨bs', hb', hcb⟩ := W.up p c hc
  have : bs' = bs := key_uniq W.nd hb' hb
  subst this
  obtain ⟨j, hjb⟩ := List.getElem?_of_mem hcb
  refine List.mem_cons_of_mem _ (hj j c ?_ hjb q hq hcq)
  rw [he.len]
  exact (List.getElem?_eq_some_iff.mp hjb).1
end
theorem shut_all (f : Nat) : f ≤ 100 → ShutOk w α δ f := by
 induction f using Nat.strongRecOn with
 | ind f ih =>
 intro hf A E s S p Q hA T W hp hl h
 refine enter (fd := fdL 65 "_law_shut" 250) (o := o251p6 w.params) (binds := [("node", .ref (α p))]) T.bs hA (by omega) fun h₁ tk E' V hk hown => ?_
 have T₁ := T.grow hk
 obtain ⟨bs, hb⟩ := has_iff.mp hp
 obtain ⟨kvs, hn, he⟩ := T₁.node p bs hb
 obtain ⟨ep, hep⟩ := hn.at_.dep
 have hA' : Ok (A.deeper (eSh s.heap.objs.size)) (871 - f) (873 - 3 * f) := (hA.deeper (eSh s.heap.objs.size)).le (by omega) (by omega)
 rw [show callEnvC (fdL 65 "_law_shut" 250) s.heap.objs.size 251 = eSh s.heap.objs.size from rfl] at V ⊢
 generalize A.deeper (eSh s.heap.objs.size) = A' at hA' ⊢
 refine wpAny_execs_cons (wpAny_For (V.nm (v := .ref (α p)) ?_ (by rfl)))
 refine node_iter (s := { s with heap := h₁, toks := tk }) T₁.bs hn hep ?_
 have hLI : s.heap.objs.size < h₁.objs.size := let ⟨_, ho⟩ := V.own (.inl rfl); Heap.lt_size ho
 have fI : s.heap.get? h₁.objs.size = none := by
  cases e : s.heap.get? h₁.objs.size with
  | none => rfl
  | some o => exact absurd (Heap.lt_size e) (Nat.not_lt.mpr (Nat.le_of_lt hLI))
 have awI : Away S α δ h₁.objs.size := T.freshAway fI
 have k₀ : ∀ b o, h₁.get? b = some o → (h₁.push (keyItO (α p) 0 kvs.length ep)).get? b = some o := fun b o e => Heap.get?_push_of_some _ e
 have k₁ : ∀ b o, s.heap.get? b = some o → (h₁.push (keyItO (α p) 0 kvs.length ep)).get? b = some o := fun b o e => k₀ b o (hk b o e)
 refine for_walksP (nodeKeys (c := .ref 108) (dd := some (δ p)) (sl := #[some (.ref 237)]) hA'.h h₁.objs.size (α p) (fun e => (awI p hp).1 e.symm) kvs ep)
  (ShI w s S α δ p bs s.heap.objs.size) ⟨_, _, S, _, rfl, ⟨rfl, rfl, fun _ h => h, W, T.grow k₁, fun b o _ _ e => k₁ b o e⟩, V.grow k₀, by rfl, fun j c hj => absurd hj (Nat.not_lt_zero j)⟩ ⟨Heap.get?_push_size _ rfl, hep.at fun o e => k₀ _ o e⟩ ?_
  (fun i v s' E'' G hi hv J St g _ _ _ => sh_step rfl ih hf hA' T W hp hl hb he hLI (Nat.le_refl _) hv J St g) fun s' J => sh_end (hA'.le (by omega) (by omega)) T W hp hb he J h
 rintro i s' h' tk' ⟨h₂, tk₂, S', m, rfl, C, V₂, hm, hj⟩ hSt hB
 have kB : ∀ y oy, y ≠ h₁.objs.size → h₂.get? y = some oy → h'.get? y = some oy := fun y oy hy e => hB y oy (by simpa using hy) e
 exact ⟨h', tk', S', m, rfl, C.keep (Nat.le_trans T.bs.n (Nat.le_of_lt hLI)) hSt.1 keyIt_nd3 awI fI kB, V₂.keep fun b o hb e => kB b o (by rw [own_sh hb]; exact Nat.ne_of_lt hLI) e, hm, hj⟩
theorem call_shut (f : Nat) {A : Around} {E : Value → Shared → Prop} {s : Shared} {S : St} {p : Path} {Q : Value → Shared → Prop} (hf : f ≤ 100) (hA : Ok A (870 - f) (870 - 3 * f)) (T : Tree w s.heap S α δ) (W : WF S) (hp : has S.below p = true)
  (hl : ∀ q, has S.below q = true → p <+: q → q.length ≤ p.length + f)
  (h : ∀ h' tk S', Shutting w s.heap S α δ h' S' → (∀ q, has S.below q = true → p <+: q → q ∈ S'.shut) → Q .none { s with heap := h', toks := tk }) : wpAny (Md w) A (call (.ref 251) [.ref (α p)]) Q E s := shut_all f hf hA T W hp hl h
end
end
section
theorem Vars.comp {h h₁ : Heap} {env : Env} {m m₀ : Str → Option Value} {cl : List (Str × Addr)} {C : Addr} {scope : Scope} (V : Vars h env m) (hcl : ∀ x c, cl.lookup x = some c → env.cells.lookup x = some c) (hnol : ∀ x c, cl.lookup x = some c → (relabel scope env).names.lookup x ≠ some .local)
  (hC : h.get? C = none) (hk : ∀ b o, h.get? b = some o → h₁.get? b = some o) (hn : h₁.Ns C m₀) (hkind : scope.kind = .function) : Vars h₁ (compEnvC scope cl C env) (fun x => if (cl.lookup x).isSome then m x else m₀ x) where
 kind := hkind
 ns := ⟨m₀, hn, fun x hx => by
  cases e : cl.lookup x with
  | none => rfl
  | some c => exact absurd hx (hnol x c e)⟩
 cell := fun x c e => by
  have e : cl.lookup x = some c := e
  rw [e]
  exact (V.cell x c (hcl x c e)).keeps hk
 apart := fun x y c ex ey => V.apart x y c (hcl x c ex) (hcl y c ey)
 off := fun x c e => by
  intro ec
  obtain ⟨o, ho, _⟩ := V.cell x c (hcl x c e)
  rw [show c = C from ec, hC] at ho
  cases ho
 nol := fun x c e => hnol x c e
section
variable {w : World} {A : Around} {E : Value → Shared → Prop} {s : Shared} {env : Env}
theorem compLoop_any {R : Result → Shared → Prop} {s : Shared} {elt target iter : Expr} {ifs : List Expr} {scope : Scope} {pos : Pos} {it acc : Value} {env : Env} (I : Nat → Shared → Prop)
  (turn : ∀ n s E', I n s → wpAny (Md w) A (pyNext it) (fun r s₁ => match r with
   | none => R (.ok .next) s₁
   | some v => wpAny (Md w) A (letOwnedTupleGo target it v) (fun _ s₁' => wpAny (Md w) A (assign target env v) (fun _ s₂ =>
     wpAny (Md w) A (forIn ifs true fun c r => if r = true then do let ok ← isTrue c env (eval c env); pure (ForInStep.yield ok) else pure (ForInStep.yield r)) (fun ok s₃ =>
      if ok = true then wpAny (Md w) A (eval elt env) (fun x s₄ =>
       wpAny (Md w) A (call (.builtin "list.append") [acc, x]) (fun _ s₅ => ∃ m, m < n ∧ I m s₅) E' s₄) E' s₃
      else ∃ m, m < n ∧ I m s₃) E' s₂) E' s₁') E' s₁) E' s)
  (n : Nat) (h : I n s) : codeAny (Md w) A (.compLoop (.ListComp elt [⟨target, iter, ifs, 0⟩] scope pos) 0 it acc env) R s := by
 refine codeAny_loop rfl I (fun n s hI => ?_) n h
 show wpAny _ A ((compTurn (.ListComp elt [⟨target, iter, ifs, 0⟩] scope pos) 0 it acc env).onRaise (fun x => do noteFrame x env; theTreesLotGoes x)) _ _ s
 refine wpAny_noted ?_
 rw [compTurn_list]
 refine wpAny_bind (wpAny_standAt (wpAny_bind (wpAny_mono (turn n s _ hI) (fun r s₁ h₁ => ?_) fun _ _ h' => h')))
 cases r with
 | none => exact wpAny_pure h₁
 | some v =>
  refine wpAny_bind (wpAny_mono h₁ (fun _ s₁' h₁' => ?_) fun _ _ h' => h')
  refine wpAny_bind (wpAny_mono h₁' (fun _ s₂ h₂ => wpAny_bind (wpAny_mono h₂ (fun ok s₃ h₃ => ?_) fun _ _ h' => h')) fun _ _ h' => h')
  cases ok with
  | false => exact wpAny_pure ⟨rfl, h₃⟩
  | true =>
   exact wpAny_bind (wpAny_bind (wpAny_mono h₃ (fun x s₄ h₄ => wpAny_bind (wpAny_mono h₄ (fun _ s₅ h₅ => wpAny_pure (wpAny_pure ⟨rfl, h₅⟩)) fun _ _ h' => h')) fun _ _ h' => h'))
end
end
section
mutual
inductive Is (N : Addr → Prop) (h : Heap) : Value → PyData → Prop
 | none : Is N h .none .none
 | bool (b) : Is N h (.bool b) (.bool b)
 | int (i t) : Is N h (.int i t) (.int i)
 | str (x t) : Is N h (.str x t) (.str x)
 | list {a o vs n xs} : N a → h.get? a = some o → o.cls = .type "list" → o.data = .seq vs n → IsAll N h vs.toList xs → Is N h (.ref a) (.list xs)
 | tuple {a o vs n xs} : N a → h.get? a = some o → o.cls = .type "tuple" → o.data = .seq vs n → IsAll N h vs.toList xs → Is N h (.ref a) (.tuple xs)
inductive IsAll (N : Addr → Prop) (h : Heap) : List Value → List PyData → Prop
 | nil : IsAll N h [] []
 | cons {v vs d ds} : Is N h v d → IsAll N h vs ds → IsAll N h (v :: vs) (d :: ds)
end
def SeqKept (N : Addr → Prop) (h h' : Heap) : Prop := ∀ b o, N b → h.get? b = some o → (∃ vs n, o.data = .seq vs n) → h'.get? b = some o
mutual
theorem Is.keep {N N' : Addr → Prop} {h h' : Heap} (k : SeqKept N h h') (m : ∀ b, N b → N' b) : ∀ {v : Value} {d : PyData}, Is N h v d → Is N' h' v d
 | _, _, .none => .none
 | _, _, .bool b => .bool b
 | _, _, .int i t => .int i t
 | _, _, .str x t => .str x t
 | _, _, .list n e c dd r => .list (m _ n) (k _ _ n e ⟨_, _, dd⟩) c dd (IsAll.keep k m r)
 | _, _, .tuple n e c dd r => .tuple (m _ n) (k _ _ n e ⟨_, _, dd⟩) c dd (IsAll.keep k m r)
theorem IsAll.keep {N N' : Addr → Prop} {h h' : Heap} (k : SeqKept N h h') (m : ∀ b, N b → N' b) : ∀ {vs : List Value} {ds : List PyData}, IsAll N h vs ds → IsAll N' h' vs ds
 | _, _, .nil => .nil
 | _, _, .cons r q => .cons (Is.keep k m r) (IsAll.keep k m q)
end
mutual
theorem Is.reads {N : Addr → Prop} {h : Heap} : ∀ {v : Value} {d : PyData}, Is N h v d → ∃ as, Reads h v d as
 | _, _, .none => ⟨_, .none⟩
 | _, _, .bool b => ⟨_, .bool b⟩
 | _, _, .int i t => ⟨_, .int i t⟩
 | _, _, .str x t => ⟨_, .str x t⟩
 | _, _, .list _ e c dd r => let ⟨_, q⟩ := IsAll.reads r; ⟨_, .list e c dd q⟩
 | _, _, .tuple _ e c dd r => let ⟨_, q⟩ := IsAll.reads r; ⟨_, .tuple e c dd q⟩
theorem IsAll.reads {N : Addr → Prop} {h : Heap} : ∀ {vs : List Value} {ds : List PyData}, IsAll N h vs ds → ∃ as, ReadsAll h vs ds as
 | _, _, .nil => ⟨_, .nil⟩
 | _, _, .cons r q => let ⟨_, a⟩ := Is.reads r; let ⟨_, b⟩ := IsAll.reads q; ⟨_, .cons a b⟩
end
theorem IsAll.snoc {N : Addr → Prop} {h : Heap} {v : Value} {d : PyData} : ∀ {vs : List Value} {ds : List PyData}, IsAll N h vs ds → Is N h v d → IsAll N h (vs ++ [v]) (ds ++ [d])
 | _, _, .nil, r => .cons r .nil
 | _, _, .cons a b, r => .cons a (b.snoc r)
mutual
theorem Is.withinS {N N' : Addr → Prop} {h : Heap} (k : ∀ b o, N b → h.get? b = some o → (∃ vs n, o.data = .seq vs n) → N' b) : ∀ {v : Value} {d : PyData}, Is N h v d → Is N' h v d
 | _, _, .none => .none
 | _, _, .bool b => .bool b
 | _, _, .int i t => .int i t
 | _, _, .str x t => .str x t
 | _, _, .list n e c dd r => .list (k _ _ n e ⟨_, _, dd⟩) e c dd (IsAll.withinS k r)
 | _, _, .tuple n e c dd r => .tuple (k _ _ n e ⟨_, _, dd⟩) e c dd (IsAll.withinS k r)
theorem IsAll.withinS {N N' : Addr → Prop} {h : Heap} (k : ∀ b o, N b → h.get? b = some o → (∃ vs n, o.data = .seq vs n) → N' b) : ∀ {vs : List Value} {ds : List PyData}, IsAll N h vs ds → IsAll N' h vs ds
 | _, _, .nil => .nil
 | _, _, .cons r q => .cons (Is.withinS k r) (IsAll.withinS k q)
end
theorem Is.within {N N' : Addr → Prop} {h : Heap} (k : ∀ b o, N b → h.get? b = some o → N' b) {v : Value} {d : PyData} (x : Is N h v d) : Is N' h v d := x.withinS fun b o n e _ => k b o n e
theorem IsAll.within {N N' : Addr → Prop} {h : Heap} (k : ∀ b o, N b → h.get? b = some o → N' b) {vs : List Value} {ds : List PyData} (x : IsAll N h vs ds) : IsAll N' h vs ds := x.withinS fun b o n e _ => k b o n e
theorem SeqKept.grow {N : Addr → Prop} {h h' : Heap} (k : ∀ b o, h.get? b = some o → h'.get? b = some o) : SeqKept N h h' := fun b o _ e _ => k b o e
end
section
section
variable {M : Model} {A : Around} {E : Value → Shared → Prop} {s : Shared} {env : Env} {pos : Pos} {elts : List Expr}
noncomputable abbrev tupO (vs : List Value) : Obj := { cls := .type "tuple", data := .seq vs.toArray }
noncomputable abbrev lstO (vs : List Value) : Obj := { cls := .type "list", data := .seq vs.toArray }
theorem spliced_evsL : ∀ {es : List Expr} {Q : List Value → Shared → Prop} {s : Shared}, evs M A E env es Q s → wpAny M A (spliced (es.map fun e => (false, eval e env))) (fun vs s' => vs.length = es.length ∧ Q vs s') E s
 | [], Q, s, h => spliced_nil ⟨rfl, h⟩
 | e :: r, Q, s, h => spliced_cons (wpAny_mono h (fun v s₁ h₁ => wpAny_mono (spliced_evsL h₁) (fun vs s₂ h₂ => ⟨by rw [List.length_cons, h₂.1, List.length_cons], h₂.2⟩) fun _ _ e => e) fun _ _ e => e)
theorem seq_ok {vs : List Value} {n : Nat} (h : vs.length = n) (hl : Nat.ble n 1000 = true) : sizeOk (.seq vs.toArray) := by
 have h1 : n ≤ 1000 := Nat.le_of_ble_eq_true hl
 show vs.toArray.size ≤ sizeLine
 rw [List.size_toArray, h, sizeLine_eq]
 lia
theorem ev_Tuple {c : Nat} {Q : Value → Shared → Prop} (h : evs M A E env elts (fun vs s₁ => Q (.ref s₁.heap.objs.size) { s₁ with heap := s₁.heap.push (tupO vs) }) s) (hs : elts.all unstar = true := by rfl) (hl : Nat.ble elts.length 1000 = true := by rfl) :
  wpAny M A (eval (.Tuple elts c pos) env) Q E s := by
 rw [arm_eval_Tuple, backTo_plain hs]
 exact wpAny_bind (wpAny_standAt (wpAny_bind (wpAny_mono (spliced_evsL h) (fun vs s₁ h₁ => wpAny_newObj_type h₁.2 (seq_ok h₁.1 hl)) fun _ _ e => e)))
theorem ev_List {Q : Value → Shared → Prop} (h : evs M A E env elts (fun vs s₁ => Q (.ref s₁.heap.objs.size) { s₁ with heap := s₁.heap.push (lstO vs) }) s) (hs : elts.all unstar = true := by rfl) (hl : Nat.ble elts.length 1000 = true := by rfl) :
  wpAny M A (eval (.List elts pos) env) Q E s := by
 rw [arm_eval_List, backTo_plain hs]
 exact wpAny_bind (wpAny_standAt (wpAny_bind (wpAny_mono (spliced_evsL h) (fun vs s₁ h₁ => wpAny_newObj_type h₁.2 (seq_ok h₁.1 hl)) fun _ _ e => e)))
theorem ev_IfExp {test body orelse : Expr} {Q : Value → Shared → Prop} (h : wpAny M A (isTrue test env (eval test env)) (fun b s₁ => if b then wpAny M A (eval body env) Q E s₁ else wpAny M A (eval orelse env) Q E s₁) E s) : wpAny M A (eval (.IfExp test body orelse pos) env) Q E s := by
 rw [arm_eval_IfExp]
 refine wpAny_bind (wpAny_mono h (fun b s₁ h₁ => ?_) fun _ _ e => e)
 cases b <;> exact h₁
end
end
section
theorem Vars.stl {M : Model} {A : Around} {E : Value → Shared → Prop} {s : Shared} {env : Env} {m : Str → Option Value} {x : Str} {v : Value} {Q : Unit → Shared → Prop} (V : Vars s.heap env m)
  (h : ∀ h' tk, Vars h' env (set m x v) → Heap.SameBut env.locals s.heap h' → Q () { s with heap := h', toks := tk }) (hl : env.kindOf x = some .local := by rfl) : wpAny M A (storeName env x v) Q E s := by
 obtain ⟨ml, n, e⟩ := V.ns
 refine wpAny_storeName_local hl n (fun h' hn' hs' => h h' (s.toks + 1) ⟨V.kind, ⟨_, hn', fun y hy => ?_⟩, fun y d hy => ?_, V.apart, V.off, V.nol⟩ hs') (by rw [V.kind]; rfl)
 ·by_cases hyx : y = x
  ·subst hyx; simp [set]
  ·rw [set_ne hyx, if_neg hyx]; exact e y hy
 ·have : y ≠ x := fun hyx => V.nol y d hy (hyx ▸ hl)
  rw [set_ne this]
  exact (V.cell y d hy).sameBut hs' (V.off y d hy)
section
variable {w : World} {A : Around} {E : Value → Shared → Prop} {s : Shared} {env : Env}
theorem aio_nil {Q : Unit → Shared → Prop} {vs : List Value} (h : Q () s) : wpAny (Md w) A (assignInOrder [] vs) Q E s := by
 unfold assignInOrder; exact wpAny_pure h
theorem aio_cons {t : Value → Sem Unit} {ts : List (Value → Sem Unit)} {v : Value} {vs : List Value} {Q : Unit → Shared → Prop} (h : wpAny (Md w) A (t v) (fun _ s₁ => wpAny (Md w) A (assignInOrder ts vs) Q E s₁) E s) : wpAny (Md w) A (assignInOrder (t :: ts) (v :: vs)) Q E s := by
 rw [assignInOrder]
 exact wpAny_bind (wpAny_holding (wpAny_mono h (fun _ _ h' => h') fun _ _ e => e))
theorem asg2 {x y : Str} {p1 p2 pos : Pos} {k : Nat} {t : Addr} {o : Obj} {a b : Value} {n : Nat} {Q : Unit → Shared → Prop} (hh : A.handled = none) (ho : s.heap.get? t = some o) (hc : o.cls = .type "tuple") (hd : o.data = .seq #[a, b] n)
  (h : ∀ h', (∀ b o, s.heap.get? b = some o → h'.get? b = some o) → wpAny (Md w) A (storeName env x a) (fun _ s₁ => wpAny (Md w) A (storeName env y b) Q E s₁) E { s with heap := h' }) :
  wpAny (Md w) A (assign (.Tuple [.Name x p1, .Name y p2] k pos) env (.ref t)) Q E s := by
 refine wpAny_assign_Tuple (items := #[a, b]) hh ⟨o, ho, hc, n, hd⟩ rfl rfl fun h' he => ?_
 refine aio_cons (wpAny_assign_Name ?_)
 refine wpAny_mono (h h' fun b o e => he b o (Nat.ne_of_lt (Heap.lt_size e)) e) (fun _ s₁ h₁ => ?_) fun _ _ e => e
 exact aio_cons (wpAny_assign_Name (wpAny_mono h₁ (fun _ _ h' => aio_nil h') fun _ _ e => e))
end
end
section
section
variable {w : World} {A : Around} {E : Value → Shared → Prop} {s : Shared} {env : Env}
theorem gip_ty {M : Model} {o : Value} {T id : String} {Q : Bool → Shared → Prop} (ht : s.TypeIs o T) (hl : typeLookup (.type T) "__getitem__" = pure (some (.builtin id))) (h : Q false s) : wpAny M A (getitemInPython o) Q E s := by
 rw [getitemInPython_of_ne ht.not_modules]
 exact wpAny_bind (wpAny_specialOf ht hl (wpAny_pure h))
theorem gip_str {M : Model} {x : Str} {t : Tok} {Q : Bool → Shared → Prop} (h : Q false s) : wpAny M A (getitemInPython (.str x t)) Q E s :=
 gip_ty (typeIs_str s x t) slot_str_getitem.lookup h
theorem range_facts {n : Nat} (hn : n ≤ 100000000) : Builtin.Range.small 0 n 1 = true ∧ Builtin.Range.rangeSize 0 n 1 = n := by
 have e : Builtin.Range.rangeSize 0 n 1 = n := by
  unfold Builtin.Range.rangeSize
  simp
  lia
 refine ⟨?_, e⟩
 unfold Builtin.Range.small Builtin.Range.rangeFitsLong
 rw [e]
 simp
 lia
structure Sx (s s' : Shared) : Prop where
 g : s'.gens = s.gens
 d : s'.drawn = s.drawn
 o : s'.os = s.os
theorem Sx.refl (s : Shared) : Sx s s := ⟨rfl, rfl, rfl⟩
theorem Sx.of {s : Shared} {h : Heap} {tk : Nat} : Sx s { s with heap := h, toks := tk } := ⟨rfl, rfl, rfl⟩
theorem Sx.trans {s s' s'' : Shared} (x : Sx s s') (y : Sx s' s'') : Sx s s'' := ⟨y.g.trans x.g, y.d.trans x.d, y.o.trans x.o⟩
theorem Sx.eq {s s' : Shared} (x : Sx s s') : s' = { s with heap := s'.heap, toks := s'.toks } := by
 obtain ⟨h, g, d, t, o⟩ := s'
 obtain ⟨rfl, rfl, rfl⟩ := x
 rfl
theorem Sx.grow {s s' : Shared} (x : Sx s s') (k : ∀ b o, s.heap.get? b = some o → s'.heap.get? b = some o) : Grow s s' := ⟨s'.heap, s'.toks, x.eq, k⟩
theorem Grow.sx {s s' : Shared} (x : Grow s s') : Sx s s' := by obtain ⟨h, t, rfl, k⟩ := x; exact .of
theorem fgtW {α : Type} {M : Model} {t : Sem α} {Q : α → Shared → Prop} {S : Shared} (s₀ : Shared) (H : Heap) (eh : S.heap = H) (ex : Sx s₀ S) (h : ∀ s', Sx s₀ s' → s'.heap = H → wpAny M A t Q E s') : wpAny M A t Q E S := h S ex eh
theorem fgtC {M : Model} {c : Code} {R : Result → Shared → Prop} {S : Shared} (s₀ : Shared) (H : Heap) (eh : S.heap = H) (ex : Sx s₀ S) (h : ∀ s', Sx s₀ s' → s'.heap = H → codeAny M A c R s') : codeAny M A c R S := h S ex eh
theorem Vars.sx {M : Model} {m : Str → Option Value} {x : Str} {v : Value} {Q : Unit → Shared → Prop} (V : Vars s.heap env m)
  (h : ∀ s' b, Sx s s' → Vars s'.heap env (set m x v) → OwnA env b → (∀ y o, y ≠ b → s.heap.get? y = some o → s'.heap.get? y = some o) → Q () s') (hk : varOk env x = true := by rfl) : wpAny M A (storeName env x v) Q E s :=
 V.st (fun h' tk b V' hb S' => h _ b .of V' hb fun y o hy e => (S'.2 y hy).trans e) hk
theorem Vars.sxl {M : Model} {m : Str → Option Value} {x : Str} {v : Value} {Q : Unit → Shared → Prop} (V : Vars s.heap env m)
  (h : ∀ s', Sx s s' → Vars s'.heap env (set m x v) → (∀ y o, y ≠ env.locals → s.heap.get? y = some o → s'.heap.get? y = some o) → Q () s') (hl : env.kindOf x = some .local := by rfl) : wpAny M A (storeName env x v) Q E s :=
 V.stl (fun h' tk V' S' => h _ .of V' fun y o hy e => (S'.2 y hy).trans e) hl
theorem Vars.rd {M : Model} {hh : Heap} {m : Str → Option Value} {x : Str} {v : Value} {Q : Value → Shared → Prop} {pos : Pos} (V : Vars hh env m) (h : Q v s) (hv : m x = some v) (hs : s.heap = hh := by rfl) (hk : varOk env x = true := by rfl) (hd : (x == ("__debug__" : Str)) = false := by decide) : wpAny M A (eval (.Name x pos) env) Q E s := by
 subst hs
 exact V.nm h hv hk hd
theorem asgx {x y : Str} {p1 p2 pos : Pos} {k : Nat} {t : Addr} {o : Obj} {a b : Value} {n : Nat} {Q : Unit → Shared → Prop} (hh : A.handled = none) (ho : s.heap.get? t = some o) (hc : o.cls = .type "tuple") (hd : o.data = .seq #[a, b] n)
  (h : ∀ s', Grow s s' → wpAny (Md w) A (storeName env x a) (fun _ s₁ => wpAny (Md w) A (storeName env y b) Q E s₁) E s') :
  wpAny (Md w) A (assign (.Tuple [.Name x p1, .Name y p2] k pos) env (.ref t)) Q E s :=
 asg2 hh ho hc hd fun h' k' => h _ (.of k')
theorem bnd {x : Str} {v : Value} {Q : Unit → Shared → Prop} (h : wpAny (Md w) A (storeName env x v) Q E s) : wpAny (Md w) A (bindName env x v) Q E s := wpAny_bindName h
theorem swp2 {x y : Str} {t : Addr} {o : Obj} {a b : Value} {n : Nat} {Q : Unit → Shared → Prop} (hh : A.handled = none) (ho : s.heap.get? t = some o) (hc : o.cls = .type "tuple") (hd : o.data = .seq #[a, b] n)
  (h : ∀ s', Grow s s' → wpAny (Md w) A (storeName env y b) (fun _ s₁ => wpAny (Md w) A (storeName env x a) Q E s₁) E s') :
  wpAny (Md w) A (unpackItems (.ref t) ([x, y] : List Str).length none) (fun items s₂ => wpAny (Md w) A (assignInOrder (([x, y] : List Str).reverse.map fun n => bindName env n) items.reverse) Q E s₂) E s := by
 refine unpackItems_tuple (items := #[a, b]) hh ⟨o, ho, hc, n, hd⟩ fun h' he => ?_
 refine aio_cons (bnd (wpAny_mono (h _ (.of fun b o e => he b o (Nat.ne_of_lt (Heap.lt_size e)) e)) (fun _ s₁ h₁ => ?_) fun _ _ e => e))
 exact aio_cons (bnd (wpAny_mono h₁ (fun _ _ h' => aio_nil h') fun _ _ e => e))
theorem range_iter {n : Nat} {t : Tok} {K : Value → Shared → Prop} (hn : n ≤ 100000000)
  (h : ∀ I s', Grow s s' → s.heap.objs.size ≤ I → IsRangeIter s'.heap I 0 n 1 → K (.ref I) s') : wpAny (Md w) A (call (.type "range") [.int n t]) (fun x s₁ => wpAny (Md w) A (pyIter x) K E s₁) E s := by
 obtain ⟨r1, r2⟩ := range_facts hn
 refine call_range_1 (wpAny_pyIter_range (Heap.get?_push_size _ rfl) r1 (h _ _ (.of fun b o e => Heap.get?_push_of_some _ (Heap.get?_push_of_some _ e)) ?_ ?_))
 ·show _ ≤ (s.heap.push _).objs.size
  rw [Heap.size_push]; exact Nat.le_succ _
 ·rw [r2]; exact Heap.get?_push_size _ rfl
theorem for_walks_af {it : Addr} {fp wr : List Addr} {n : Nat} {P : Nat → Value → Prop} {St : Nat → Heap → Prop} {target : Expr} {body : List Stmt} {R : Result → Shared → Prop} {s : Shared} (W : Walks pw w A it fp wr n P St) (AF : Shared → Prop) (J : Nat → Shared → Prop) (h0 : J 0 s) (hst : St 0 s.heap)
  (stab : ∀ i (s : Shared) h' tk, J i s → St i s.heap → But wr s.heap h' → J i { s with heap := h', toks := tk })
  (step : ∀ i v s E', i < n → P i v → J i s → St (i + 1) s.heap → wpAny (Md w) A (letOwnedTupleGo target (.ref it) v) (fun _ s₁ => wpAny (Md w) A (assign target env v) (fun _ s₂ => wpAny (Md w) A (execs body env) (fun f s₃ => match f with
   | .next | .cont => J (i + 1) s₃ ∧ St (i + 1) s₃.heap
   | .brk => AF s₃
   | .ret v => R (.ok (.ret v)) s₃) E' s₂) E' s₁) E' s)
  (done : ∀ s, J n s → AF s) (fin : ∀ s, AF s → R (.ok .next) s) : codeAny (Md w) A (.forLoop target (.ref it) body [] env) R s := by
 refine for_walks W J h0 hst stab (fun i v s E' hi hP hJ hS => ?_) fun s hJ => fin s (done s hJ)
 refine wpAny_mono (step i v s E' hi hP hJ hS) (fun _ _ h₁ => wpAny_mono h₁ (fun _ _ h₂ => wpAny_mono h₂ (fun f s₃ h₃ => ?_) fun _ _ e => e) fun _ _ e => e) fun _ _ e => e
 cases f with
 | next => exact h₃
 | cont => exact h₃
 | brk => exact fin _ h₃
 | ret v => exact h₃
end
end
section
theorem mem_of_lookup {α : Type} {x : Str} {c : α} : ∀ {cl : List (Str × α)}, cl.lookup x = some c → (x, c) ∈ cl
 | [], h => by cases h
 | (y, d) :: r, h => by
  simp only [List.lookup] at h
  split at h
  ·rename_i q; have q := beq_iff_eq.mp q; subst q; cases h; exact List.mem_cons_self
  ·exact List.mem_cons_of_mem _ (mem_of_lookup h)
structure Left0 (C : Nat) (cl : List (Str × Addr)) (cenv : Env) (m : Str → Option Value) (s' s₄ : Shared) : Prop where
 x : Sx s' s₄
 k : ∀ b o, b ≠ C → s'.heap.get? b = some o → s₄.heap.get? b = some o
 v : ∃ m₃, Vars s₄.heap cenv m₃ ∧ ∀ x, (cl.lookup x).isSome = true → m₃ x = m x
structure Comp (s₀ : Shared) (cl : List (Str × Addr)) (cenv : Env) (m : Str → Option Value) (lo : Nat) (s' : Shared) : Prop where
 x : Sx s₀ s'
 k : ∀ b o, s₀.heap.get? b = some o → s'.heap.get? b = some o
 v : ∃ m', Vars s'.heap cenv m' ∧ ∀ x, (cl.lookup x).isSome = true → m' x = m x
 lo : lo ≤ s'.heap.objs.size
noncomputable abbrev testsOf (ifs : List Expr) (cenv : Env) : Sem Bool := forIn ifs true fun c r => if r = true then do let ok ← isTrue c cenv (eval c cenv); pure (ForInStep.yield ok) else pure (ForInStep.yield r)
def TurnOk (w : World) (A : Around) (cl : List (Str × Addr)) (elt target : Expr) (ifs : List Expr) (m : Str → Option Value) (C it : Nat) (cenv : Env) (v : Value) (od : Option PyData) (s' : Shared) (E' : Value → Shared → Prop) : Prop :=
 ∀ (G1 : Value → Shared → Prop) (G0 : Shared → Prop), (∀ y s₄ d, od = some d → Left0 C cl cenv m s' s₄ → Is (fun b => C < b) s₄.heap y d → G1 y s₄) → (∀ s₃, od = none → Left0 C cl cenv m s' s₃ → G0 s₃) →
  wpAny (Md w) A (letOwnedTupleGo target (.ref it) v) (fun _ s₁ => wpAny (Md w) A (assign target cenv v) (fun _ s₂ => wpAny (Md w) A (testsOf ifs cenv) (fun ok s₃ =>
   if ok = true then wpAny (Md w) A (eval elt cenv) G1 E' s₃ else G0 s₃) E' s₂) E' s₁) E' s'
inductive CompIt (w : World) (A : Around) (env : Env) (scope : Scope) (cl : List (Str × Addr)) (elt target : Expr) (ifs : List Expr) (m : Str → Option Value) (s₀ : Shared) (Fin : List PyData → Prop) (itv : Value) (s₂ : Shared) : Prop
 | mk (it : Addr) (fp wr : List Addr) (n : Nat) (P : Nat → Value → Prop) (St : Nat → Heap → Prop) (ds : List (Option PyData)) (e : itv = .ref it) (W : Walks pw w A it fp wr n P St) (hn : n ≤ sizeLine) (hst : St 0 s₂.heap) (hfp : ∀ b ∈ fp, b < s₂.heap.objs.size) (x₂ : Sx s₀ s₂)
  (k₂ : ∀ b o, s₀.heap.get? b = some o → s₂.heap.get? b = some o) (hwr : ∀ b ∈ wr, s₀.heap.objs.size ≤ b) (hz : s₀.heap.objs.size ≤ s₂.heap.objs.size) (hlen : ds.length = n)
  (step : ∀ C cenv, cenv = compEnvC scope cl C env → s₀.heap.objs.size ≤ C → ∀ (i : Nat) v od s' m' E', P i v → ds[i]? = some od → St (i + 1) s'.heap → Vars s'.heap cenv m' → (∀ x, (cl.lookup x).isSome = true → m' x = m x) → (∀ b o, s₀.heap.get? b = some o → s'.heap.get? b = some o) → TurnOk w A cl elt target ifs m C it cenv v od s' E')
  (fin : Fin (ds.filterMap id)) : CompIt w A env scope cl elt target ifs m s₀ Fin itv s₂
inductive LcInv (s₀ : Shared) (cl : List (Str × Addr)) (cenv : Env) (m : Str → Option Value) (lo D n : Nat) (ds : List (Option PyData)) (St : Nat → Heap → Prop) (k : Nat) (s' : Shared) : Prop
 | mk (i : Nat) (ys : List Value) (hi : i ≤ n) (e : k = n - i) (hl : ys.length ≤ i) (c : Comp s₀ cl cenv m lo s') (hI : IsAll (fun b => lo ≤ b) s'.heap ys ((ds.take i).filterMap id)) (st : St i s'.heap) (p : s'.heap.PlainList D ys.toArray) : LcInv s₀ cl cenv m lo D n ds St k s'
section
variable {w : World} {A : Around} {E : Value → Shared → Prop} {s : Shared} {env : Env}
theorem Comp.move {s₀ s' : Shared} {cl : List (Str × Addr)} {cenv : Env} {m : Str → Option Value} {C : Nat} {X : Nat → Prop} (c : Comp s₀ cl cenv m (C + 1) s') (h' : Heap) (tk : Nat) (hloc : cenv.locals = C) (kB : ∀ b o, ¬ X b → s'.heap.get? b = some o → h'.get? b = some o) (old : ∀ b o, s₀.heap.get? b = some o → ¬ X b) (hOwn : ∀ b, OwnA cenv b → ¬ X b) : Comp s₀ cl cenv m (C + 1) { s' with heap := h', toks := tk } where
 x := c.x.trans .of
 k := fun b o e => kB b o (old b o e) (c.k b o e)
 v := let ⟨m', V', hm'⟩ := c.v; ⟨m', V'.keep fun b o hb e => kB b o (hOwn b hb) e, hm'⟩
 lo := by
  obtain ⟨m', V', _⟩ := c.v
  obtain ⟨o, ho⟩ := V'.own (.inl rfl)
  have := Heap.lt_size (kB _ o (hOwn _ (.inl rfl)) ho)
  rw [hloc] at this
  exact this
theorem lcompX {use : Option (Value → Sem Unit)} {elt target iter : Expr} {ifs : List Expr} {scope : Scope} {pos cpos : Pos} {cl : List (Str × Addr)} {m : Str → Option Value} {s₀ : Shared} {Fin : List PyData → Prop} {Q : Value → Shared → Prop} (V : Vars s₀.heap env m)
  (hcl : ∀ p ∈ cl, env.cells.lookup p.1 = some p.2 ∧ (relabel scope env).names.lookup p.1 ≠ some .local)
  (h : wpAny (Md w) A (eval iter env) (fun xv s₁ => wpAny (Md w) A (pyIter xv) (CompIt w A env scope cl elt target ifs m s₀ Fin) E s₁) E s)
  (hfin : ∀ ds, Fin ds → ∀ (D C : Nat) s' ys, s₀.heap.objs.size ≤ D → s₀.heap.objs.size ≤ C → D < C → Sx s₀ s' → (∀ b o, s₀.heap.get? b = some o → s'.heap.get? b = some o) → (∃ ml, s'.heap.Ns C ml) → s'.heap.PlainList D ys.toArray → IsAll (fun b => C < b) s'.heap ys ds → compPost (Md w) A E use Q (.ref D) C (.ok .next) s')
  (hclos : closureFor scope env = pure cl) (hs : ∀ x, foldedSetIterable iter env x = pure x) (hcell : (scope.names.all fun x => x.2 != .cell) = true) (hkind : scope.kind = .function)
  (hnames : (scope.names.all fun x => x.2 != .local || scope.names.lookup x.1 == some .local) = true) :
  wpAny (Md w) A (comprehension (.ListComp elt [⟨target, iter, ifs, 0⟩] scope pos) scope env cpos (newList []) false (eval iter env) use) Q E s := by
 refine wpAny_comprehension_free (use := use) rfl hs hclos hkind (fun x hx hl => ?_) (wpAny_mono h (fun xv s₁ h₁ => wpAny_mono h₁ (fun itv s₂ h₂ => ?_) fun _ _ e => e) fun _ _ e => e)
 ·have := List.all_eq_true.mp hnames x hx
  rw [hl] at this
  simpa using this
 obtain ⟨it, fp, wr, n, P, St, ds, rfl, W, hn, hst, hfp, x₂, k₂, hwr, hz, hlen, step, fin⟩ := h₂
 refine wpAny_newObj_type (wpAny_newFunctionEnv (fun x hx => by simpa using List.all_eq_true.mp hcell x hx) (by intro y hy; simp at hy) (fun h₁ hns₁ hsb₁ => ?_) hkind)
 have hsz0 : (s₂.heap.push { cls := .type "list", dict := none, data := .seq ([] : List Value).toArray }).objs.size = s₂.heap.objs.size + 1 := Heap.size_push ..
 show codeAny _ _ (.compStart _ 0 _ _ { newEnv scope (s₂.heap.push { cls := .type "list", dict := none, data := .seq ([] : List Value).toArray }).objs.size env.globals cl env.qual none .none (some env) builtinsNs with scope := relabel scope env }) (compPost (Md w) A E use Q (.ref s₂.heap.objs.size) (s₂.heap.push { cls := .type "list", dict := none, data := .seq ([] : List Value).toArray }).objs.size) _
 have hns₁ : h₁.Ns (s₂.heap.push { cls := .type "list", dict := none, data := .seq ([] : List Value).toArray }).objs.size (fun _ => none) := hns₁
 have old₁ : ∀ b o, b ≠ (s₂.heap.push { cls := .type "list", dict := none, data := .seq ([] : List Value).toArray }).objs.size → (s₂.heap.push { cls := .type "list", dict := none, data := .seq ([] : List Value).toArray }).get? b = some o → h₁.get? b = some o := fun b o hb e => hsb₁.extBut b o hb (Heap.get?_push_of_some _ e)
 have hS : h₁.objs.size = s₂.heap.objs.size + 1 + 1 := by rw [hsb₁.1, Heap.size_push]; exact congrArg (· + 1) hsz0
 have hD : (s₂.heap.push { cls := .type "list", dict := none, data := .seq ([] : List Value).toArray }).get? s₂.heap.objs.size = some { cls := .type "list", data := .seq #[] } := Heap.get?_push_size _ rfl
 have hup : ∀ b o, s₂.heap.get? b = some o → b < s₂.heap.objs.size ∧ (s₂.heap.push { cls := .type "list", dict := none, data := .seq ([] : List Value).toArray }).get? b = some o := fun b o e => ⟨Heap.lt_size e, Heap.get?_push_of_some _ e⟩
 rw [hsz0] at hns₁ old₁ ⊢
 clear hsb₁ hsz0
 generalize s₂.heap.push { cls := .type "list", dict := none, data := .seq ([] : List Value).toArray } = hp at *
 generalize hDe : s₂.heap.objs.size = D at *
 have hDC : D < D + 1 := Nat.lt_succ_self _
 generalize hCe : D + 1 = C at *
 have hC' : s₀.heap.objs.size ≤ C := Nat.le_trans hz (Nat.le_of_lt hDC)
 have hD₁ : h₁.get? D = some { cls := .type "list", data := .seq #[] } := old₁ _ _ (Nat.ne_of_lt hDC) hD
 have k₁ : ∀ b o, s₂.heap.get? b = some o → h₁.get? b = some o := fun b o e => old₁ b o (Nat.ne_of_lt (Nat.lt_trans (hup b o e).1 hDC)) (hup b o e).2
 have henv : ({ newEnv scope C env.globals cl env.qual none .none (some env) builtinsNs with scope := relabel scope env } : Env) = compEnvC scope cl C env := rfl
 rw [henv]
 have step := step C _ rfl hC'
 have V₁ : Vars h₁ (compEnvC scope cl C env) (fun x => if (cl.lookup x).isSome then m x else none) := V.comp (fun x c e => (hcl _ (mem_of_lookup e)).1) (fun x c e => (hcl _ (mem_of_lookup e)).2) (by
   cases e2 : s₀.heap.get? C with
   | none => rfl
   | some o => exact absurd (Heap.lt_size e2) (Nat.not_lt.mpr hC')) (fun b o e => k₁ b o (k₂ b o e)) hns₁ hkind
 have hOwn0 : ∀ b, OwnA (compEnvC scope cl C env) b → b = C ∨ ∃ o, s₀.heap.get? b = some o := by
  rintro b (ex | ⟨y, ex⟩)
  ·exact .inl ex
  ·have ex : cl.lookup y = some b := ex
   obtain ⟨o, ho, _⟩ := V.cell y b (hcl _ (mem_of_lookup ex)).1
   exact .inr ⟨o, ho⟩
 have hloc : (compEnvC scope cl C env).locals = C := rfl
 clear henv
 generalize compEnvC scope cl C env = cenv at *
 have old : ∀ b o, s₀.heap.get? b = some o → b < s₀.heap.objs.size := fun b o e => Heap.lt_size e
 have oldD : ∀ b o, s₀.heap.get? b = some o → ¬ b = D := fun b o e => Nat.ne_of_lt (Nat.lt_of_lt_of_le (old b o e) hz)
 have oldw : ∀ b o, s₀.heap.get? b = some o → ¬ b ∈ wr := fun b o e hw => Nat.lt_irrefl _ (Nat.lt_of_lt_of_le (old b o e) (hwr b hw))
 have wlt : ∀ b ∈ wr, b < D := fun b hb => hfp b (W.sub b hb)
 have ownD : ∀ b, OwnA cenv b → ¬ b = D := fun b hb => (hOwn0 b hb).elim (fun e => Nat.ne_of_gt (e ▸ hDC)) fun ⟨o, e⟩ => oldD b o e
 have ownw : ∀ b, OwnA cenv b → ¬ b ∈ wr := fun b hb => (hOwn0 b hb).elim (fun e hw => Nat.lt_irrefl _ (Nat.lt_trans hDC (e ▸ wlt b hw))) fun ⟨o, e⟩ => oldw b o e
 have loop : codeAny (Md w) A (.compLoop (.ListComp elt [⟨target, iter, ifs, 0⟩] scope pos) 0 (.ref it) (.ref D) cenv) (compPost (Md w) A E use Q (.ref D) C) { s₂ with heap := h₁ } := by
  refine compLoop_any (LcInv s₀ cl cenv m (C + 1) D n ds St) ?_ n ⟨0, [], Nat.zero_le _, rfl, Nat.le_refl _, ⟨x₂.trans .of, fun b o e => k₁ b o (k₂ b o e), ⟨_, V₁, fun x hx => if_pos hx⟩, Nat.le_of_eq hS.symm⟩, .nil, W.frame _ _ _ hst (fun b _ o e => k₁ b o e), ⟨_, hD₁⟩⟩
  rintro k s' E' ⟨i, ys, hi, rfl, hl, c, hI, st, p⟩
  by_cases hlt : i < n
  ·refine W.item i s' _ _ hlt st fun v h' tk hPv st' hk => ?_
   have kB : ∀ b o, ¬ b ∈ wr → s'.heap.get? b = some o → h'.get? b = some o := fun b o hb e => hk b o hb e
   have c' := c.move h' tk hloc kB oldw ownw
   obtain ⟨od, hod⟩ : ∃ od, ds[i]? = some od := ⟨_, List.getElem?_eq_getElem (hlen.symm ▸ hlt)⟩
   obtain ⟨m', V', hm'⟩ := c'.v
   have htk : (ds.take (i + 1)).filterMap id = (ds.take i).filterMap id ++ od.toList := by
    rw [List.take_add_one, hod, List.filterMap_append]
    cases od <;> rfl
   have hI' : IsAll (fun b => C + 1 ≤ b) h' ys ((ds.take i).filterMap id) := hI.keep (fun b o hb e _ => kB b o (fun hw => Nat.lt_irrefl _ (Nat.lt_of_lt_of_le (Nat.lt_trans (wlt b hw) hDC) (Nat.le_of_succ_le hb))) e) fun _ h => h
   have p' : h'.PlainList D ys.toArray := p.at fun o e => kB _ o (fun hw => Nat.lt_irrefl _ (wlt D hw)) e
   clear hI p c st hk kB
   have next : ∀ {s₄ : Shared}, Left0 C cl cenv m { s' with heap := h', toks := tk } s₄ → Comp s₀ cl cenv m (C + 1) s₄ ∧ IsAll (fun b => C + 1 ≤ b) s₄.heap ys ((ds.take i).filterMap id) ∧ St (i + 1) s₄.heap ∧ s₄.heap.PlainList D ys.toArray := fun {s₄} l =>
    ⟨⟨c'.x.trans l.x, fun b o e => l.k b o (Nat.ne_of_lt (Nat.lt_of_lt_of_le (old b o e) hC')) (c'.k b o e), l.v, let ⟨m₃, V₃, _⟩ := l.v; let ⟨o, ho⟩ := V₃.own (.inl rfl); by rw [hloc] at ho; exact Heap.lt_size ho⟩,
     hI'.keep (fun b o hb e _ => l.k b o (Nat.ne_of_gt hb) e) fun _ h => h, W.frame _ _ _ st' (fun b hb o e => l.k b o (Nat.ne_of_lt (Nat.lt_trans (hfp b hb) hDC)) e), p'.at fun o e => l.k D o (Nat.ne_of_lt hDC) e⟩
   refine step i v od { s' with heap := h', toks := tk } m' _ hPv hod st' V' hm' c'.k _ _ (fun y s₄ d ed l hy => ?_) fun s₃ ed l => ?_
   ·obtain ⟨c₄, hI₄, st₄, p₄⟩ := next l
    refine wpAny_list_append_plain (hsz := by rw [List.size_toArray]; lia) p₄ fun h₅ hl₅ hs₅ => ?_
    have kD : ∀ b o, ¬ b = D → s₄.heap.get? b = some o → h₅.get? b = some o := fun b o hb e => (hs₅.2 b hb).trans e
    refine ⟨n - (i + 1), by lia, i + 1, ys ++ [y], hlt, rfl, by rw [List.length_append]; exact Nat.add_le_add_right hl 1, c₄.move h₅ _ hloc kD oldD ownD, ?_, W.frame _ _ _ st₄ (fun b hb o e => kD b o (Nat.ne_of_lt (hfp b hb)) e), ?_⟩
    ·rw [htk, ed]
     have kI : ∀ b o, C + 1 ≤ b → s₄.heap.get? b = some o → h₅.get? b = some o := fun b o hb e => kD b o (Nat.ne_of_gt (Nat.lt_trans hDC hb)) e
     exact (hI₄.keep (fun b o hb e _ => kI b o hb e) fun _ h => h).snoc (hy.keep (fun b o hb e _ => kI b o hb e) fun _ h => h)
    ·have : (ys ++ [y]).toArray = ys.toArray.push y := by simp
     rw [this]; exact hl₅
   ·obtain ⟨c₄, hI₄, st₄, p₄⟩ := next l
    refine ⟨n - (i + 1), by lia, i + 1, ys, hlt, rfl, Nat.le_succ_of_le hl, c₄, ?_, st₄, p₄⟩
    rw [htk, ed]
    simpa using hI₄
  ·have : i = n := by lia
   subst this
   refine W.done s' _ _ st fun h' tk hk => ?_
   have kB : ∀ b o, ¬ b ∈ wr → s'.heap.get? b = some o → h'.get? b = some o := fun b o hb e => hk b o hb e
   have c' := c.move h' tk hloc kB oldw ownw
   rw [List.take_of_length_le (Nat.le_of_eq hlen)] at hI
   obtain ⟨m', V', _⟩ := c'.v
   obtain ⟨ml, hnC, _⟩ := V'.ns
   rw [hloc] at hnC
   exact hfin _ fin D C _ ys hz hC' hDC c'.x c'.k ⟨ml, hnC⟩ (p.at fun o e => kB _ o (fun hw => Nat.lt_irrefl _ (wlt D hw)) e) (hI.keep (fun b o hb e _ => kB b o (fun hw => Nat.lt_irrefl _ (Nat.lt_of_lt_of_le (Nat.lt_trans (wlt b hw) hDC) (Nat.le_of_succ_le hb))) e) fun _ h => h)
 exact codeAny_compStart_list loop (W.self 0 _ _ _ (W.frame _ _ _ hst fun b _ o e => k₁ b o e) loop)
theorem lcompL {elt target iter : Expr} {ifs : List Expr} {scope : Scope} {pos : Pos} {cl : List (Str × Addr)} {m : Str → Option Value} {s₀ : Shared} {Q : Value → Shared → Prop} (V : Vars s₀.heap env m)
  (hcl : ∀ p ∈ cl, env.cells.lookup p.1 = some p.2 ∧ (relabel scope env).names.lookup p.1 ≠ some .local)
  (h : wpAny (Md w) A (eval iter env) (fun xv s₁ => wpAny (Md w) A (pyIter xv) (CompIt w A env scope cl elt target ifs m s₀ (fun ds => ∀ D s' ys, Grow s₀ s' → s₀.heap.objs.size ≤ D → s'.heap.PlainList D ys.toArray → IsAll (fun b => s₀.heap.objs.size ≤ b) s'.heap ys ds → Q (.ref D) s')) E s₁) E s)
  (hclos : closureFor scope env = pure cl := by kernel_rfl) (hs : ∀ x, foldedSetIterable iter env x = pure x := by intro _; rfl) (hcell : (scope.names.all fun x => x.2 != .cell) = true := by rfl) (hkind : scope.kind = .function := by rfl)
  (hnames : (scope.names.all fun x => x.2 != .local || scope.names.lookup x.1 == some .local) = true := by rfl) :
  wpAny (Md w) A (eval (.ListComp elt [⟨target, iter, ifs, 0⟩] scope pos) env) Q E s := by
 rw [eval_ListComp]
 refine lcompX (use := none) V hcl h (fun ds hf D C s' ys hD hC hDC x k hns hP hI => ?_) hclos hs hcell hkind hnames
 obtain ⟨ml, hnC⟩ := hns
 refine ⟨ml, hnC, fun h' hS => ?_⟩
 have kC : ∀ b o, b ≠ C → s'.heap.get? b = some o → h'.get? b = some o := fun b o hb e => (hS.2 b hb).trans e
 exact hf D _ ys (Sx.grow (x.trans .of) fun b o e => kC b o (Nat.ne_of_lt (Nat.lt_of_lt_of_le (Heap.lt_size e) hC)) (k b o e)) hD (hP.at fun o e => kC D o (Nat.ne_of_lt hDC) e) ((hI.keep (fun b o hb e _ => kC b o (Nat.ne_of_gt hb) e) fun _ h => h).within fun b o hb _ => Nat.le_trans hC (Nat.le_of_lt hb))
theorem lcompS {y : Str} {py spos : Pos} {elt target iter : Expr} {ifs : List Expr} {scope : Scope} {pos : Pos} {cl : List (Str × Addr)} {m : Str → Option Value} {s₀ : Shared} {Q : Flow → Shared → Prop} (V : Vars s₀.heap env m)
  (hcl : ∀ p ∈ cl, env.cells.lookup p.1 = some p.2 ∧ (relabel scope env).names.lookup p.1 ≠ some .local)
  (h : wpAny (Md w) A (eval iter env) (fun xv s₁ => wpAny (Md w) A (pyIter xv) (CompIt w A env scope cl elt target ifs m s₀ (fun ds => ∀ D s' ys, Sx s₀ s' → (∀ b o, b ≠ env.locals → s₀.heap.get? b = some o → s'.heap.get? b = some o) → Vars s'.heap env (set m y (.ref D)) → s₀.heap.objs.size ≤ D → s'.heap.PlainList D ys.toArray → IsAll (fun b => s₀.heap.objs.size ≤ b) s'.heap ys ds → Q .next s')) E s₁) E s)
  (hsw : swapsWith (.ListComp elt [⟨target, iter, ifs, 0⟩] scope pos) (some (.Name y py)) spos.line env = pure true := by rfl) (hy : env.kindOf y = some .local := by rfl)
  (hclos : closureFor scope env = pure cl := by kernel_rfl) (hs : ∀ x, foldedSetIterable iter env x = pure x := by intro _; rfl) (hcell : (scope.names.all fun x => x.2 != .cell) = true := by rfl) (hkind : scope.kind = .function := by rfl)
  (hnames : (scope.names.all fun x => x.2 != .local || scope.names.lookup x.1 == some .local) = true := by rfl) :
  wpAny (Md w) A (exec (.Assign [.Name y py] (.ListComp elt [⟨target, iter, ifs, 0⟩] scope pos) spos) env) Q E s := by
 rw [exec_Assign_Name_used _ _ _ _ hsw]
 refine wpAny_bind (wpAny_standAt (wpAny_bind ?_))
 show wpAny _ A (do let _ ← comprehension (.ListComp elt [⟨target, iter, ifs, 0⟩] scope pos) scope env _ (newList []) false (eval iter env) (some (assign (.Name y py) env))) _ _ s
 refine wpAny_bind (wpAny_mono (lcompX (use := some (assign (.Name y py) env)) (Q := fun _ s' => Q .next s') V hcl h (fun ds hf D C s' ys hD hC hDC x k hns hP hI => ?_) hclos hs hcell hkind hnames) (fun _ s' hq => wpAny_pure (wpAny_pure hq)) fun _ _ e => e)
 obtain ⟨ml, hnC⟩ := hns
 have hLlt : env.locals < s₀.heap.objs.size := let ⟨o, ho⟩ := V.own (.inl rfl); Heap.lt_size ho
 have neL : ∀ b, s₀.heap.objs.size ≤ b → b ≠ env.locals := fun b hb => Nat.ne_of_gt (Nat.lt_of_lt_of_le hLlt hb)
 show wpAny (Md w) A (assign (.Name y py) env (.ref D)) _ _ s'
 refine wpAny_assign_Name ((V.grow k).sxl (x := y) (fun s₃ x₃ V₃ k₃ => ?_) hy)
 refine ⟨ml, hnC.at' fun o e => k₃ _ o (neL C hC) e, fun h' hS => ?_⟩
 have kC : ∀ b o, b ≠ C → s₃.heap.get? b = some o → h'.get? b = some o := fun b o hb e => (hS.2 b hb).trans e
 have oldC : ∀ b o, s₀.heap.get? b = some o → b ≠ C := fun b o e => Nat.ne_of_lt (Nat.lt_of_lt_of_le (Heap.lt_size e) hC)
 exact hf D _ ys ((x.trans x₃).trans .of) (fun b o hb e => kC b o (oldC b o e) (k₃ b o hb (k b o e))) (V₃.keep fun b o hb e => kC b o (let ⟨o, ho⟩ := V.own hb; oldC b o ho) e) hD (hP.at fun o e => kC D o (Nat.ne_of_lt hDC) (k₃ D o (neL D hD) e))
  ((hI.keep (fun b o hb e _ => kC b o (Nat.ne_of_gt hb) (k₃ b o (neL b (Nat.le_trans hC (Nat.le_of_lt hb))) e)) fun _ h => h).within fun b o hb _ => Nat.le_trans hC (Nat.le_of_lt hb))
theorem turn_name {elt : Expr} {x : Str} {px : Pos} {ifs : List Expr} {cl : List (Str × Addr)} {m m' : Str → Option Value} {s₀ s' : Shared} {C it : Nat} {cenv : Env} {v : Value} {od : Option PyData} {E' : Value → Shared → Prop} (hloc : cenv.locals = C) (hx : cenv.kindOf x = some .local) (hxc : ∀ y, (cl.lookup y).isSome = true → y ≠ x)
  (V' : Vars s'.heap cenv m') (hm' : ∀ y, (cl.lookup y).isSome = true → m' y = m y) (hC : s₀.heap.objs.size ≤ C) (k' : ∀ b o, s₀.heap.get? b = some o → s'.heap.get? b = some o)
  (h : ∀ s₃ m₃ (G1 : Value → Shared → Prop) (G0 : Shared → Prop), Vars s₃.heap cenv m₃ → m₃ x = some v → (∀ y, (cl.lookup y).isSome = true → m₃ y = m y) → (∀ b o, s₀.heap.get? b = some o → s₃.heap.get? b = some o) → C < s₃.heap.objs.size → (∀ y s₄ d, od = some d → Grow s₃ s₄ → Is (fun b => C < b) s₄.heap y d → G1 y s₄) → (∀ s₄, od = none → Grow s₃ s₄ → G0 s₄) →
   wpAny (Md w) A (testsOf ifs cenv) (fun ok s₃ => if ok = true then wpAny (Md w) A (eval elt cenv) G1 E' s₃ else G0 s₃) E' s₃) : TurnOk w A cl elt (.Name x px) ifs m C it cenv v od s' E' := by
 intro G1 G0 g1 g0
 refine wpAny_of_eq (a := ()) (by rfl) ?_
 refine wpAny_assign_Name (V'.sxl (x := x) (fun s₃ x₃ V₃ k₃ => ?_) hx)
 rw [hloc] at k₃
 have hm₃ : ∀ y, (cl.lookup y).isSome = true → set m' x v y = m y := fun y hy => (set_ne (hxc y hy)).trans (hm' y hy)
 have left : ∀ {s₄ : Shared}, Grow s₃ s₄ → Left0 C cl cenv m s' s₄ := fun g => ⟨x₃.trans g.sx, fun b o hb ee => g.keep b o (k₃ b o hb ee), ⟨_, V₃.grow g.keep, hm₃⟩⟩
 refine h s₃ _ G1 G0 V₃ set_self hm₃ (fun b o ee => k₃ b o (Nat.ne_of_lt (Nat.lt_of_lt_of_le (Heap.lt_size ee) hC)) (k' b o ee)) ?_ (fun y s₄ d e g hy => g1 y s₄ d e (left g) hy) fun s₄ e g => g0 s₄ e (left g)
 obtain ⟨o, ho⟩ := V₃.own (.inl rfl)
 rw [hloc] at ho
 exact Heap.lt_size ho
theorem comp_list {scope : Scope} {elt target : Expr} {ifs : List Expr} {cl : List (Str × Addr)} {m : Str → Option Value} {s₀ : Shared} {Fin : List PyData → Prop} {l : Nat} {vs : Array Value} {ds : List (Option PyData)} (hh : A.handled = none) (x : Sx s₀ s) (k : ∀ b o, s₀.heap.get? b = some o → s.heap.get? b = some o) (hz : s₀.heap.objs.size ≤ s.heap.objs.size) (hl : s.heap.IsList l vs) (hn : vs.size ≤ 100000) (hlen : ds.length = vs.size)
  (step : ∀ C cenv, cenv = compEnvC scope cl C env → s₀.heap.objs.size ≤ C → ∀ (it i : Nat) v od s' m' E', vs[i]? = some v → ds[i]? = some od → (∃ k, s'.heap.IsListIter it l k) → Vars s'.heap cenv m' → (∀ x, (cl.lookup x).isSome = true → m' x = m x) → (∀ b o, s₀.heap.get? b = some o → s'.heap.get? b = some o) → TurnOk w A cl elt target ifs m C it cenv v od s' E')
  (fin : Fin (ds.filterMap id)) : wpAny (Md w) A (pyIter (.ref l)) (CompIt w A env scope cl elt target ifs m s₀ Fin) E s := by
 refine wpAny_pyIter_list hl ?_
 have hlt : l < s.heap.objs.size := let ⟨o, ho, _⟩ := hl; Heap.lt_size ho
 have hsp : ∀ o, (s.heap.push o).objs.size = s.heap.objs.size + 1 := fun o => Heap.size_push ..
 refine ⟨s.heap.objs.size, _, _, vs.size, _, _, ds, rfl, Walks.list hh s.heap.objs.size l (Nat.ne_of_lt hlt) vs, by rw [sizeLine_eq]; lia, ⟨⟨_, Heap.get?_push_size _ rfl, rfl, rfl⟩, hl.at fun o e => Heap.get?_push_of_some _ e⟩, fun b hb => ?_, x.trans ⟨rfl, rfl, rfl⟩, fun b o e => Heap.get?_push_of_some _ (k b o e), fun b hb => ?_, ?_, hlen,
  fun C cenv h1 h2 i v od s' m' E' h3 h4 h5 => step C cenv h1 h2 _ i v od s' m' E' h3 h4 ⟨_, h5.1⟩, fin⟩
 ·show b < (s.heap.push _).objs.size
  rw [hsp]
  simp only [List.mem_cons, List.not_mem_nil, or_false] at hb
  rcases hb with rfl | rfl
  ·exact Nat.lt_succ_self _
  ·exact Nat.lt_succ_of_lt hlt
 ·simp only [List.mem_cons, List.not_mem_nil, or_false] at hb
  rw [hb]; exact hz
 ·show _ ≤ (s.heap.push _).objs.size
  rw [hsp]; exact Nat.le_succ_of_le hz
theorem comp_keys {scope : Scope} {elt target : Expr} {ifs : List Expr} {cl : List (Str × Addr)} {m : Str → Option Value} {s₀ : Shared} {Fin : List PyData → Prop} {a ep : Nat} {c : Value} {dd : Option Addr} {sl : Array (Option Value)} {kvs : KVs} {ds : List (Option PyData)} (hh : A.handled = none) (x : Sx s₀ s) (k : ∀ b o, s₀.heap.get? b = some o → s.heap.get? b = some o) (hz : s₀.heap.objs.size ≤ s.heap.objs.size) (hep : DEp w s.heap a c dd sl kvs ep) (hn : kvs.length ≤ sizeLine) (hlen : ds.length = kvs.length)
  (step : ∀ C cenv, cenv = compEnvC scope cl C env → s₀.heap.objs.size ≤ C → ∀ (it i : Nat) g u t od s' m' E', kvs[i]? = some (g, u) → ds[i]? = some od → Vars s'.heap cenv m' → (∀ x, (cl.lookup x).isSome = true → m' x = m x) → (∀ b o, s₀.heap.get? b = some o → s'.heap.get? b = some o) → TurnOk w A cl elt target ifs m C it cenv (.str g t) od s' E')
  (fin : Fin (ds.filterMap id)) : CompIt w A env scope cl elt target ifs m s₀ Fin (.ref s.heap.objs.size) { s with heap := s.heap.push (keyItO a 0 kvs.length ep) } := by
 have hlt : a < s.heap.objs.size := let ⟨es, ho, _⟩ := hep; Heap.lt_size ho
 have hsp : ∀ o, (s.heap.push o).objs.size = s.heap.objs.size + 1 := fun o => Heap.size_push ..
 refine ⟨s.heap.objs.size, _, _, kvs.length, _, _, ds, rfl, nodeKeys (c := c) (dd := dd) (sl := sl) hh s.heap.objs.size a (Nat.ne_of_lt hlt) kvs ep, hn, ⟨Heap.get?_push_size _ rfl, hep.at fun o e => Heap.get?_push_of_some _ e⟩, fun b hb => ?_, x.trans ⟨rfl, rfl, rfl⟩, fun b o e => Heap.get?_push_of_some _ (k b o e), fun b hb => ?_, ?_, hlen,
  fun C cenv h1 h2 i v od s' m' E' h3 h4 h5 => ?_, fin⟩
 ·show b < (s.heap.push _).objs.size
  rw [hsp]
  simp only [List.mem_cons, List.not_mem_nil, or_false] at hb
  rcases hb with rfl | rfl
  ·exact Nat.lt_succ_self _
  ·exact Nat.lt_succ_of_lt hlt
 ·simp only [List.mem_cons, List.not_mem_nil, or_false] at hb
  rw [hb]; exact hz
 ·show _ ≤ (s.heap.push _).objs.size
  rw [hsp]; exact Nat.le_succ_of_le hz
 ·obtain ⟨g, u, t, hg, rfl⟩ := h3
  exact step C cenv h1 h2 _ i g u t od s' m' E' hg h4
theorem fmap_some (ds : List PyData) : (ds.map some).filterMap id = ds := by
 induction ds with
 | nil => rfl
 | cons d r ih => rw [List.map_cons, List.filterMap_cons_some (by rfl), ih]
theorem entered {h₁ : Heap} {tk : Nat} {m : Str → Option Value} {P : Shared → Prop} (hk : ∀ b o, s.heap.get? b = some o → h₁.get? b = some o) (V : Vars h₁ env m) (hle : s.heap.objs.size ≤ env.locals) (h : ∀ s₁, Grow s s₁ → Vars s₁.heap env m → s.heap.objs.size < s₁.heap.objs.size → P s₁) : P { s with heap := h₁, toks := tk } :=
 h _ (.of hk) V (Nat.lt_of_le_of_lt hle (let ⟨_, ho⟩ := V.own (.inl rfl); Heap.lt_size ho))
end
end
section
noncomputable def eLst (L : Nat) : Env := callEnvC (fdL 66 "_law_listed" 255) L 256
noncomputable def drawn (S : St) : Nat → Path → List PyData
 | 0, _ => []
 | f + 1, p => ((look S.below p).getD []).map fun g => .tuple [.str (toS g), if g = [] then .int ((look S.ends p).getD 0) else .list (drawn S f (p ++ g))]
section
variable {w : World} {α δ : Path → Nat} {S : St}
structure WFl (S : St) : Prop where
 nd : (S.below.map (·.1)).Nodup
 kids : ∀ p bs, (p, bs) ∈ S.below → ∀ g ∈ bs, (g = [] ∧ has S.ends p = true) ∨ ∃ c, g = [c] ∧ has S.below (p ++ [c]) = true
theorem WF.l {S : St} (W : WF S) : WFl S := ⟨W.nd, fun p bs hb g hg => (W.kids p bs hb).2 g hg⟩
theorem step_hit2 {A : Around} {E : Value → Shared → Prop} {s : Shared} {p : Path} {bs : List Path} {c : Nat} {t : Tok} {Q : Value → Shared → Prop} (T : Tree w s.heap S α δ) (hb : (p, bs) ∈ S.below) (hc : [c] ∈ bs) (h : Q (.ref (α (p ++ [c]))) { s with toks := s.toks + 1 }) :
  wpAny (Md w) A (getItem (.ref (α p)) (.str (toS [c]) t)) Q E s := by
 obtain ⟨kvs, hn, he⟩ := T.node p bs hb
 obtain ⟨v, hv, hE⟩ := he.val hc
 unfold EntV at hE
 rw [if_neg (by simp)] at hE
 subst hE
 exact sub_hit T.bs hn hv h
theorem call_listed : ∀ (f : Nat) {A : Around} {E : Value → Shared → Prop} {s : Shared} {p : Path} {Q : Value → Shared → Prop}, f ≤ 100 → Ok A (870 - f) (870 - 4 * f) → Tree w s.heap S α δ → WFl S → Sz sizeLine S → has S.below p = true →
  (∀ q, has S.below q = true → p <+: q → q.length < p.length + f) →
  (∀ v s', Grow s s' → Is (fun b => s.heap.objs.size ≤ b) s'.heap v (.list (drawn S f p)) → Q v s') → wpAny (Md w) A (call (.ref 256) [.ref (α p)]) Q E s := by
 intro f
 induction f using Nat.strongRecOn with
 | ind f ih =>
 intro A E s p Q hf hA T W z hp hl h
 refine enter (fd := fdL 66 "_law_listed" 255) (o := o256p6 w.params) (binds := [("node", .ref (α p))]) T.bs hA (by lia) fun h₁ tk E' V hk hown => ?_
 have hA' := hA.deeper (eLst s.heap.objs.size)
 rw [show callEnvC (fdL 66 "_law_listed" 255) s.heap.objs.size 256 = eLst s.heap.objs.size from rfl] at V ⊢
 obtain ⟨m₁, hm, V⟩ : ∃ m₁, m₁ "node" = some (.ref (α p)) ∧ Vars h₁ (eLst s.heap.objs.size) m₁ := ⟨_, by rfl, V⟩
 refine entered (P := fun s₁ => wpAny _ _ _ _ _ s₁) hk V (Nat.le_refl _) fun s₁ g₁ V₁ hz₁ => ?_
 clear V hk hown
 have T₁ := T.grow g₁.keep
 obtain ⟨bs, hb⟩ := has_iff.mp hp
 obtain ⟨kvs, hn, he⟩ := T₁.node p bs hb
 obtain ⟨ep, hep⟩ := hn.at_.dep
 obtain ⟨f, rfl⟩ : ∃ g, f = g + 1 := ⟨f - 1, by have := hl p hp (List.prefix_refl p); lia⟩
 have hdr0 : drawn S (f + 1) p = bs.map fun g => .tuple [.str (toS g), if g = [] then .int ((look S.ends p).getD 0) else .list (drawn S f (p ++ g))] := by
  rw [drawn, mem_look W.nd hb]; rfl
 refine wpAny_execs_cons (wpAny_Return_some (lcompL (s₀ := s₁) (cl := [("node", s.heap.objs.size + 1)]) V₁ (by
  intro q hq; simp at hq; subst hq
  exact ⟨rfl, fun e0 => absurd (show some NameKind.cell = some .local from e0) (by decide)⟩) (V₁.rd (v := .ref (α p)) (node_iter T₁.bs hn hep (comp_keys (ds := (drawn S (f + 1) p).map some) hA'.h (.refl _) (fun _ _ e => e) (Nat.le_refl _) hep (by rw [he.len]; exact z p bs hb) (by rw [hdr0, List.length_map, List.length_map, he.len]) ?_ ?_)) hm)))
 ·intro C cenv hcenv hsC it i g u t od s' m' E' hgi hod V' hm' k'
  have hloc : cenv.locals = C := by rw [hcenv]; rfl
  have vok : varOk cenv "node" = true ∧ varOk cenv "key" = true ∧ cenv.kindOf "key" = some .local ∧ cenv.scope.kind = .function ∧ cenv.kindOf "_law_listed" = some .globalImplicit ∧ cenv.globals = 3 := by rw [hcenv]; exact ⟨rfl, rfl, rfl, rfl, rfl, rfl⟩
  obtain ⟨g', hg', rfl⟩ : ∃ g', bs[i]? = some g' ∧ g = toS g' := by
   have e1 : (kvs.map (·.1))[i]? = some g := by rw [List.getElem?_map, hgi]; rfl
   rw [he.keys, List.getElem?_map] at e1
   obtain ⟨g', h1, h2⟩ := Option.map_eq_some_iff.mp e1
   exact ⟨g', h1, h2.symm⟩
  have hod' : od = some (.tuple [.str (toS g'), if g' = [] then .int ((look S.ends p).getD 0) else .list (drawn S f (p ++ g'))]) := by
   rw [hdr0, List.map_map, List.getElem?_map, hg'] at hod
   exact (Option.some.inj hod).symm
  have hmem := List.mem_of_getElem? hg'
  subst hod'
  clear hod hgi hdr0
  refine turn_name hloc vok.2.2.1 (fun y hy => by
   simp only [List.lookup] at hy
   split at hy
   ·rename_i h2; rw [beq_iff_eq.mp h2]; decide
   ·cases hy) V' hm' hsC k' fun s₃ m₃ G1 G0 V₃ hx₃ hm₃ k₃ hC₃ g1 g0 => wpAny_tests_nil ?_
  rw [if_pos rfl]
  have T₃ : Tree w s₃.heap S α δ := T₁.grow k₃
  obtain ⟨kvs₃, hn₃, he₃⟩ := T₃.node p bs hb
  have hno₃ : m₃ "node" = some (.ref (α p)) := (hm₃ "node" rfl).trans hm
  clear V' hm' k' he hn hep
  have turn : ∀ (y : Value) (d : PyData) (s₄ : Shared), Grow s₃ s₄ → (C < s₄.heap.objs.size → Is (fun b => C < b) s₄.heap y d) → (if g' = [] then PyData.int ((look S.ends p).getD 0) else .list (drawn S f (p ++ g'))) = d → G1 (.ref s₄.heap.objs.size) { s₄ with heap := s₄.heap.push (tupO [.str (toS g') t, y]) } := by
   intro y d s₄ g₄ hy ed
   have hC₄ : C < s₄.heap.objs.size := by
    obtain ⟨o, ho⟩ := (V₃.grow g₄.keep).own (.inl rfl)
    rw [hloc] at ho
    exact Heap.lt_size ho
   refine g1 _ _ _ rfl (g₄.trans ⟨_, _, rfl, fun b o e => Heap.get?_push_of_some _ e⟩) ?_
   rw [ed]
   exact .tuple hC₄ (Heap.get?_push_size _ rfl) rfl rfl (.cons (.str _ _) (.cons ((hy hC₄).keep (.grow fun b o e => Heap.get?_push_of_some _ e) fun _ h => h) .nil))
  clear g1 g0
  refine ev_Tuple (V₃.rd (v := .str (toS g') t) (ev_IfExp (wpAny_isTrue_Compare1 (V₃.rd (v := .str (toS g') t) (Constant_str (PyProof.Rows.eq_str (wpAny_truthy_bool ?_))) hx₃ rfl vok.2.1))) hx₃ rfl vok.2.1)
  rcases W.kids p bs hb g' hmem with ⟨rfl, hend⟩ | ⟨c, rfl, hc⟩
  ·rw [if_pos (show (toS [] == Str.ofString "") = true from by decide)]
   obtain ⟨v, hv, hE⟩ := he₃.val hmem
   unfold EntV at hE
   rw [if_pos rfl] at hE
   obtain ⟨k, t', hk', rfl⟩ := hE
   refine ev_Sub (V₃.rd (v := .ref (α p)) (V₃.rd (v := .str (toS []) t) (gip_node T₃.bs hn₃ ⟨rfl, sub_hit T₃.bs hn₃ hv ?_⟩) hx₃ rfl vok.2.1) hno₃ rfl vok.1)
   exact turn (.int k t') (.int k) _ (Grow.of fun _ _ e => e) (fun _ => .int _ _) (by rw [if_pos rfl, hk']; rfl)
  ·have hne0 : toS [c] ≠ Str.ofString "" := fun e => by
    have h1 : (toS [c]).cps.size = (Str.ofString "").cps.size := congrArg (fun x : Str => x.cps.size) e
    exact absurd h1 (show (1 : Nat) ≠ 0 by decide)
   rw [if_neg (by simpa using hne0)]
   refine ev_Call (glob (v := .ref 256) T₃.bs (cw_callable (ev_Sub (V₃.rd (v := .ref (α p)) (V₃.rd (v := .str (toS [c]) t) (gip_node T₃.bs hn₃ ⟨rfl, step_hit2 T₃ hb hmem ⟨fnCallable T₃.bs (o256p6 w.params) _, ?_⟩⟩) hx₃ rfl vok.2.1) hno₃ rfl vok.1))) (by kernel_rfl) vok.2.2.2.1 vok.2.2.2.2.1 vok.2.2.2.2.2)
   refine ih f (by lia) (by lia) (hA'.le (by lia) (by lia)) T₃ W z hc (fun q hq hpq => ?_) fun v s' g hI' => ?_
   ·have := hl q hq (List.IsPrefix.trans ⟨[c], rfl⟩ hpq)
    simp
    lia
   ·exact turn v (.list (drawn S f (p ++ [c]))) s' ((Grow.of fun _ _ e => e).trans g) (fun _ => (hI'.keep (.grow fun _ _ e => e) fun _ h => h).within fun b o hb _ => Nat.lt_of_lt_of_le hC₃ hb) (if_neg (by simp))
 ·rw [fmap_some]
  intro D s' ys g hD hP hI
  exact h (.ref D) s' (g₁.trans g) (.list (Nat.le_trans (Nat.le_of_lt hz₁) hD) hP.choose_spec rfl rfl (hI.within fun b o hb _ => Nat.le_trans (Nat.le_of_lt hz₁) hb))
end
end
section
noncomputable def endv (S : St) (p : Path) : Int := (look S.ends p).getD 0
noncomputable def kidsOf (S : St) (p : Path) : List Path := (look S.below p).getD []
noncomputable def wayL (S : St) : Path → Path → Path
 | p, [] => p
 | p, c :: r => if kidsOf S (p ++ [c]) = [] then p ++ [c] else wayL S (p ++ [c]) r
noncomputable def lng (S : St) : Path → Path → Int × Nat → Int × Nat
 | _, [], r => r
 | p, c :: rest, r => if kidsOf S (p ++ [c]) = [] then r else lng S (p ++ [c]) rest (if endv S (p ++ [c]) = 0 then r else (endv S (p ++ [c]), p.length + 1))
theorem kids_none {S : St} {p : Path} (h : ¬ has S.below p = true) : kidsOf S p = [] := by
 unfold kidsOf
 rw [look_none.mpr (by simpa using h)]; rfl
theorem ent_end {S : St} {α : Path → Nat} {p : Path} {bs : List Path} {kvs : KVs} (W : WF S) (hb : (p, bs) ∈ S.below) (he : Ents S α p bs kvs) (t0 : Tok) : ∃ t, (valueAt kvs (toS [])).getD (.int 0 t0) = .int (endv S p) t := by
 by_cases h : ([] : Path) ∈ bs
 ·obtain ⟨v, hv, hE⟩ := he.val h
  unfold EntV at hE
  rw [if_pos rfl] at hE
  obtain ⟨k, t, hk, rfl⟩ := hE
  exact ⟨t, by rw [hv]; unfold endv; rw [hk]; rfl⟩
 ·have hn := he.none h
  have : look S.ends p = none := look_none.mpr (by
   cases e : has S.ends p with
   | false => rfl
   | true =>
    obtain ⟨bs', hb', h'⟩ := W.ends p e
    rw [key_uniq W.nd hb' hb] at h'
    exact absurd h' h)
  exact ⟨t0, by rw [hn]; unfold endv; rw [this]; rfl⟩
theorem endv_none {S : St} (W : WF S) {p : Path} (h : ¬ has S.below p = true) : endv S p = 0 := by
 have : look S.ends p = none := look_none.mpr (by
  cases e : has S.ends p with
  | false => rfl
  | true =>
   obtain ⟨bs', hb', h'⟩ := W.ends p e
   exact absurd (has_iff.mpr ⟨_, hb'⟩) h)
 unfold endv; rw [this]; rfl
theorem Came.shadow {w : World} {h₀ h : Heap} {S₀ : St} {α₀ δ₀ α δ : Path → Nat} {n x d : Nat} {path : Path} (C : Came w h₀ S₀ α₀ δ₀ n path h α δ x d) {name : Str} (hne : ("_frozen" : Str) ≠ name) : ∃ od, h.get? d = some od ∧ lookIn name od = some none := by
 have := C.at_
 split at this
 ·obtain ⟨hp, rfl, rfl⟩ := this
  exact C.T.shadow hp hne
 ·obtain ⟨ep, e⟩ := this.1.1.2
  exact ⟨_, e, rfl⟩
section
variable {w : World} {h₀ h : Heap} {S₀ : St} {α₀ δ₀ α δ : Path → Nat} {n x d : Nat} {path : Path} {c : Nat}
theorem Came.kids (C : Came w h₀ S₀ α₀ δ₀ n (path ++ [c]) h α δ x d) (W₀ : WF S₀) (hg : gone S₀ [] path = (S₀, true)) :
  ∃ kvs, NodeAt w h x d kvs ∧ kvs.length = (kidsOf S₀ (path ++ [c])).length ∧ (kidsOf S₀ (path ++ [c]) ≠ [] → gone S₀ [] (path ++ [c]) = (S₀, true)) ∧ ∀ t0, ∃ t, (valueAt kvs (toS [])).getD (.int 0 t0) = .int (endv S₀ (path ++ [c])) t := by
 have e := gone_snoc S₀ [] path c
 rw [List.nil_append, hg] at e
 rw [if_pos rfl, gone_one] at e
 have at_ := C.at_
 have T := C.T
 by_cases hc : has S₀.below (path ++ [c]) = true
 ·rw [if_pos hc] at e
  rw [e] at at_ T
  rw [if_pos rfl] at at_
  obtain ⟨_, rfl, rfl⟩ := at_
  obtain ⟨bs, hb⟩ := has_iff.mp hc
  obtain ⟨kvs, hn, he⟩ := T.node _ bs hb
  refine ⟨kvs, hn, ?_, fun _ => e, ent_end W₀ hb he⟩
  unfold kidsOf
  rw [mem_look W₀.nd hb, he.len, Option.getD_some]
 ·rw [if_neg hc] at e
  have hk := kids_none hc
  rw [hk]
  by_cases hs : path ∈ S₀.shut
  ·rw [if_pos hs] at e
   rw [e] at at_
   rw [if_neg (by simp)] at at_
   exact ⟨[], at_.1.1.1, rfl, fun h => absurd rfl h, fun t0 => ⟨t0, by rw [endv_none W₀ hc]; rfl⟩⟩
  ·rw [if_neg hs] at e
   rw [e] at at_ T
   rw [if_pos rfl] at at_
   obtain ⟨_, rfl, rfl⟩ := at_
   obtain ⟨kvs, hn, he⟩ := T.node (path ++ [c]) [] (mem_addB.mpr (.inr (.inr ⟨rfl, rfl⟩)))
   exact ⟨kvs, hn, by rw [he.len], fun h => absurd rfl h, fun t0 => ⟨t0, by rw [endv_none W₀ hc]; cases he; rfl⟩⟩
end
end
section
theorem Came.le {w : World} {h₀ : Heap} {S₀ : St} {α₀ δ₀ : Path → Nat} {n k : Nat} {path : Path} {h : Heap} {α δ : Path → Nat} {x d : Nat} (C : Came w h₀ S₀ α₀ δ₀ n path h α δ x d) (hk : n ≤ k) : Came w h₀ S₀ α₀ δ₀ k path h α δ x d := ⟨C.T, C.W, C.z.le hk, C.ev, C.old, C.at_⟩
noncomputable def eLng (L : Nat) : Env := callEnvC (fdL 67 "_law_longest" 262) L 263
structure LgAt (w : World) (h₀ : Heap) (S : St) (α₀ δ₀ : Path → Nat) (n : Nat) (offs : List Nat) (env : Env) (pp : Path) (a : Int) (b : Nat) (h : Heap) (α δ : Path → Nat) (x d : Nat) (m : Str → Option Value) : Prop where
 C : Came w h₀ S α₀ δ₀ n pp h α δ x d
 V : Vars h env m
 node : m "node" = some (.ref x)
 number : ∃ u, m "number" = some (.int a u)
 size : ∃ u, m "size" = some (.int b u)
 off : ∀ b ∈ offs, Away (gone S [] pp).1 α δ b ∧ b ≠ x ∧ b ≠ d
section
variable {w : World} {h₀ : Heap} {S : St} {α₀ δ₀ : Path → Nat} {n : Nat} {offs : List Nat} {env : Env} {pp : Path} {a : Int} {b : Nat} {h h' : Heap} {α δ : Path → Nat} {x d : Nat} {m m' : Str → Option Value}
theorem LgAt.grow (y : LgAt w h₀ S α₀ δ₀ n offs env pp a b h α δ x d m) (k : ∀ b o, h.get? b = some o → h'.get? b = some o) : LgAt w h₀ S α₀ δ₀ n offs env pp a b h' α δ x d m :=
 ⟨y.C.grow k, y.V.grow k, y.node, y.number, y.size, y.off⟩
theorem LgAt.upd {z : Nat} {oz : Obj} (y : LgAt w h₀ S α₀ δ₀ n offs env pp a b h α δ x d m) (hz : z ∈ offs) (h3 : 303 ≤ z) (ho : h.get? z = some oz) (hno : ¬ Nd3 oz) (hf : h₀.get? z = none) (k : ∀ b o, b ≠ z → h.get? b = some o → h'.get? b = some o)
  (V : Vars h' env m') (e1 : m' "node" = m "node") (e2 : m' "number" = m "number") (e3 : m' "size" = m "size") : LgAt w h₀ S α₀ δ₀ n offs env pp a b h' α δ x d m' :=
 ⟨y.C.keep h3 ho hno (y.off z hz).1 (y.off z hz).2.1 (y.off z hz).2.2 hf k, V, e1.trans y.node, e2 ▸ y.number, e3 ▸ y.size, y.off⟩
end
theorem Came.loc {w : World} {h₀ : Heap} {S₀ : St} {α₀ δ₀ : Path → Nat} {n : Nat} {path : Path} {h h' : Heap} {α δ : Path → Nat} {x d : Nat} {env : Env} {m : Str → Option Value} (C : Came w h₀ S₀ α₀ δ₀ n path h α δ x d) (V : Vars h env m) (h3 : 303 ≤ env.locals) (hf : h₀.get? env.locals = none)
  (o : Away (gone S₀ [] path).1 α δ env.locals ∧ env.locals ≠ x ∧ env.locals ≠ d) (k : ∀ b o, b ≠ env.locals → h.get? b = some o → h'.get? b = some o) : Came w h₀ S₀ α₀ δ₀ n path h' α δ x d := by
 obtain ⟨ml, ⟨o', es, ep, ho, hd, _⟩, _⟩ := V.ns
 exact C.keep h3 ho (fun h3 => h3.nd _ _ hd) o.1 o.2.1 o.2.2 hf k
theorem LgAt.loc {w : World} {h₀ : Heap} {S : St} {α₀ δ₀ : Path → Nat} {n : Nat} {offs : List Nat} {env : Env} {pp : Path} {a : Int} {b : Nat} {h h' : Heap} {α δ : Path → Nat} {x d : Nat} {m m' : Str → Option Value} (y : LgAt w h₀ S α₀ δ₀ n offs env pp a b h α δ x d m) (hz : env.locals ∈ offs) (h3 : 303 ≤ env.locals) (hf : h₀.get? env.locals = none)
  (k : ∀ b o, b ≠ env.locals → h.get? b = some o → h'.get? b = some o) (V : Vars h' env m') (e1 : m' "node" = m "node") (e2 : m' "number" = m "number") (e3 : m' "size" = m "size") : LgAt w h₀ S α₀ δ₀ n offs env pp a b h' α δ x d m' :=
 ⟨y.C.loc y.V h3 hf (y.off _ hz) k, V, e1.trans y.node, e2 ▸ y.number, e3 ▸ y.size, y.off⟩
theorem rangeIter_nd3 {h : Heap} {I : Addr} {a b c : Int} (x : IsRangeIter h I a b c) : ∃ o, h.get? I = some o ∧ ¬ Nd3 o := by
 refine ⟨_, x, ?_⟩
 rintro (⟨_, h⟩ | ⟨_, h⟩ | ⟨_, h, _, _, h2⟩)
 ·cases h
 ·cases h
 ·cases h; cases h2
theorem seqIndex_nat {i n : Nat} (h : i < n) : seqIndex? (i : Int) n = some i := by
 unfold seqIndex?
 have h1 : ¬ ((i : Int) < 0) := by lia
 simp only [h1, if_false]
 rw [if_pos (by simp; lia)]
 simp
theorem kids_len {n : Nat} {S : St} (z : Sz n S) (p : Path) : (kidsOf S p).length ≤ n := by
 unfold kidsOf
 cases e : look S.below p with
 | none => exact Nat.zero_le _
 | some bs => exact z _ _ (look_mem e)
theorem own_lng {L b : Nat} (h : OwnA (eLng L) b) : b = L := by
 rcases h with rfl | ⟨y, e⟩
 ·rfl
 ·cases e
theorem wpAny_abs {M : Model} {A : Around} {E : Value → Shared → Prop} {s : Shared} {c : Sem Flow} {P : Flow → Shared → Prop} (h : ∀ Q : Flow → Shared → Prop, (∀ s', P .next s' → Q .next s') → wpAny M A c Q E s) : wpAny M A c P E s := h P fun _ x => x
theorem Vars.sx2 {M : Model} {A : Around} {E : Value → Shared → Prop} {s : Shared} {env : Env} {x y : Str} {a b : Value} {m : Str → Option Value} {Q : Unit → Shared → Prop} (V : Vars s.heap env m) (xy : x ≠ y)
  (h : ∀ s' m', Sx s s' → Vars s'.heap env m' → m' x = some a → m' y = some b → (∀ q, q ≠ x → q ≠ y → m' q = m q) → (∀ b o, b ≠ env.locals → s.heap.get? b = some o → s'.heap.get? b = some o) → Q () s') (hx : env.kindOf x = some .local := by rfl) (hy : env.kindOf y = some .local := by rfl) :
  wpAny M A (storeName env x a) (fun _ s₁ => wpAny M A (storeName env y b) Q E s₁) E s :=
 V.sxl (fun s₁ x₁ V₁ k₁ => V₁.sxl (fun s₂ x₂ V₂ k₂ => h s₂ _ (x₁.trans x₂) V₂ ((set_ne xy).trans set_self) set_self (fun q q1 q2 => (set_ne q2).trans (set_ne q1)) fun b o hb e => k₂ b o hb (k₁ b o hb e)) hy) hx
noncomputable def fnBody (i : Nat) : List Stmt := match topS i with
 | .FunctionDef _ _ b _ _ _ _ _ _ _ => b
 | _ => []
noncomputable def forBody : Stmt → List Stmt
 | .For _ _ b _ _ => b
 | .While _ b _ _ => b
 | _ => []
noncomputable def lngBody : List Stmt := forBody ((fnBody 67)[1]?.getD (.Pass default))
noncomputable def lngMore : List Stmt := lngBody.drop 1
noncomputable def lngMore2 : List Stmt := lngBody.drop 2
section
variable {w : World} {A : Around} {E : Value → Shared → Prop} {s : Shared} {S : St} {α₀ δ₀ α δ : Path → Nat} {n : Nat} {path q : Path} {t : Tok} {h₀ : Heap} {L I x d : Nat} {a : Int} {b : Nat} {m : Str → Option Value}
theorem lng_end {i : Nat} {u : Tok} {Q : Flow → Shared → Prop} {c : Nat} (hA : Ok A 879 880) (W : WF S) (hg : gone S [] path = (S, true)) (nL3 : 303 ≤ L) (hL : h₀.get? L = none) (y : LgAt w h₀ S α₀ δ₀ n [L, I] (eLng L) (path ++ [c]) a b s.heap α δ x d m) (hmk : m "k" = some (.int (i : Nat) u))
  (h : ∀ s' m' a' b', Sx s s' → LgAt w h₀ S α₀ δ₀ n [L, I] (eLng L) (path ++ [c]) a' b' s'.heap α δ x d m' → m' "text" = m "text" → (a', b') = (if endv S (path ++ [c]) = 0 then (a, b) else (endv S (path ++ [c]), i + 1)) → (∀ b o, b ≠ L → s.heap.get? b = some o → s'.heap.get? b = some o) → Q .next s') : wpAny (Md w) A (execs lngMore2 (eLng L)) Q E s := by
 obtain ⟨kvs, hnode, hkl, hstay, hend⟩ := y.C.kids W hg
 obtain ⟨od, hod, hlook⟩ := y.C.shadow (name := "get") (by decide)
 refine wpAny_execs_cons (wpAny_If (isTrue_not (isTrue_plain (ev_Call (glob (v := .ref 230) y.C.T.bs (cw_callable (ev_Method (y.V.rd (v := .ref x) (fun pl => ?_) y.node))))))))
 refine getm_meth (f := .builtin "dict.get") (tf := .type "method_descriptor") y.C.T.bs hnode hod (by kernel_rfl) (by kernel_rfl) (by decide) hlook ?_
 refine cw_builtin (Constant_str (wpAny_Constant_int (node_get (x := toS []) y.C.T.bs hnode ?_)))
 obtain ⟨te, hte⟩ := hend s.toks
 rw [(hend _).choose_spec]
 refine ⟨fnCallable y.C.T.bs (o230p6 w.params) _, call_iseof y.C.T.bs (hA.le (by decide) (by decide)) fun s₉ g₉ => wpAny_truthy_bool ?_⟩
 have kg₉ : ∀ b o, s.heap.get? b = some o → s₉.heap.get? b = some o := g₉.keep
 have x₉ : Sx s s₉ := Sx.trans (by exact ⟨rfl, rfl, rfl⟩) g₉.sx
 clear g₉ hte te hnode hod
 have y₉ := y.grow kg₉
 by_cases he0 : endv S (path ++ [c]) = 0
 ·rw [if_pos he0] at h
  rw [he0]
  exact wpAny_execs_nil (wpAny_execs_nil (h s₉ m a b x₉ y₉ rfl rfl fun b o _ e => kg₉ b o e))
 ·rw [if_neg he0] at h
  rw [if_pos (by simpa using he0)]
  obtain ⟨kvs', hnode', hkl', hstay', hend'⟩ := y₉.C.kids W hg
  obtain ⟨od', hod', hlook'⟩ := y₉.C.shadow (name := "get") (by decide)
  refine wpAny_execs_cons (Assign_Tuple_swapped (names := ["number", "size"]) (ev_Tuple (ev_Method (y₉.V.rd (v := .ref x) (fun pl => ?_) y₉.node))))
  refine getm_meth (f := .builtin "dict.get") (tf := .type "method_descriptor") y₉.C.T.bs hnode' hod' (by kernel_rfl) (by kernel_rfl) (by decide) hlook' ?_
  refine cw_builtin (Constant_str (wpAny_Constant_int (node_get (x := toS []) y₉.C.T.bs hnode' ?_)))
  rw [(hend' _).choose_spec]
  refine wpAny_BinOp (y₉.V.rd (v := .int i u) (wpAny_Constant_int (add_int ?_)) hmk)
  refine swp2 hA.h (Heap.get?_push_size _ rfl) rfl rfl fun s₁₀ g₁₀ => ?_
  have kg₁₀ : ∀ b o, s₉.heap.get? b = some o → s₁₀.heap.get? b = some o := fun b o e => g₁₀.keep b o (Heap.get?_push_of_some _ e)
  have x₁₀ : Sx s s₁₀ := x₉.trans (Sx.trans (by exact ⟨rfl, rfl, rfl⟩) g₁₀.sx)
  clear g₁₀
  have V₁₀ := y₉.V.grow kg₁₀
  refine V₁₀.sx2 (by decide) fun s₁₂ m₁₂ x₁₂ V₁₂ ms mn hm kL => ?_
  exact wpAny_execs_nil (wpAny_execs_nil (h s₁₂ _ _ (i + 1) (x₁₀.trans x₁₂) ⟨(y₉.C.grow kg₁₀).loc V₁₀ nL3 hL (y.off L (List.mem_cons_self ..)) kL, V₁₂, (hm _ (by decide) (by decide)).trans y.node, ⟨_, mn⟩, ⟨_, ms⟩, y.off⟩ (hm _ (by decide) (by decide)) rfl fun b o hb e => kL b o hb (kg₁₀ b o (kg₉ b o e))))
theorem lng_more {i : Nat} {u : Tok} {Q : Flow → Shared → Prop} {c : Nat} (hA : Ok A 879 880) (W : WF S) (z : Sz n S) (hn : n ≤ 100000) (hg : gone S [] path = (S, true)) (nL3 : 303 ≤ L) (hL : h₀.get? L = none) (y : LgAt w h₀ S α₀ δ₀ n [L, I] (eLng L) (path ++ [c]) a b s.heap α δ x d m) (hmk : m "k" = some (.int (i : Nat) u))
  (h0 : kidsOf S (path ++ [c]) = [] → ∀ s', Sx s s' → LgAt w h₀ S α₀ δ₀ n [L, I] (eLng L) (path ++ [c]) a b s'.heap α δ x d m → Q .brk s')
  (h : kidsOf S (path ++ [c]) ≠ [] → gone S [] (path ++ [c]) = (S, true) → ∀ s' m' a' b', Sx s s' → LgAt w h₀ S α₀ δ₀ n [L, I] (eLng L) (path ++ [c]) a' b' s'.heap α δ x d m' → m' "text" = m "text" → (a', b') = (if endv S (path ++ [c]) = 0 then (a, b) else (endv S (path ++ [c]), i + 1)) → (∀ b o, b ≠ L → s.heap.get? b = some o → s'.heap.get? b = some o) → Q .next s') : wpAny (Md w) A (execs lngMore (eLng L)) Q E s := by
 obtain ⟨kvs, hnode, hkl, hstay, hend⟩ := y.C.kids W hg
 have hki : kvs.length ≤ sizeLine := by
  have := kids_len z (path ++ [c])
  rw [hkl, sizeLine_eq]
  lia
 refine wpAny_execs_cons (wpAny_If (wpAny_isTrue_Compare1 (ev_Call (blt (v := .builtin "len") y.C.T.bs (cw_builtin (y.V.rd (v := .ref x) (node_len y.C.T.bs hnode hki fun t' tk' => wpAny_Constant_int (eq_int (wpAny_truthy_bool ?_))) y.node))))))
 rw [hkl]
 by_cases hk0 : kidsOf S (path ++ [c]) = []
 ·rw [hk0]
  exact wpAny_execs_cons (wpAny_Break (h0 hk0 _ ⟨rfl, rfl, rfl⟩ (y.grow fun _ _ e => e)))
 ·rw [if_neg (by
   have : (kidsOf S (path ++ [c])).length ≠ 0 := fun e => hk0 (List.length_eq_zero_iff.mp e)
   simp only [beq_iff_eq]
   lia)]
  refine wpAny_execs_nil ?_
  exact lng_end hA W hg nL3 hL (y.grow fun _ _ e => e) hmk fun s' m' a' b' x' y' mt e k => h hk0 (hstay hk0) s' m' a' b' (Sx.trans (by exact ⟨rfl, rfl, rfl⟩) x') y' mt e k
inductive LgI (w : World) (s₀ : Shared) (S : St) (α₀ δ₀ : Path → Nat) (n : Nat) (path : Path) (t : Tok) (L I i : Nat) (s' : Shared) : Prop
 | mk (α δ : Path → Nat) (x d : Nat) (m : Str → Option Value) (a : Int) (b : Nat) (hx : Sx s₀ s') (y : LgAt w s₀.heap S α₀ δ₀ (n + i) [L, I] (eLng L) (path.take i) a b s'.heap α δ x d m) (mt : m "text" = some (.str (toS path) t)) (g : gone S [] (path.take i) = (S, true))
  (hw : wayL S [] path = wayL S (path.take i) (path.drop i)) (hl : lng S [] path (0, 0) = lng S (path.take i) (path.drop i) (a, b)) : LgI w s₀ S α₀ δ₀ n path t L I i s'
inductive LgE (w : World) (s₀ : Shared) (S : St) (α₀ δ₀ : Path → Nat) (n : Nat) (path : Path) (L I : Nat) (s' : Shared) : Prop
 | mk (α δ : Path → Nat) (x d : Nat) (m : Str → Option Value) (hx : Sx s₀ s') (y : LgAt w s₀.heap S α₀ δ₀ (n + path.length) [L, I] (eLng L) (wayL S [] path) (lng S [] path (0, 0)).1 (lng S [] path (0, 0)).2 s'.heap α δ x d m) : LgE w s₀ S α₀ δ₀ n path L I s'
theorem LgAt.le {k : Nat} {offs : List Nat} {env : Env} {h : Heap} (y : LgAt w h₀ S α₀ δ₀ n offs env path a b h α δ x d m) (hk : n ≤ k) : LgAt w h₀ S α₀ δ₀ k offs env path a b h α δ x d m := ⟨y.C.le hk, y.V, y.node, y.number, y.size, y.off⟩
theorem lng_step {s₀ : Shared} {i : Nat} {v : Value} {G : Flow → Shared → Prop} {tg : Expr} {p1 : Pos} (tge : tg = .Name "k" p1) (hA : Ok A 879 880) (W : WF S) (z : Sz n S) (hn : n + path.length ≤ 100000) (nL3 : 303 ≤ L) (hLI : L < I) (fL : s₀.heap.get? L = none) (hi : i < path.length) (hv : ∃ u, v = .int ((0 : Int) + (i : Int) * 1) u) (J : LgI w s₀ S α₀ δ₀ n path t L I i s)
  (hSt : IsRangeIter s.heap I (0 + ((i + 1 : Nat) : Int) * 1) ((path.length : Int) - ((i + 1 : Nat) : Int)) 1)
  (g1 : ∀ s', LgI w s₀ S α₀ δ₀ n path t L I (i + 1) s' → IsRangeIter s'.heap I (0 + ((i + 1 : Nat) : Int) * 1) ((path.length : Int) - ((i + 1 : Nat) : Int)) 1 → G .next s') (g0 : ∀ s', LgE w s₀ S α₀ δ₀ n path L I s' → G .brk s') :
  wpAny (Md w) A (letOwnedTupleGo tg (.ref I) v) (fun _ s₁ => wpAny (Md w) A (assign tg (eLng L) v) (fun _ s₂ => wpAny (Md w) A (execs lngBody (eLng L)) G E s₂) E s₁) E s := by
 subst tge
 obtain ⟨u, rfl⟩ := hv
 obtain ⟨α, δ, x, d, m, a, b, hx, y, hmt, hg, hw, hl⟩ := J
 refine wpAny_of_eq (a := ()) (by rfl) ?_
 rw [show (0 : Int) + (i : Int) * 1 = i from by lia]
 refine wpAny_assign_Name (y.V.sxl (x := "k") fun s₁ x₁ V₁ k₁ => ?_)
 have y₁ := y.loc (List.mem_cons_self ..) nL3 fL k₁ V₁ (set_ne (by decide)) (set_ne (by decide)) (set_ne (by decide))
 have mt₁ : set m "k" (.int i u) "text" = some (.str (toS path) t) := (set_ne (by decide)).trans hmt
 have mk₁ : set m "k" (.int i u) "k" = some (.int i u) := set_self
 have hSt₁ := k₁ I _ (Nat.ne_of_gt hLI) hSt
 have hx₁ := hx.trans x₁
 generalize set m "k" (.int i u) = m₁ at *
 clear hmt hSt k₁ V₁ y x₁ hx
 obtain ⟨kvs, hnode⟩ := y₁.C.node
 obtain ⟨c, hc⟩ : ∃ c, path[i]? = some c := ⟨_, List.getElem?_eq_getElem hi⟩
 have htake : path.take (i + 1) = path.take i ++ [c] := by rw [List.take_add_one, hc]; rfl
 have hti : (path.take i).length + 1 = i + 1 := by rw [List.length_take, Nat.min_eq_left (Nat.le_of_lt hi)]
 rw [show path.drop i = c :: path.drop (i + 1) from by rw [List.drop_eq_getElem_cons hi, (List.getElem?_eq_some_iff.mp hc).2]] at hw hl
 refine wpAny_execs_cons (wpAny_Assign_Name (ev_Sub (y₁.V.rd (v := .ref x) (ev_Sub (y₁.V.rd (v := .str (toS path) t) (y₁.V.rd (v := .int i u) (gip_str ⟨rfl, getItem_str (c := c) ?_ ?_ (gip_node y₁.C.T.bs hnode ⟨rfl, ?_⟩)⟩) mk₁) mt₁)) y₁.node)))
 ·have h1 : ¬ ((i : Int) < -2 ^ 63) := by lia
  have h2 : ¬ ((i : Int) ≥ 2 ^ 63) := by lia
  simp only [h1, h2, decide_false, Bool.or_false]
 ·rw [show (toS path).length = path.length from by simp [toS, Str.length], seqIndex_nat hi]
  simpa [toS] using hc
 refine came_step (c := c) hA (by rw [sizeLine_eq]; lia) y₁.C fun h₂ tk₂ α₂ δ₂ x₂ d₂ C₂ k₂ => ?_
 have oL := y₁.off _ (List.mem_cons_self ..)
 have oI := y₁.off I (List.mem_cons_of_mem _ (List.mem_cons_self ..))
 have kL := fun o ho => k₂ L o (Nat.ne_of_gt (Nat.lt_of_lt_of_le (by decide) nL3)) ho oL.1 oL.2.1 oL.2.2
 have kI := k₂ I _ (Nat.ne_of_gt (Nat.lt_of_lt_of_le (by decide) (Nat.le_trans nL3 (Nat.le_of_lt hLI)))) hSt₁ oI.1 oI.2.1 oI.2.2
 have V₂ : Vars h₂ (eLng L) m₁ := y₁.V.keep fun b o hb e => by
  have := own_lng hb
  subst this
  exact (kL o e).1
 have oL₂ := let ⟨_, ho⟩ := y₁.V.own (.inl rfl); (kL _ ho).2
 obtain ⟨u1, hn1⟩ := y₁.number
 obtain ⟨u2, hn2⟩ := y₁.size
 clear hnode k₂ kL oL oI y₁ hc
 refine V₂.sxl (x := "node") fun s₃ x₃ V₃ k₃ => ?_
 have y₃ : LgAt w s₀.heap S α₀ δ₀ (n + i + 1) [L, I] (eLng L) (path.take i ++ [c]) a b s₃.heap α₂ δ₂ x₂ d₂ _ := ⟨C₂.loc V₂ nL3 fL oL₂ k₃, V₃, set_self, ⟨u1, (set_ne (by decide)).trans hn1⟩, ⟨u2, (set_ne (by decide)).trans hn2⟩, fun b hb => by
  rcases List.mem_cons.mp hb with rfl | hb
  ·exact oL₂
  ·rcases List.mem_singleton.mp hb with rfl
   exact kI.2⟩
 have mt₃ : set m₁ "node" (.ref x₂) "text" = some (.str (toS path) t) := (set_ne (by decide)).trans mt₁
 have mk₃ : set m₁ "node" (.ref x₂) "k" = some (.int i u) := (set_ne (by decide)).trans mk₁
 have hSt₃ := k₃ _ _ (Nat.ne_of_gt hLI) kI.1
 have hx₃ : Sx s₀ s₃ := (hx₁.trans .of).trans x₃
 clear kI k₃ V₃ V₂ C₂ oL₂ mt₁ mk₁ hn1 hn2 hSt₁ x₃ hx₁
 generalize set m₁ "node" (.ref x₂) = m₃ at *
 refine lng_more hA W (z.le (by lia)) (by lia) hg nL3 fL y₃ mk₃ (fun hk0 s' x' y' => ?_) fun hk0 hg' s' m' a' b' x' y' mt' e k' => ?_
 ·refine g0 s' ⟨α₂, δ₂, x₂, d₂, m₃, hx₃.trans x', ?_⟩
  rw [show wayL S [] path = path.take i ++ [c] from hw.trans (if_pos hk0), show lng S [] path (0, 0) = (a, b) from hl.trans (if_pos hk0)]
  exact y'.le (by lia)
 ·refine g1 s' ⟨α₂, δ₂, x₂, d₂, m', a', b', hx₃.trans x', ?_, mt'.trans mt₃, ?_, ?_, ?_⟩ (k' _ _ (Nat.ne_of_gt hLI) hSt₃)
  ·rw [htake]; exact y'
  ·rw [htake]; exact hg'
  ·rw [htake]; exact hw.trans (if_neg hk0)
  ·have e' : (a', b') = (if endv S (path.take i ++ [c]) = 0 then (a, b) else (endv S (path.take i ++ [c]), (path.take i).length + 1)) := by rw [hti]; exact e
   rw [htake, e']; exact hl.trans (if_neg hk0)
theorem call_longest {Q : Value → Shared → Prop} (hA : Ok A 870 870) (T : Tree w s.heap S α δ) (W : WF S) (z : Sz n S) (hn : n + path.length ≤ 100000)
  (h : ∀ h' tk α' δ' x d t1 u1 u2, Came w s.heap S α δ (n + path.length) (wayL S [] path) h' α' δ' x d → h'.get? t1 = some (tupO [.int (lng S [] path (0, 0)).1 u1, .int (lng S [] path (0, 0)).2 u2]) → s.heap.objs.size ≤ t1 → Q (.ref t1) { s with heap := h', toks := tk }) :
  wpAny (Md w) A (call (.ref 263) [.ref (α []), .str (toS path) t]) Q E s := by
 refine enter (fd := fdL 67 "_law_longest" 262) (o := o263p6 w.params) (binds := [("node", .ref (α [])), ("text", .str (toS path) t)]) T.bs hA (by decide) fun h₁ tk E' V hk hown => ?_
 have hA' : Ok (A.deeper (eLng s.heap.objs.size)) 879 880 := (hA.deeper (eLng s.heap.objs.size)).le (by decide) (by decide)
 rw [show callEnvC (fdL 67 "_law_longest" 262) s.heap.objs.size 263 = eLng s.heap.objs.size from rfl] at V hown ⊢
 generalize A.deeper (eLng s.heap.objs.size) = A' at hA' ⊢
 obtain ⟨m₁, hmn, hmt, V⟩ : ∃ m₁, m₁ "node" = some (.ref (α [])) ∧ m₁ "text" = some (.str (toS path) t) ∧ Vars h₁ (eLng s.heap.objs.size) m₁ := ⟨_, by rfl, by rfl, V⟩
 have fresh : ∀ b, s.heap.objs.size ≤ b → s.heap.get? b = none := fun b hb => by
  cases e : s.heap.get? b with
  | none => rfl
  | some o => exact absurd (Heap.lt_size e) (Nat.not_lt.mpr hb)
 refine wpAny_execs_cons (Assign_Tuple (ev_Tuple (wpAny_Constant_int (wpAny_Constant_int (asgx hA'.h (Heap.get?_push_size _ rfl) rfl rfl fun s₂ g₂ => ?_)))))
 have kg₂ : ∀ b o, h₁.get? b = some o → s₂.heap.get? b = some o := fun b o e => g₂.keep b o (Heap.get?_push_of_some _ e)
 have x₂ : Sx s s₂ := Sx.trans (by exact ⟨rfl, rfl, rfl⟩) g₂.sx
 clear g₂
 have hlen : (toS path).length = path.length := by simp [toS, Str.length]
 refine (V.grow kg₂).sx2 (by decide) fun s₄ m₄ x₄ V₄ mn ms hm k₄ => ?_
 have kL : ∀ b o, s.heap.get? b = some o → s₄.heap.get? b = some o := fun b o e => k₄ b o (Nat.ne_of_lt (Heap.lt_size e)) (kg₂ b o (hk b o e))
 have x₄' : Sx s s₄ := x₂.trans x₄
 have mt₄ : m₄ "text" = some (.str (toS path) t) := (hm _ (by decide) (by decide)).trans hmt
 clear k₄ x₂ x₄ kg₂ V hown hk
 refine wpAny_execs_cons (wpAny_For (ev_Call (blt (v := .type "range") (T.bs.grow kL) (cw_type (ev_Call (blt (v := .builtin "len") (T.bs.grow kL) (cw_builtin (V₄.rd (v := .str (toS path) t) (len_str (by rw [hlen]; lia) ?_) mt₄)))) ))))
 rw [hlen]
 refine range_iter (by lia) fun I s₅ g₅ hI hit => ?_
 have kS : ∀ b o, s.heap.get? b = some o → s₅.heap.get? b = some o := fun b o e => g₅.keep b o (kL b o e)
 have hI : s₄.heap.objs.size ≤ I := hI
 have hLI : s.heap.objs.size < I := Nat.lt_of_lt_of_le (let ⟨_, ho⟩ := V₄.own (.inl rfl); Heap.lt_size ho) hI
 have nL3 : 303 ≤ s.heap.objs.size := T.bs.n
 have hfI := fresh I (Nat.le_of_lt hLI)
 refine for_walks_af (Walks.range hA'.h I 0 1 path.length) (LgE w s S α δ n path s.heap.objs.size I) (LgI w s S α δ n path t s.heap.objs.size I)
  ⟨α, δ, α [], δ [], _, 0, 0, x₄'.trans (Sx.trans (by exact ⟨rfl, rfl, rfl⟩) g₅.sx), ⟨(Came.start T W z).grow kS, V₄.grow g₅.keep, (hm _ (by decide) (by decide)).trans hmn, ⟨_, mn⟩, ⟨_, ms⟩, fun b hb => ?_⟩, mt₄, rfl, rfl, rfl⟩ (by simpa using hit) ?_ (fun i v s' E'' hi hv J hSt => lng_step (G := fun f s₃ => _) rfl hA' W z hn nL3 hLI (fresh _ (Nat.le_refl _)) hi hv J hSt (fun s₃ J' St' => ⟨J', St'⟩) fun s₃ e => e) ?_ ?_
 ·have hb : s.heap.objs.size ≤ b := by
   rcases List.mem_cons.mp hb with rfl | hb
   ·exact Nat.le_refl _
   ·rcases List.mem_singleton.mp hb with rfl
    exact Nat.le_of_lt hLI
  exact ⟨T.freshAway (fresh b hb), T.freshAway (fresh b hb) [] W.root⟩
 ·rintro i s' h' tk' ⟨α', δ', x, d, m, a, b, hx, y, hmt, hg, hw, hl⟩ hSt hB
  obtain ⟨oi, hoi, hno⟩ := rangeIter_nd3 hSt
  have kB : ∀ y oy, y ≠ I → s'.heap.get? y = some oy → h'.get? y = some oy := fun y oy hy e => hB y oy (by simpa using hy) e
  exact ⟨α', δ', x, d, m, a, b, hx.trans .of, y.upd (by simp) (Nat.le_trans nL3 (Nat.le_of_lt hLI)) hoi hno hfI kB (y.V.keep fun b o hb e => kB b o (by rw [own_lng hb]; exact Nat.ne_of_lt hLI) e) rfl rfl rfl, hmt, hg, hw, hl⟩
 ·rintro s' ⟨α', δ', x, d, m, a, b, hx, y, hmt, hg, hw, hl⟩
  rw [List.take_of_length_le (Nat.le_refl _), List.drop_of_length_le (Nat.le_refl _)] at hw hl
  rw [List.take_of_length_le (Nat.le_refl _)] at y
  refine ⟨α', δ', x, d, m, hx, ?_⟩
  rw [show wayL S [] path = path from hw, show lng S [] path (0, 0) = (a, b) from hl]
  exact y
 ·rintro s' ⟨α', δ', x, d, m, hx, y⟩
  obtain ⟨u1, hn1⟩ := y.number
  obtain ⟨u2, hn2⟩ := y.size
  refine wpAny_execs_cons (wpAny_Return_some (ev_Tuple (y.V.nm (y.V.nm ?_ hn2) hn1)))
  show Q _ _
  rw [show ({ s' with heap := s'.heap.push (tupO [.int (lng S [] path (0, 0)).1 u1, .int (lng S [] path (0, 0)).2 u2]) } : Shared) = { s with heap := s'.heap.push (tupO [.int (lng S [] path (0, 0)).1 u1, .int (lng S [] path (0, 0)).2 u2]), toks := s'.toks } from by rw [hx.eq]]
  obtain ⟨o, ho⟩ := y.V.own (.inl rfl)
  exact h _ _ α' δ' x d _ u1 u2 (y.C.grow fun b o e => Heap.get?_push_of_some _ e) (Heap.get?_push_size _ rfl) (Nat.le_of_lt (Heap.lt_size ho))
end
end
section
noncomputable abbrev pairO (n v : Value) (d : Nat) : Obj := ⟨.ref 203, some d, .seq #[n, v], #[]⟩
def MadePair (n v : Value) (s : Shared) (x : Value) (s' : Shared) : Prop := ∃ a d h' tk news, x = .ref a ∧ s' = { s with heap := h', toks := tk } ∧ (h'.get? a = some (pairO n v d) ∧ s.heap.get? a = none) ∧ (h'.get? d = some ⟨.type "dict", none, .dict #[] 0, #[]⟩ ∧ s.heap.get? d = none) ∧ PySem.W.X.Mem s.heap h' [] news
section
local macro_rules | `(tactic| x_close) => `(tactic| (exact ⟨_, _, _, _, _, rfl, rfl, Mem.both (by assumption) 0 rfl, Mem.both (by assumption) 1 rfl, by assumption⟩))
theorem tuple_new0 {w : World} {s : Shared} {E : Value → Shared → Prop} {a : Nat} {n v : Value} (KX : (K w.params).In s.heap) (ha : s.heap.get? a = some ⟨.type "tuple", none, .seq #[n, v], #[]⟩) : wpAny (model pw w) (AR 895 1000) (call (.builtin "tuple.__new__") [.ref 203, .ref a]) (MadePair n v s) E s := by
 x_run
end
section
def GotIt (r : Value) (s : Shared) (v : Value) (s' : Shared) : Prop := ∃ h' tk news, v = r ∧ s' = { s with heap := h', toks := tk } ∧ PySem.W.X.Mem s.heap h' [] news
local macro_rules | `(tactic| x_close) => `(tactic| (exact ⟨_, _, _, rfl, rfl, by first | assumption | exact PySem.W.X.Mem.start _⟩))
theorem type_pair {w : World} {s : Shared} {E : Value → Shared → Prop} {a d : Nat} {n v : Value} (KX : (K w.params).In s.heap) (ha : s.heap.get? a = some ⟨.ref 203, some d, .seq #[n, v], #[]⟩) : wpAny (model pw w) (AR 890 990) (call (.type "type") [.ref a]) (GotIt (.ref 203) s) E s := by
 x_run
theorem sub_pair {w : World} {s : Shared} {E : Value → Shared → Prop} (KX : (K w.params).In s.heap) : wpAny (model pw w) (AR 890 990) (call (.builtin "issubclass") [.ref 203, .type "tuple"]) (GotIt (.bool true) s) E s := by
 x_run
theorem oinit {w : World} {s : Shared} {E : Value → Shared → Prop} {a d : Nat} {n v : Value} (KX : (K w.params).In s.heap) (ha : s.heap.get? a = some ⟨.ref 203, some d, .seq #[n, v], #[]⟩) : wpAny (model pw w) (AR 890 990) (call (.builtin "object.__init__") [.ref a, n, v]) (GotIt .none s) E s := by
 x_run
end
end
section
def PairAt (h : Heap) (a d : Nat) (n v : Value) : Prop := h.get? a = some (pairO n v d) ∧ h.get? d = some ⟨.type "dict", none, .dict #[] 0, #[]⟩
section
variable {w : World} {A : Around} {E : Value → Shared → Prop} {s : Shared} {a d : Nat} {n v : Value}
theorem PairAt.inst {h : Heap} (p : PairAt h a d n v) : InstAt h a (pairO n v d) 203 (some ⟨.type "dict", none, .dict #[] 0, #[]⟩) := ⟨p.1, rfl, rfl, p.2⟩
theorem p_sub (P : Params) : subIn (K P) (.ref 203) (.type "tuple") = some true := by kernel_rfl
theorem pair_isa {M : Model} {h : Heap} (B : Bs w h) (p : PairAt h a d n v) {t : Value} {r : Bool} (e : subIn (K w.params) (.ref 203) t = some r) : Looks M h (isInstance (.ref a) t) r := p.inst.type.andThen (looks_subIn B.k e)
theorem pair_call {i n' : String} {b : Builtin} {rest : List Value} {Q : Value → Shared → Prop} (B : Bs w s.heap) (p : PairAt s.heap a d n v) (hk : builtinKind i = some .slot ∨ builtinKind i = some .method)
  (hs : splitId i = some ("tuple", n')) (hp : plainId i = true) (hb : entryFor table i = some b) (ha : argsOk i ⟨.ref a :: rest, []⟩)
  (h : wpAny (Md w) A.in1 (b ⟨.ref a :: rest, []⟩) (fun fin s' => ∃ v, fin = .done (.ret v) ∧ Q v s') E s) : wpAny (Md w) A (call (.builtin i) (.ref a :: rest)) Q E s := by
 refine wpAny_call (codeAny_call_builtin hp hb (chk hk hs (pair_isa B p (p_sub _)) ha (wpAny_mono h (fun fin s' h' => ?_) fun _ _ h' => h')))
 obtain ⟨v, rfl, hv⟩ := h'; exact hv
theorem pair_item {k : Int} {t : Tok} {x : Value} {Q : Value → Shared → Prop} (B : Bs w s.heap) (p : PairAt s.heap a d n v) (hr : (decide (k < -(2 ^ 63 : Int)) || decide (k ≥ 2 ^ 63)) = false) (hx : (seqIndex? k 2).bind ((#[n, v] : Array Value)[·]?) = some x) (h : Q x s) :
  wpAny (Md w) A (call (.builtin "tuple.__getitem__") [.ref a, .int k t]) Q E s := by
 refine pair_call (n' := "__getitem__") B p (by first | exact .inl (by decide +kernel) | exact .inr (by decide +kernel)) (by decide +kernel) F.slot_tuple_getitem.plain F.entry_tuple_getitem (F.args_tuple_getitem_2 _ _) ?_
 unfold Builtin.«tuple.__getitem__»
 refine wpAny_bind (m := slotArgs _ _ _) (wpAny_of_eq (a := (.ref a, [.int k t])) rfl ?_)
 show wpAny _ _ (Builtin.Tuple.tupleItemsOf (.ref a) >>= _) _ _ _
 unfold Builtin.Tuple.tupleItemsOf
 refine wpAny_bind (wpAny_bind (wpAny_seqItems p.1 rfl (wpAny_pure ?_)))
 refine wpAny_bind (wpAny_typeOf (typeIs_int s k t) ?_)
 rw [if_neg (by decide)]
 refine wpAny_bind (wpAny_specialOf (T := "int") (typeIs_int s k t) int_index ?_)
 rw [if_neg (by decide)]
 refine wpAny_bind (wpAny_of_eq (t := asIndex (.int k t)) (a := k) rfl ?_)
 rw [hr, if_neg (by decide)]
 have : (seqIndex? k (#[n, v] : Array Value).size).bind ((#[n, v] : Array Value)[·]?) = some x := hx
 rw [this]
 exact wpAny_pure ⟨_, rfl, h⟩
theorem p_ga (P : Params) : findIn (K P) (.ref 203) "__getattribute__" = some (some (.builtin "tuple.__getattribute__")) := by kernel_rfl
theorem p_gattr (P : Params) : findIn (K P) (.ref 203) "__getattr__" = some none := by kernel_rfl
theorem bs_tga (v : Value) : bindSpecial (.builtin "tuple.__getattribute__") v = pure (.builtin "tuple.__getattribute__", [v]) := by kernel_rfl
theorem entry_tga : entryFor table "tuple.__getattribute__" = some Builtin.«object.__getattribute__» :=
 entryFor_alias (id' := "object.__getattribute__") (by kernel_rfl) (by first | rfl | decide +kernel | (unfold String.splitOn; simp +decide [String.splitOnAux])) (by decide +kernel) (by kernel_rfl)
theorem args_tga (a b : Value) : argsOk "tuple.__getattribute__" ⟨[a, b], []⟩ := by unfold argsOk; kernel_rfl
theorem pair_getAttr {name : Str} {D : Addr} {expr : Bool} {Q : Value → Shared → Prop} (B : Bs w s.heap) (p : PairAt s.heap a d n v) (hf : findObj (K w.params) 203 (some ⟨.type "dict", none, .dict #[] 0, #[]⟩) name = some (.bind (.ref 61) (.ref D)))
  (h : wpAny (Md w) A.in1 (call (.ref 61) [.ref D, .ref a, .ref 203]) (fun r s' => handedOut r = pure r ∧ Q r s') (fun _ _ => False) { s with toks := s.toks + 1 }) : wpAny (Md w) A (getAttr (.ref a) name expr) Q E s := by
 obtain ⟨hh, g, dd, tk, os⟩ := s
 have L0 : Looks (Md w) hh (typeOf (.ref a)) (.ref 203) := p.inst.type
 have L1 := looks_findIn (M := Md w) B.k (p_ga w.params)
 have L2 := looks_findIn (M := Md w) B.k (p_gattr w.params)
 unfold getAttr getAttrBy
 refine wpAny_bind (wpAny_mkText (wpAny_holding (wpAny_bind (L0.at (wpAny_bind (L1.at ?_))))))
 show wpAny _ _ (getAttrByItsOwn _ _ _ _ _ _) _ _ _
 unfold getAttrByItsOwn hookBefore
 refine wpAny_bind (L2.at ?_)
 show wpAny _ _ ((holding [] (callGetattribute (.ref a) (.str name tk) (.builtin "tuple.__getattribute__") expr)).attempt >>= _) _ _ _
 refine wpAny_bind (wpAny_attempt (wpAny_holding ?_))
 have e : callGetattribute (.ref a) (.str name tk) (.builtin "tuple.__getattribute__") expr = boundAndCalled (.builtin "tuple.__getattribute__") (.ref a) (.str name tk) := by
  unfold callGetattribute
  rw [show (expr && onTheHeap (.builtin "tuple.__getattribute__")) = false from by cases expr <;> rfl]
  rfl
 rw [e]
 unfold boundAndCalled
 rw [bs_tga]
 refine wpAny_bind (wpAny_pure ?_)
 show wpAny _ _ (call (.builtin "tuple.__getattribute__") [.ref a, .str name tk]) _ _ _
 refine pair_call (n' := "__getattribute__") (s := ⟨hh, g, dd, tk + 1, os⟩) B p (by first | exact .inl (by decide +kernel) | exact .inr (by decide +kernel)) (by decide +kernel) (by decide +kernel) entry_tga (args_tga _ _) ?_
 unfold Builtin.«object.__getattribute__»
 refine wpAny_bind (m := slotArgs _ _ _) (wpAny_of_eq (a := (.ref a, [.str name tk])) rfl ?_)
 have L3 := looks_find (M := Md w) B.k p.inst hf
 refine wpAny_bind (wpAny_of_eq (a := name) rfl ?_)
 refine wpAny_bind (L0.at (wpAny_bind (L3.at ?_)))
 show wpAny _ _ (Builtin.ObjectAttr.bindTo (.ref 61) (.ref D) (.ref a) (.ref 203)) _ _ _
 unfold Builtin.ObjectAttr.bindTo
 refine wpAny_bind (wpAny_holding (wpAny_mono h (fun r s' hr => wpAny_pure ⟨r, rfl, ?_⟩) fun _ _ z => z.elim))
 show wpAny _ _ (handedOut r) _ _ _
 rw [hr.1]
 exact wpAny_pure hr.2
theorem type_method {T : String} {name : Str} {pl : Sem Bool} {v : Value} {Q : Value × List Value → Shared → Prop} (B : Bs w s.heap) (ht : typeOf (.type T) = pure (.type "type")) (hs : Manifest.isStub T = false)
  (e : findCls (K w.params) (.type T) (.type "type") name = some (.val v)) (hh : handedIn v = true) (h : Q (v, []) { s with toks := s.toks + 1 }) : wpAny (Md w) A (getMethod (.type T) name pl) Q E s := by
 have L0 : Looks (Md w) s.heap (typeOf (.type T)) (.type "type") := Looks.of_pure ht
 have hg : findIn (K w.params) (.type "type") "__getattribute__" = some (some (.builtin "type.__getattribute__")) := type_tga
 have LO : Looks (Md w) s.heap (opaqueClassAbove (.type T)) none := Looks.of_pure (by unfold opaqueClassAbove; dsimp only; rw [hs]; rfl)
 unfold getMethod specialOf
 refine wpAny_bind (wpAny_bind (L0.here ((looks_findIn B.k hg).here ?_)))
 dsimp only
 rw [if_pos canon_tga]
 refine wpAny_bind (wpAny_mono (Q := fun v => Q (v, [])) (E := E) ?_ (fun _ _ z => wpAny_pure z) fun _ _ z => z)
 exact cls_open B.k LO L0 hg (looks_hook B.k (r := none) (by rfl)) (by show subIn (K w.params) _ _ = _; rfl) e (wpAny_pure (by show wpAny _ _ (handedOut v) _ _ _; rw [handedOut_of hh]; exact wpAny_pure h))
end
end
section
section
variable {w : World} {A : Around} {E : Value → Shared → Prop} {s : Shared} {a d : Nat} {n v : Value}
theorem got {t : Sem Value} {r : Value} {Q : Value → Shared → Prop} {d u : Nat} (hA : Ok A d u) (g : wpAny (Md w) (AR d u) t (GotIt r s) E s) (h : ∀ s', Grow s s' → Q r s') : wpAny (Md w) A t Q E s :=
 wpAny_mono (weaken hA.h hA.d hA.u g) (fun v s' hv => by obtain ⟨h', tk, news, rfl, rfl, D'⟩ := hv; exact h _ (Grow.of (Mem.grow D'))) fun _ _ z => z
theorem tg_ga (P : Params) : findIn (K P) (.ref 78) "__getattribute__" = some (some (.builtin "object.__getattribute__")) := by kernel_rfl
theorem tg_hd (P : Params) : hasDictIn (K P) 78 = true := by kernel_rfl
theorem tg_idx (P : Params) : findIn (K P) (.ref 78) "index" = some none := by kernel_rfl
theorem tg_ng (P : Params) : noGet (K P) none = true := by kernel_rfl
theorem tup_gi (P : Params) : findCls (K P) (.type "tuple") (.type "type") "__getitem__" = some (.val (.builtin "tuple.__getitem__")) := by kernel_rfl
theorem tup_ty : typeOf (.type "tuple") = pure (.type "type") := by rfl
theorem tup_stub : Manifest.isStub "tuple" = false := by decide +kernel
theorem tup_h : handedIn (.builtin "tuple.__getitem__") = true := by decide +kernel
noncomputable def fd61 : FuncData := fnD (clsS 3 1) "_tuplegetter.__get__" 3 [] (.ref 54) .none .none (.str "cpy313.importlib.metadata._collections" 286) none (.ref 60) .none 0
noncomputable def e61 (L : Nat) : Env := callEnv fd61 L 61
set_option maxHeartbeats 4000000 in
theorem get61 {D : Addr} {oD od : Obj} {dd : Addr} {i : Int} {t : Tok} {x : Value} {Q : Value → Shared → Prop} (B : Bs w s.heap) (hA : Ok A 880 900) (p : PairAt s.heap a d n v) (eD : (K w.params).lookup D = some oD) (hD : oD = ⟨.ref 78, some dd, .plain, #[]⟩) (ed : (K w.params).lookup dd = some od)
  (hl : lookIn "index" od = some (some (.int i t))) (hr : (decide (i < -(2 ^ 63 : Int)) || decide (i ≥ 2 ^ 63)) = false) (hx : (seqIndex? i 2).bind ((#[n, v] : Array Value)[·]?) = some x) (h : ∀ s', Grow s s' → Q x s') :
  wpAny (Md w) A (call (.ref 61) [.ref D, .ref a, .ref 203]) Q E s := by
 refine wpAny_call (codeAny_call_def (fd := fd61) (binds := [("self", .ref D), ("obj", .ref a), ("objtype", .ref 203)]) (by have := hA.d; show A.depth < 1000; omega) (B.k 61 (o61p0 w.params) (by kernel_rfl)) rfl B.nolimit (codeRec_of B.k (by kernel_rfl)) rfl ?_ (by decide +kernel)
  (by
    intro x hx; rcases List.mem_cons.mp hx with rfl | hx; · rfl
    rcases List.mem_cons.mp hx with rfl | hx; · rfl
    rcases List.mem_cons.mp hx with rfl | hx; · rfl
    cases hx) fun h₀ hns hk => ?_)
 ·exact .of_defaults (fd := fd61) (T := 54) (k := ?_) rfl (B.k 54 (o54p0 w.params) (by kernel_rfl)) rfl (by rfl) (by rfl)
 have B₁ := B.grow hk
 have p₁ : PairAt h₀ a d n v := ⟨hk _ _ p.1, hk _ _ p.2⟩
 have V : Vars h₀ (e61 s.heap.objs.size) (fun x => ([("self", .ref D), ("obj", .ref a), ("objtype", .ref 203)] : List (Str × Value)).reverse.lookup x) := by
  have hcl : ∀ y c, (e61 s.heap.objs.size).cells.lookup y = some c → False := by
   intro y c e
   have e' : List.lookup y ([] : List (Str × Addr)) = some c := e
   cases e'
  exact ⟨rfl, ⟨_, hns, fun y hy => rfl⟩, fun y c e => (hcl y c e).elim, fun y z c ey ez => (hcl _ _ ey).elim, fun y c e => (hcl _ _ e).elim, fun y c e => (hcl _ _ e).elim⟩
 have hA' : Ok (A.deeper (e61 s.heap.objs.size)) 881 903 := hA.deeper _
 rw [show callEnv fd61 s.heap.objs.size 61 = e61 s.heap.objs.size from rfl]
 refine wpAny_execs_cons (wpAny_If (wpAny_isTrue_Compare1 (V.nm (v := .ref a) (wpAny_Constant_none (is_none (wpAny_truthy_bool ?_))) (by rfl))))
 rw [if_neg (show ¬ ((Value.ref a == Value.none) = true) from Bool.false_ne_true)]
 refine wpAny_execs_nil (wpAny_execs_cons (wpAny_If (isTrue_not (isTrue_plain (ev_Call (blt (v := .builtin "issubclass") B₁ (cw_builtin (ev_Call (blt (v := .type "type") B₁ (cw_type (V.nm (v := .ref a) ?_ (by rfl))))))))))))
 refine got (hA'.le (by decide) (by decide)) (type_pair B₁.k p₁.1) fun s₂ g₂ => ?_
 have k₂ : ∀ b o, h₀.get? b = some o → s₂.heap.get? b = some o := g₂.keep
 have x₂ : Sx s s₂ := Sx.trans (by exact ⟨rfl, rfl, rfl⟩) g₂.sx
 clear g₂
 refine blt (v := .type "tuple") (B₁.grow k₂) ?_
 refine got (hA'.le (by decide) (by decide)) (sub_pair (B₁.grow k₂).k) fun s₃ g₃ => wpAny_truthy_bool ?_
 have k₃ : ∀ b o, h₀.get? b = some o → s₃.heap.get? b = some o := fun b o e => g₃.keep b o (k₂ b o e)
 have x₃ : Sx s s₃ := x₂.trans g₃.sx
 clear g₃
 have B₃ := B₁.grow k₃
 have V₃ := V.grow k₃
 rw [if_neg (by decide)]
 refine wpAny_execs_nil (wpAny_execs_cons (wpAny_Return_some (ev_Method (blt (v := .type "tuple") B₃ fun pl => ?_))))
 refine @type_method w _ _ s₃ "tuple" "__getitem__" pl (.builtin "tuple.__getitem__") _ B₃ tup_ty tup_stub (tup_gi _) tup_h ?_
 refine cw_builtin ?_
 refine V₃.rd (v := .ref a) ?_ (by rfl)
 refine Attribute_Name_ ?_
 refine V₃.rd (v := .ref D) ?_ (by rfl)
 subst hD
 have hf : findObj (K w.params) 78 (some od) "index" = some (.value (.int i t)) := findObj_own (tg_hd _) (tg_idx _) (tg_ng _) hl
 refine get_value B₃.k ⟨B₃.k D _ eD, rfl, rfl, B₃.k dd _ ed⟩ (tg_ga _) hf rfl ?_
 refine pair_item B₃ ⟨k₃ _ _ p₁.1, k₃ _ _ p₁.2⟩ hr hx ?_
 exact h _ (Sx.grow (x₃.trans ⟨rfl, rfl, rfl⟩) fun b o e => k₃ b o (hk b o e))
end
end
section
section
variable {w : World} {A : Around} {E : Value → Shared → Prop} {s : Shared} {n v : Value}
def PairMade (s : Shared) (n v : Value) (x : Value) (s' : Shared) : Prop := ∃ a d, x = .ref a ∧ Grow s s' ∧ PairAt s'.heap a d n v ∧ s.heap.get? a = none ∧ s.heap.get? d = none
theorem tup_nw (P : Params) : findCls (K P) (.type "tuple") (.type "type") "__new__" = some (.val (.builtin "tuple.__new__")) := by kernel_rfl
theorem tup_nh : handedIn (.builtin "tuple.__new__") = true := by decide +kernel
noncomputable def fd130 : FuncData := fnD (clsS 5 4) "Pair.__new__" 3 [] .none .none (.str (docF 5 4) 416) (.str "cpy313.importlib.metadata._collections" 286) none (.ref 129) .none 0
noncomputable def e130 (L : Nat) : Env := callEnvC fd130 L 130
theorem call130 (B : Bs w s.heap) (hA : Ok A 890 990) : wpAny (Md w) A (call (.ref 130) [.ref 203, n, v]) (PairMade s n v) E s := by
 refine enter (fd := fd130) (o := o130p2 w.params) (binds := [("_cls", .ref 203), ("name", n), ("value", v)]) B hA (by decide) fun h₁ tk E' V hk hown => ?_
 have hA' := hA.deeper (e130 s.heap.objs.size)
 rw [show callEnvC fd130 s.heap.objs.size 130 = e130 s.heap.objs.size from rfl] at V ⊢
 have B₁ := B.grow hk
 refine wpAny_execs_cons (wpAny_Expr (Constant_str ?_))
 refine wpAny_execs_cons (wpAny_Return_some (ev_Method (blt (v := .type "tuple") B₁ fun pl => ?_)))
 refine @type_method w _ _ _ "tuple" "__new__" pl (.builtin "tuple.__new__") _ B₁ tup_ty tup_stub (tup_nw _) tup_nh ?_
 refine cw_builtin ?_
 refine V.rd (v := .ref 203) (ev_Tuple (V.rd (v := n) (V.rd (v := v) ?_ (by rfl)) (by rfl))) (by rfl)
 refine wpAny_mono (weaken (d := 895) (u := 1000) hA'.h (Nat.le_trans hA'.d (by decide)) (Nat.le_trans hA'.u (by decide)) (tuple_new0 (a := h₁.objs.size) (n := n) (v := v) (B₁.grow fun b o e => Heap.get?_push_of_some _ e).k (Heap.get?_push_size _ rfl))) (fun x s' hx => ?_) fun _ _ z => z
 obtain ⟨a, d, h', tk', news, rfl, rfl, ⟨ha, fa⟩, ⟨hd, fd⟩, D⟩ := hx
 have kD := Mem.grow D
 have k' : ∀ b o, h₁.get? b = some o → h'.get? b = some o := fun b o e => kD b o (Heap.get?_push_of_some _ e)
 have fr : ∀ z, (h₁.push (tupO [n, v])).get? z = none → s.heap.get? z = none := fun z fz => by
  cases e : s.heap.get? z with
  | none => rfl
  | some o =>
   have := Heap.get?_push_of_some (tupO [n, v]) (hk z o e)
   rw [fz] at this
   cases this
 exact ⟨a, d, rfl, Grow.of fun b o e => k' b o (hk b o e), ⟨ha, hd⟩, fr a fa, fr d fd⟩
theorem p_call (P : Params) : specialIn (K P) (.ref 203) "__call__" = some (some (.builtin "type.__call__")) := by kernel_rfl
theorem p_typ (P : Params) : instIn (K P) (.ref 203) (.type "type") = some true := by kernel_rfl
theorem p_new (P : Params) : findCls (K P) (.ref 203) (.type "type") "__new__" = some (.get (.builtin "staticmethod.__get__") (.ref 181) .none (.ref 203)) := by kernel_rfl
theorem p_reads (P : Params) : readsIn (K P) 203 (.type "type") = true := by kernel_rfl
theorem p_sm (P : Params) : recIn (K P) 181 "staticmethod" = some [.ref 130] := by kernel_rfl
theorem p_self (P : Params) : subIn (K P) (.ref 203) (.ref 203) = some true := by kernel_rfl
theorem p_init (P : Params) : findIn (K P) (.ref 203) "__init__" = some (some (.builtin "object.__init__")) := by kernel_rfl
noncomputable def cd203 : ClassData := clD "Pair" [.ref 180] [.ref 203, .ref 180, .type "tuple", .type "object"] 202 "Pair" true [] []
theorem call203 {Q : Value → Shared → Prop} (B : Bs w s.heap) (hA : Ok A 880 980) (h : ∀ a d s', Grow s s' → PairAt s'.heap a d n v → s.heap.get? a = none → s.heap.get? d = none → Q (.ref a) s') : wpAny (Md w) A (call (.ref 203) [n, v]) Q E s := by
 obtain ⟨hh, g, dd, tk, os⟩ := s
 have hC : hh.get? 203 = some (o203p3 w.params) := B.k 203 _ (by kernel_rfl)
 have call := looks_specialIn (M := Md w) B.k (p_call _)
 have typ := looks_instIn (M := Md w) B.k (p_typ _)
 refine wpAny_call (codeAny_of_tree ?_)
 show wpAny _ _ (callAny (.ref 203) _) _ _ _
 refine nd_load hC ?_
 show wpAny _ _ (callAny.viaDunder (.ref 203) _) _ _ _
 unfold callAny.viaDunder
 refine wpAny_bind (call.at ?_)
 dsimp only
 rw [tc_bind]
 refine wpAny_bind (wpAny_pure (wpAny_bind (wpAny_pure ?_)))
 refine wpAny_pure (a := Fin.again (.call (.builtin "type.__call__") ⟨[.ref 203, n, v], []⟩)) (And.intro rfl ?_)
 refine codeAny_call_builtin_at (Code.quiet_builtin _ (by decide +kernel)) entry_typeCall (check_slot tc_kind tc_split typ (tc_args _ _ _) ?_)
 unfold Builtin.«type.__call__»
 have hm : Looks (Md w) hh (mroOf (.ref 203)) cd203.mro := ((Looks.ld (part := none) hC).andThen .now).andThen .now
 have made : Looks (Md w) hh (Bind.madeBy (.ref 203)) none := by
  intro A Q E s k q
  unfold Bind.madeBy
  refine wpAny_bind (hm A _ E s k ?_)
  rw [show cd203.mro = .ref 203 :: [.ref 180, .type "tuple", .type "object"] from rfl, List.forIn_cons]
  refine wpAny_bind (wpAny_bind (wpAny_bind (wpAny_bind (wpAny_loadPart (k _ _ hC) (wpAny_pure ?_)))))
  exact wpAny_pure (wpAny_pure (wpAny_pure q))
 refine wpAny_bind (hm.at ?_)
 rw [if_neg (by decide)]
 refine wpAny_bind (made.at ?_)
 show wpAny _ _ (getAttr (.ref 203) "__new__" >>= _) _ _ _
 refine wpAny_bind (cls_bind B.k (p_reads _) (p_new _) (wpAny_call (sm_get B.k (p_sm _) ?_)))
 show wpAny _ _ (handedOut (.ref 130)) _ _ _
 refine handed_on (by decide +kernel) ?_
 have hU : Ok (A.under (Code.builtin "type.__call__" { pos := [Value.ref 203, n, v] })) 881 981 := ⟨hA.h, Nat.add_le_add_right hA.d 1, ?_⟩
 refine wpAny_bind (wpAny_holding (wpAny_mono (call130 (s := ⟨hh, g, dd, tk + 1, os⟩) B (hU.le (by decide) (by decide))) (fun x s' hx => ?_) fun _ _ z => z))
 ·obtain ⟨a, d, rfl, g', p, fa, fd⟩ := hx
  have B' := B.grow g'.keep
  refine wpAny_bind ((pair_isa B' p (p_self _)).here ?_)
  rw [if_neg (by decide)]
  refine wpAny_bind (wpAny_holding ?_)
  unfold callSpecial? specialOf
  refine wpAny_bind (wpAny_bind (p.inst.type.here ((looks_findIn B'.k (p_init _)).here ?_)))
  dsimp only
  refine wpAny_holding ?_
  rw [oi_bind]
  refine wpAny_bind (wpAny_pure (wpAny_bind (got (hU.le (by decide) (by decide)) (oinit B'.k p.1) fun s₂ g₂ => wpAny_pure ?_)))
  refine wpAny_pure ?_
  exact h a d s₂ ((Grow.tok _ _).trans (g'.trans g₂)) ⟨g₂.keep _ _ p.1, g₂.keep _ _ p.2⟩ fa fd
 ·have := hA.u
  show A.units + 1 ≤ 981
  lia
end
end
section
noncomputable abbrev mapO (t : Nat) : Obj := { cls := .type "map", data := .fields #[.ref t, .builtin "str.strip"] }
def MadeMap (l : Nat) (s : Shared) (x : Value) (s' : Shared) : Prop := ∃ m t i h' tk news, x = .ref m ∧ s' = { s with heap := h', toks := tk } ∧ (h'.get? m = some (mapO t) ∧ s.heap.get? m = none) ∧ (h'.get? t = some { cls := .type "tuple", data := .seq #[.ref i] } ∧ s.heap.get? t = none) ∧
 (h'.get? i = some { cls := .type "list_iterator", data := .fields #[.ref l, .int 0 0] } ∧ s.heap.get? i = none) ∧ PySem.W.X.Mem s.heap h' [] news
section
local macro_rules | `(tactic| x_close) => `(tactic| (exact ⟨_, _, _, _, _, _, rfl, rfl, Mem.both (by assumption) 0 rfl, Mem.both (by assumption) 1 rfl, Mem.both (by assumption) 2 rfl, by assumption⟩))
theorem map_new0 {w : World} {s : Shared} {E : Value → Shared → Prop} {l : Nat} {a b : Str} {ta tb : Tok} (KX : (K w.params).In s.heap) (hl : s.heap.get? l = some ⟨.type "list", none, .seq #[.str a ta, .str b tb], #[]⟩) : wpAny (model pw w) (AR 890 990) (call (.type "map") [.builtin "str.strip", .ref l]) (MadeMap l s) E s := by
 x_run
end
end
section
theorem slot_mapn : Slot "map" "__next__" "map.__next__" := .of (owner := "map") (n := "__next__") (by rw [typeLookup_type, builtinLookup_eq_fast]; kernel_rfl) (by decide +kernel) (by decide +kernel) (by decide +kernel) (.inl (by decide +kernel)) (by rw [isSubtype_type]; kernel_rfl)
theorem slot_mapi : Slot "map" "__iter__" "map.__iter__" := .of (owner := "map") (n := "__iter__") (by rw [typeLookup_type, builtinLookup_eq_fast]; kernel_rfl) (by decide +kernel) (by decide +kernel) (by decide +kernel) (.inl (by decide +kernel)) (by rw [isSubtype_type]; kernel_rfl)
theorem entry_mapn : entryFor table "map.__next__" = some Builtin.«map.__next__» := entryFor_of_fast (by kernel_rfl)
theorem args_mapn (a : Value) : argsOk "map.__next__" ⟨[a], []⟩ := by unfold argsOk; kernel_rfl
theorem map_nolen : typeLookup (.type "map") "__len__" = pure none := by rw [typeLookup_type, builtinLookup_eq_fast]; kernel_rfl
theorem map_nohint : typeLookup (.type "map") "__length_hint__" = pure none := by rw [typeLookup_type, builtinLookup_eq_fast]; kernel_rfl
section
variable {w : World} {A : Around} {E : Value → Shared → Prop} {s : Shared} {l m t i k : Nat} {items : Array Value}
theorem li_next {x : Value} {Q : Option Value → Shared → Prop} (hit : s.heap.IsListIter i l k) (hl : s.heap.IsList l items) (hx : items[k]? = some x)
  (hQ : ∀ h', h'.IsListIter i l (k + 1) → Heap.SameBut i s.heap h' → Q (some x) { s with heap := h' }) : wpAny (Md w) A (callSpecial? (.ref i) "__next__") Q E s := by
 obtain ⟨o, ho, hc, hd⟩ := id hit
 obtain ⟨ol, hol, _, nl, hdl⟩ := hl
 refine wpAny_callSpecial?_slot (name := Str.ofString "__next__") hit.typeIs slot_listiter_next (wpAny_call_entry slot_listiter_next hit.typeIs entry_listiter_next ?_ (args_listiter_next _))
 show wpAny _ _ (field (.ref i) 0 >>= _) _ _ s
 refine wpAny_bind (wpAny_field ho hd (x := .ref l) rfl ?_)
 show wpAny _ _ (if (Value.ref l == Value.none) = true then _ else _) _ _ s
 rw [if_neg (show ¬ ((Value.ref l == Value.none) = true) from Bool.false_ne_true)]
 show wpAny _ _ (field (.ref i) 1 >>= _) _ _ s
 refine wpAny_bind (wpAny_field ho hd (x := .int k 0) rfl ?_)
 show wpAny _ _ (seqItems? (.ref l) >>= _) _ _ s
 refine wpAny_bind (wpAny_seqItems hol hdl ?_)
 simp only [Int.toNat_natCast, hx]
 refine wpAny_bind (wpAny_setField ho hd (by simp) (wpAny_pure ⟨x, rfl, hQ _ ?_ (Heap.SameBut.update ..)⟩))
 exact ⟨_, Heap.get?_update_self _ ho (Obj.isFreed_of_fields (Obj.data_mapFields hd _)), (Obj.cls_mapFields ..).trans hc, by rw [Obj.data_mapFields hd]; simp [rawInt]⟩
theorem map_next {x : Str} {u : Tok} {Q : Option Value → Shared → Prop} (hm : s.heap.get? m = some (mapO t)) (ht : s.heap.get? t = some { cls := .type "tuple", data := .seq #[.ref i] }) (hit : s.heap.IsListIter i l k) (hl : s.heap.IsList l items) (hx : items[k]? = some (.str x u)) (hsz : x.length ≤ sizeLine)
  (hmi : m ≠ i)
  (hQ : ∀ h' tk t', h'.IsListIter i l (k + 1) → Heap.SameBut i s.heap h' → Q (some (.str (Txt.strip x) t')) { s with heap := h', toks := tk }) : wpAny (Md w) A (pyNext (.ref m)) Q E s := by
 have hT : s.TypeIs (.ref m) "map" := ⟨_, hm, rfl⟩
 unfold pyNext
 refine wpAny_bind (wpAny_attempt (wpAny_callSpecial?_slot (name := Str.ofString "__next__") hT slot_mapn (wpAny_call_entry slot_mapn hT entry_mapn ?_ (args_mapn _))))
 unfold Builtin.«map.__next__»
 refine wpAny_bind (m := slotArgs _ _ _) (wpAny_of_eq (a := (.ref m, [])) rfl ?_)
 show wpAny _ _ (field (.ref m) 0 >>= _) _ _ s
 refine wpAny_bind (wpAny_field hm rfl (x := .ref t) rfl ?_)
 refine wpAny_bind (wpAny_seqItems ht rfl ?_)
 dsimp only
 refine wpAny_bind ?_
 rw [List.forIn_toArray, List.forIn_cons]
 refine wpAny_bind (wpAny_bind (wpAny_holding ?_))
 unfold Builtin.SmallTypes.nextOf
 refine wpAny_bind (li_next hit hl hx fun h' hit' S' => wpAny_pure (wpAny_pure ?_))
 dsimp only
 rw [List.forIn_nil]
 refine wpAny_pure ?_
 refine wpAny_bind (wpAny_field (S'.2 m hmi ▸ hm : h'.get? m = some (mapO t)) rfl (x := .builtin "str.strip") rfl ?_)
 refine wpAny_bind (wpAny_holding (SC.strip (fun t' tk => ?_) hsz))
 refine wpAny_bind (wpAny_letGo ?_)
 exact wpAny_pure ⟨_, rfl, wpAny_pure (hQ h' tk t' hit' S')⟩
theorem map_end {Q : Option Value → Shared → Prop} (hh : A.handled = none) (hm : s.heap.get? m = some (mapO t)) (ht : s.heap.get? t = some { cls := .type "tuple", data := .seq #[.ref i] }) (hit : s.heap.IsListIter i l k) (hl : s.heap.IsList l items) (hx : items[k]? = none)
  (hQ : ∀ h', Heap.ExtBut i s.heap h' → Q none { s with heap := h' }) : wpAny (Md w) A (pyNext (.ref m)) Q E s := by
 have hT : s.TypeIs (.ref m) "map" := ⟨_, hm, rfl⟩
 obtain ⟨o, ho, hc, hd⟩ := id hit
 obtain ⟨ol, hol, _, nl, hdl⟩ := hl
 unfold pyNext
 refine wpAny_bind (wpAny_attempt (wpAny_callSpecial?_slot (name := Str.ofString "__next__") hT slot_mapn (wpAny_call_entry slot_mapn hT entry_mapn ?_ (args_mapn _))))
 unfold Builtin.«map.__next__»
 refine wpAny_bind (m := slotArgs _ _ _) (wpAny_of_eq (a := (.ref m, [])) rfl ?_)
 show wpAny _ _ (field (.ref m) 0 >>= _) _ _ s
 refine wpAny_bind (wpAny_field hm rfl (x := .ref t) rfl ?_)
 refine wpAny_bind (wpAny_seqItems ht rfl ?_)
 dsimp only
 refine wpAny_bind ?_
 rw [List.forIn_toArray, List.forIn_cons]
 refine wpAny_bind (wpAny_bind (wpAny_holding ?_))
 unfold Builtin.SmallTypes.nextOf
 refine wpAny_bind (wpAny_callSpecial?_slot (name := Str.ofString "__next__") hit.typeIs slot_listiter_next (wpAny_call_entry slot_listiter_next hit.typeIs entry_listiter_next ?_ (args_listiter_next _)))
 show wpAny _ _ (field (.ref i) 0 >>= _) _ _ s
 refine wpAny_bind (wpAny_field ho hd (x := .ref l) rfl ?_)
 show wpAny _ _ (if (Value.ref l == Value.none) = true then _ else _) _ _ s
 rw [if_neg (show ¬ ((Value.ref l == Value.none) = true) from Bool.false_ne_true)]
 show wpAny _ _ (field (.ref i) 1 >>= _) _ _ s
 refine wpAny_bind (wpAny_field ho hd (x := .int k 0) rfl ?_)
 show wpAny _ _ (seqItems? (.ref l) >>= _) _ _ s
 refine wpAny_bind (wpAny_seqItems hol hdl ?_)
 simp only [Int.toNat_natCast, hx]
 refine wpAny_bind (wpAny_rule (wpAny_bind (wpAny_setField ho hd (by simp) ?_)))
 show wpAny _ _ (newExc (.type "StopIteration") [] >>= _) _ _ _
 refine wpAny_bind ?_
 simp only [newExc, newTuple]
 refine wpAny_bind (wpAny_newObj_type ?_ (by size_fits))
 refine wpAny_bind (m := firstArgMember _ _) (wpAny_of_eq (a := Value.none) (by first | rfl | (simp only [firstArgMember]; rfl)) ?_)
 refine wpAny_newObj_type ?_ (by size_fits)
 simp only [raiseNew]
 refine wpAny_bind (wpAny_handled ?_)
 rw [show A.in1.in1.handled = none from hh]
 refine wpAny_bind (wpAny_pure (wpAny_throw ?_))
 refine wpAny_bind (wpAny_isInstance (T := "StopIteration") (b := true) ⟨_, Heap.get?_push_size _ rfl, rfl⟩ isSubtype_stop ?_)
 exact wpAny_pure (hQ _ (((Heap.SameBut.update ..).extBut.push _).push _))
noncomputable def strips (x : Str) : Str := Txt.strip x
theorem mapWalks (hh : A.handled = none) (m t i l : Nat) (hmi : m ≠ i) (hti : t ≠ i) (hli : l ≠ i) (a b : Str) (ta tb : Tok) (ha : a.length ≤ sizeLine) (hb : b.length ≤ sizeLine) :
  Walks pw w A m [m, t, i, l] [i] 2 (fun k v => ∃ u, v = .str (Txt.strip (if k = 0 then a else b)) u) (fun k h => h.get? m = some (mapO t) ∧ h.get? t = some { cls := .type "tuple", data := .seq #[.ref i] } ∧ h.IsListIter i l k ∧ h.IsList l #[.str a ta, .str b tb]) where
 sub := fun b hb => by simp at hb; simp [hb]
 frame := fun _ _ _ st hk => ⟨hk m (by simp) _ st.1, hk t (by simp) _ st.2.1, st.2.2.1.at fun o e => hk i (by simp) o e, st.2.2.2.at fun o e => hk l (by simp) o e⟩
 item := fun k s Q E hk st hQ => by
  have hx : (#[.str a ta, .str b tb] : Array Value)[k]? = some (.str (if k = 0 then a else b) (if k = 0 then ta else tb)) := by
   rcases Nat.lt_or_ge k 1 with h | h
   ·have : k = 0 := by lia
    subst this; rfl
   ·have : k = 1 := by lia
    subst this; rfl
  refine map_next st.1 st.2.1 st.2.2.1 st.2.2.2 hx (by split <;> assumption) hmi fun h' tk t' hit' S' => ?_
  exact hQ _ h' tk ⟨t', rfl⟩ ⟨(S'.2 m hmi).trans st.1, (S'.2 t hti).trans st.2.1, hit', st.2.2.2.at fun o e => (S'.2 l hli).trans e⟩ (Heap.SameBut.but S')
 done := fun s Q E st hQ => map_end hh st.1 st.2.1 st.2.2.1 st.2.2.2 (by rfl) fun h' hx => hQ h' s.toks fun b o hb e => hx b o (by simpa using hb) e
 self := fun k s Q E st hQ => by
  refine wpAny_pyIter_slot ⟨_, st.1, rfl⟩ slot_mapi (wpAny_call_entry slot_mapi ⟨_, st.1, rfl⟩ (b := Builtin.«dict_keyiterator.__iter__») ?_ ?_ ?_)
  ·exact entryFor_alias (id' := "dict_keyiterator.__iter__") (by kernel_rfl) (by first | rfl | decide +kernel | (unfold String.splitOn; simp +decide [String.splitOnAux])) (by decide +kernel) (by kernel_rfl)
  ·show wpAny _ _ (ret (.ref m)) _ _ s
   exact wpAny_pure ⟨_, rfl, "map", _, ⟨_, st.1, rfl⟩, slot_mapn.lookup, hQ⟩
  ·unfold argsOk; kernel_rfl
end
end
section
section
variable {w : World} {A : Around} {E : Value → Shared → Prop} {s : Shared} {m : Nat} {fp wr : List Addr} {n : Nat} {P : Nat → Value → Prop} {St : Nat → Heap → Prop}
theorem collect_map {Q : List Value → Shared → Prop} (W : Walks pw w A.in1 m fp wr n P St) (hT : ∀ i h, St i h → ∃ o, h.get? m = some o ∧ o.cls = .type "map") (hst : St 0 s.heap) (hfp : ∀ b ∈ fp, b < s.heap.objs.size) (hI : m ∈ fp) (hn : n ≤ sizeLine)
  (hQ : ∀ s' acc, Sx s s' → (∀ b o, b ∉ wr → s.heap.get? b = some o → s'.heap.get? b = some o) → ItemsOf P acc n → Q acc.toList s') : wpAny (Md w) A (collect (.ref m)) Q E s := by
 have WS := W.toS
 have hSf : s.heap.objs.size ∉ fp := fun h => Nat.lt_irrefl _ (hfp _ h)
 have hSm : s.heap.objs.size ≠ m := fun e => hSf (e ▸ hI)
 generalize hlo : ({ cls := .type "list", data := .seq ([] : List Value).toArray } : Obj) = lo
 have hS₁ : (s.heap.push lo).get? s.heap.objs.size = some lo := Heap.get?_push_size _ (by rw [← hlo]; rfl)
 have st₁ := W.frame 0 s.heap (s.heap.push lo) hst fun b _ o e => Heap.get?_push_of_some _ e
 have ty : ∀ i (s' : Shared), St i s'.heap → s'.TypeIs (.ref m) "map" := fun i s' h => hT i _ h
 unfold collect
 refine wpAny_bind (wpAny_runValue (codeAny_builtin F.entry_proto_collect ?_))
 rw [Around.under_plainId F.plain_proto_collect _]
 show wpAny _ A.in1 (newList [] >>= fun l => again (.builtin "list.__iadd__" ⟨[l, .ref m], []⟩)) _ _ s
 refine wpAny_bind (wpAny_newObj_type ?_)
 rw [hlo]
 refine wpAny_pure ⟨plainId_quiet F.plain_list_iadd _, codeAny_builtin F.entry_list_iadd ?_⟩
 rw [Around.under_plainId F.plain_list_iadd _]
 show wpAny _ A.in1 (Builtin.List.listExtendWith (.ref s.heap.objs.size) (.ref m) (.ref s.heap.objs.size)) _ _ _
 unfold Builtin.List.listExtendWith
 refine wpAny_bind (wpAny_typeOf (ty 0 _ st₁) ?_)
 rw [show Builtin.List.listSameRef (.ref s.heap.objs.size) (.ref m) = false from by simp [Builtin.List.listSameRef, hSm]]
 rw [if_neg (by decide)]
 refine wpAny_bind (W.self 0 _ _ _ st₁ (wpAny_bind (wpAny_holding ?_)))
 unfold Builtin.List.listLengthHint
 refine wpAny_bind (wpAny_specialOf (ty 0 _ st₁) map_nolen ?_)
 show wpAny _ A.in1 (specialOf (Value.ref m) (Str.ofString "__length_hint__") >>= _) _ _ _
 refine wpAny_bind (wpAny_specialOf (ty 0 _ st₁) map_nohint (wpAny_pure ?_))
 show wpAny _ A.in1 (rule "list.extend.makes-room" >>= fun _ => Builtin.List.listTouch (.ref s.heap.objs.size) >>= fun _ => again (.builtin "list.extend.loop" ⟨[.ref s.heap.objs.size, .ref m, .ref s.heap.objs.size], []⟩)) _ _ _
 refine wpAny_bind (wpAny_rule (wpAny_bind ?_))
 show wpAny _ A.in1 (updateSeq s.heap.objs.size (·.push .none) >>= fun _ => updateSeq s.heap.objs.size (·.pop)) _ _ _
 subst hlo
 refine wpAny_bind (wpAny_updateSeq hS₁ rfl ?_)
 have hS₂ := Heap.get?_update_self (Obj.mapSeq (·.push Value.none)) hS₁ rfl
 refine wpAny_updateSeq hS₂ rfl ?_
 have hS₃ := Heap.get?_update_self (Obj.mapSeq (·.pop)) hS₂ rfl
 have oth : ∀ b o, b ≠ s.heap.objs.size → s.heap.get? b = some o → (((s.heap.push { cls := .type "list", data := .seq ([] : List Value).toArray }).update s.heap.objs.size (Obj.mapSeq (·.push Value.none))).update s.heap.objs.size (Obj.mapSeq (·.pop))).get? b = some o :=
  fun b o hb e => (Heap.get?_update_other _ _ (Ne.symm hb)).trans ((Heap.get?_update_other _ _ (Ne.symm hb)).trans (Heap.get?_push_of_some _ e))
 refine wpAny_pure ⟨plainId_quiet F.plain_extend_loop _, codeAny_extend_loopS WS hn _ hSf _ n 0 _ _ _ rfl (Nat.zero_le _) ?_ hS₃ (ItemsOf.nil P) fun s' acc' c' hm hS' hacc => ?_⟩
 ·exact W.frame 0 s.heap _ hst fun b hb o e => oth b o (fun h => hSf (h ▸ hb)) e
 ·show wpAny _ A (load s.heap.objs.size >>= _) _ _ s'
  refine wpAny_bind (wpAny_load hS' (wpAny_pure (hQ s' acc' ⟨hm.gens, hm.drawn, hm.os⟩ (fun b o hb e => ?_) hacc)))
  have hne : b ≠ s.heap.objs.size := Nat.ne_of_lt (Heap.lt_size e)
  exact hm.heap b o (fun h => by rcases List.mem_cons.mp h with h | h; exact hne h; exact hb h) (oth b o hne e)
end
end
section
theorem enterC {w : World} {A : Around} {s : Shared} {a d u : Nat} {o : Obj} {fd : FuncData} {body : List Stmt} {args : List Value} {binds : List (Str × Value)} {R : Result → Shared → Prop}
  (B : Bs w s.heap) (hA : Ok A d u) (hd : d < 1000)
  (h : ∀ h₁ tk E', Vars h₁ (callEnvC fd s.heap.objs.size a) (bindM (callEnvC fd s.heap.objs.size a) binds) → (∀ b o, s.heap.get? b = some o → h₁.get? b = some o) → (∀ b, OwnA (callEnvC fd s.heap.objs.size a) b → s.heap.objs.size ≤ b) →
   wpAny (Md w) (A.deeper (callEnvC fd s.heap.objs.size a)) (execs body (callEnvC fd s.heap.objs.size a)) (fun f s' => R (.ok (.ret (flowV f))) s') E' { s with heap := h₁, toks := tk })
  (ho : (K w.params).lookup a = some o := by kernel_rfl) (hf : o.data = .func fd := by rfl) (hb : fd.body = .stmts body := by rfl) (hbind : bindArgs fd ⟨args, []⟩ = pure binds := by rfl) (hcd : codeIn (K w.params) fd.code fd.qualname = true := by kernel_rfl) (hclo : fd.closure = [] := by rfl)
  (hkind : kindsOk fd s.heap.objs.size binds = true := by rfl) (hap : cellsApart fd s.heap.objs.size = true := by rfl)
  (hco : fd.scope.isCoroutine = false := by rfl) (hgen : fd.scope.isGenerator = false := by rfl) (hk : fd.scope.kind = .function := by rfl) :
  codeAny (Md w) A (.call (.ref a) ⟨args, []⟩) R s := by
 refine codeAny_call_cells (by have := hA.d; show A.depth < 1000; lia) (B.k a o ho) hf B.nolimit (codeRec_of B.k hcd) hb hbind hclo (kindsOk_of hkind) (fun s₁ x => ?_) hco hgen hk
 obtain ⟨h₁, tk, rfl⟩ := x.toInCall.same
 refine wpAny_mono (h h₁ tk _ ⟨hk, ⟨_, x.toInCall.ns, fun y hy => ?_⟩, fun y c hc => ?_, fun y z c hy hz => ?_, fun y c hc => ?_, fun y c hc => ?_⟩ x.toInCall.keep fun b hb => ?_) (fun f s' hq => ?_) fun _ _ e => e
 ·unfold bindM; rw [if_pos hy]
 ·have h1 := List.all_eq_true.mp hap (y, c) (mem_of_lookup hc)
  have h3 : fd.scope.names.lookup y ≠ some .local := by simpa using h1
  have h2 : (callEnvC fd s.heap.objs.size a).kindOf y ≠ some .local := h3
  unfold bindM; rw [if_neg h2]
  exact x.cell y c hc
 ·exact name_of_addr x.apart (mem_of_lookup hy) (mem_of_lookup hz)
 ·exact Nat.ne_of_gt (x.above y c (mem_of_lookup hc))
 ·have h1 := List.all_eq_true.mp hap (y, c) (mem_of_lookup hc)
  have h3 : fd.scope.names.lookup y ≠ some .local := by simpa using h1
  exact h3
 ·rcases hb with rfl | ⟨y, hc⟩
  ·exact x.toInCall.fresh
  ·exact Nat.le_trans x.toInCall.fresh (Nat.le_of_lt (x.above y b (mem_of_lookup hc)))
 ·show R _ s'
  cases f <;> exact hq
noncomputable abbrev eqS : Str := "="
structure Splits (x a b : Str) : Prop where
 h1 : (decide (x.length < eqS.length) || decide (Builtin.Str.strKind x < Builtin.Str.strKind eqS)) = false
 hf : (Builtin.Str.occurrences x eqS 0 x.length (limitOf x 1)).isEmpty = false
 hp : Builtin.Str.partsBetween x (Builtin.Str.occurrences x eqS 0 x.length (limitOf x 1)) eqS.length = [a, b]
 hz : x.length ≤ 1000
 ha : a.length ≤ 1000
 hb : b.length ≤ 1000
theorem items2 {P : Nat → Value → Prop} {acc : Array Value} (x : ItemsOf P acc 2) : ∃ u v, acc.toList = [u, v] ∧ P 0 u ∧ P 1 v := by
 obtain ⟨l⟩ := acc
 obtain ⟨h1, h2⟩ := x
 match l, h1 with
 | [u, v], _ => exact ⟨u, v, rfl, h2 0 u rfl, h2 1 v rfl⟩
section
variable {w : World} {A : Around} {E : Value → Shared → Prop} {s : Shared}
theorem str_sp (P : Params) : findCls (K P) (.type "str") (.type "type") "strip" = some (.val (.builtin "str.strip")) := by kernel_rfl
theorem str_spT : typeOf (.type "str") = pure (.type "type") := by rfl
theorem str_spS : Manifest.isStub "str" = false := by decide +kernel
theorem str_sph : handedIn (.builtin "str.strip") = true := by decide +kernel
theorem type_attr {T : String} {name : Str} {v : Value} {expr : Bool} {Q : Value → Shared → Prop} (B : Bs w s.heap) (ht : typeOf (.type T) = pure (.type "type")) (hs : Manifest.isStub T = false)
  (e : findCls (K w.params) (.type T) (.type "type") name = some (.val v)) (hh : handedIn v = true) (h : Q v { s with toks := s.toks + 1 }) : wpAny (Md w) A (getAttr (.type T) name expr) Q E s := by
 have L0 : Looks (Md w) s.heap (typeOf (.type T)) (.type "type") := Looks.of_pure ht
 have hg : findIn (K w.params) (.type "type") "__getattribute__" = some (some (.builtin "type.__getattribute__")) := type_tga
 have LO : Looks (Md w) s.heap (opaqueClassAbove (.type T)) none := Looks.of_pure (by unfold opaqueClassAbove; dsimp only; rw [hs]; rfl)
 exact cls_open B.k LO L0 hg (looks_hook B.k (r := none) (by rfl)) (by show subIn (K w.params) _ _ = _; rfl) e (wpAny_pure (by show wpAny _ _ (handedOut v) _ _ _; rw [handedOut_of hh]; exact wpAny_pure h))
theorem call_split1 {x a b : Str} {t u : Tok} {o : Tok} {Q : Value → Shared → Prop} (S : Splits x a b) (h : ∀ ta tb tk, Q (.ref s.heap.objs.size) { s with toks := tk, heap := s.heap.push { cls := .type "list", data := .seq #[.str a ta, .str b tb] } }) :
  wpAny (Md w) A (call (.builtin "str.split") [.str x t, .str eqS u, .int 1 o]) Q E s := by
 have hz : x.length ≤ sizeLine := by rw [sizeLine_eq]; have := S.hz; lia
 refine call_meets F.slot_str_split (typeIs_str _ _ _) F.entry_str_split (F.args_str_split_3 _ _ _) (meets_str_split_sep_max x eqS 1 t u o (by decide) S.h1 (by decide) S.hf hz (by rw [S.hp, sizeLine_eq]; exact (show 2 ≤ 16777216 by decide))) ?_
 rw [S.hp]
 exact h _ _ _
noncomputable def fd197 : FuncData := fnD (clsS 6 0) "Pair.parse" 3 [] .none .none .none (.str "cpy313.importlib.metadata._collections" 286) (some 200) (.ref 196) .none 0
noncomputable def e197 (L : Nat) : Env := callEnvC fd197 L 197
theorem keep203 (P : Params) : keepIn (K P) (.ref 203) = true := by kernel_rfl
theorem code_parse {x a b : Str} {t : Tok} {R : Result → Shared → Prop} (B : Bs w s.heap) (hA : Ok A 870 900) (S : Splits x a b)
  (h : ∀ p d tn tv s', Grow s s' → PairAt s'.heap p d (.str (Txt.strip a) tn) (.str (Txt.strip b) tv) → s.heap.get? p = none → s.heap.get? d = none → R (.ok (.ret (.ref p))) s') : codeAny (Md w) A (.call (.ref 197) ⟨[.ref 203, .str x t], []⟩) R s := by
 refine enterC (fd := fd197) (o := o197p3 w.params) (binds := [("cls", .ref 203), ("text", .str x t)]) B hA (by decide) fun h₁ tk E' V hk hown => ?_
 have hA' := hA.deeper (e197 s.heap.objs.size)
 rw [show callEnvC fd197 s.heap.objs.size 197 = e197 s.heap.objs.size from rfl] at V ⊢
 have B₁ := B.grow hk
 refine wpAny_execs_cons (wpAny_Return_some (ev_Call (V.nm (v := .ref 203) (callWith_S B₁.k (keep203 _) ?_) (by rfl))))
 refine ev_Call (blt (v := .type "map") B₁ (cw_type ?_))
 refine Attribute_Name_ (blt (v := .type "str") B₁ ?_)
 refine @type_attr w _ _ _ "str" "strip" (.builtin "str.strip") _ _ B₁ str_spT str_spS (str_sp _) str_sph ?_
 refine ev_Method (V.rd (v := .str x t) (fun pl => PySem.GM.split ?_) (by rfl))
 refine cw_builtin (Constant_str (wpAny_Constant_int (call_split1 S fun ta tb tk₂ => ?_)))
 have hl : (h₁.push { cls := .type "list", data := .seq #[.str a ta, .str b tb] }).get? h₁.objs.size = some { cls := .type "list", data := .seq #[.str a ta, .str b tb] } := Heap.get?_push_size _ rfl
 have kl : ∀ b' o, h₁.get? b' = some o → (h₁.push { cls := .type "list", data := .seq #[.str a ta, .str b tb] }).get? b' = some o := fun b' o e => Heap.get?_push_of_some _ e
 refine wpAny_mono (weaken (d := 890) (u := 990) hA'.h (Nat.le_trans hA'.d (by decide)) (Nat.le_trans hA'.u (by decide)) (map_new0 (l := h₁.objs.size) (a := a) (b := b) (ta := ta) (tb := tb) (B₁.grow kl).k hl)) (fun x' s₂ hx => ?_) fun _ _ z => z
 obtain ⟨m, tt, i, h', tk', news, rfl, rfl, ⟨hm, fm⟩, ⟨ht, ft⟩, ⟨hi, fi⟩, D⟩ := hx
 have kD := Mem.grow D
 have hmi : m ≠ i := fun e => by rw [e, hi] at hm; exact absurd (Value.type.inj (congrArg Obj.cls (Option.some.inj hm))) (by decide)
 have hti : tt ≠ i := fun e => by rw [e, hi] at ht; exact absurd (Value.type.inj (congrArg Obj.cls (Option.some.inj ht))) (by decide)
 have hli : h₁.objs.size ≠ i := fun e => by
  have h2 : (h₁.push { cls := .type "list", data := .seq #[.str a ta, .str b tb] }).get? i = none := fi
  rw [← e, hl] at h2
  cases h2
 unfold StarOf notIterableAtAll
 refine wpAny_bind (wpAny_specialOf (T := "map") ⟨_, hm, rfl⟩ slot_mapi.lookup (wpAny_pure ⟨rfl, ?_⟩))
 have hz : ∀ y : Str, y.length ≤ 1000 → y.length ≤ sizeLine := fun y hy => by rw [sizeLine_eq]; lia
 refine collect_map (mapWalks (A := (A.deeper (e197 s.heap.objs.size)).in1) hA'.h m tt i h₁.objs.size hmi hti hli a b ta tb (hz _ S.ha) (hz _ S.hb)) (fun k hh st => ⟨_, st.1, rfl⟩) ⟨hm, ht, ⟨_, hi, rfl, rfl⟩, ⟨_, kD _ _ hl, rfl, _, rfl⟩⟩ ?_ (by simp) (by rw [sizeLine_eq]; decide) fun s₃ acc x₃ k₃ hI => ?_
 ·intro b' hb'
  show b' < h'.objs.size
  simp only [List.mem_cons, List.not_mem_nil, or_false] at hb'
  rcases hb' with rfl | rfl | rfl | rfl
  ·exact Heap.lt_size hm
  ·exact Heap.lt_size ht
  ·exact Heap.lt_size hi
  ·exact Heap.lt_size (kD _ _ hl)
 obtain ⟨u, v, e, ⟨u1, rfl⟩, ⟨u2, rfl⟩⟩ := items2 hI
 rw [e]
 have k₃' : ∀ b' o, h₁.get? b' = some o → s₃.heap.get? b' = some o := fun b' o eb => k₃ b' o (by
  simp only [List.mem_cons, List.not_mem_nil, or_false]
  rintro rfl
  have h2 : (h₁.push { cls := .type "list", data := .seq #[.str a ta, .str b tb] }).get? b' = none := fi
  rw [kl _ _ eb] at h2
  cases h2) (kD _ _ (kl _ _ eb))
 have B₃ := B₁.grow k₃'
 refine ⟨B₃.k, call203 B₃ (hA'.le (by decide) (by decide)) fun p d s₄ g₄ hp fp fd => ?_⟩
 have fr : ∀ z, s₃.heap.get? z = none → s.heap.get? z = none := fun z fz => by
  cases e5 : s.heap.get? z with
  | none => rfl
  | some o => rw [k₃' _ _ (hk _ _ e5)] at fz; cases fz
 refine h p d u1 u2 s₄ (Sx.grow (Sx.trans (Sx.trans (by exact ⟨rfl, rfl, rfl⟩) x₃) g₄.sx) fun b' o eb => g₄.keep _ _ (k₃' _ _ (hk _ _ eb))) hp (fr p fp) (fr d fd)
end
end
section
section
variable {w : World} {A : Around} {E : Value → Shared → Prop} {s : Shared} {env : Env} {pos : Pos} {args : List Expr}
theorem p_cm (P : Params) : recIn (K P) 199 "classmethod" = some [.ref 197, .bool false] := by kernel_rfl
theorem p_parse (P : Params) : findCls (K P) (.ref 203) (.type "type") "parse" = some (.get (.builtin "classmethod.__get__") (.ref 199) .none (.ref 203)) := by kernel_rfl
theorem p_sga (P : Params) : specialIn (K P) (.ref 203) "__getattribute__" = some (some (.builtin "type.__getattribute__")) := by kernel_rfl
theorem p_fn (P : Params) : fnIn (K P) 197 = true := by kernel_rfl
theorem pair_val (P : Params) : findObj (K P) 203 (some ⟨.type "dict", none, .dict #[] 0, #[]⟩) "value" = some (.bind (.ref 61) (.ref 175)) := findObj_data (by kernel_rfl) (by kernel_rfl) (by kernel_rfl) (by kernel_rfl)
theorem pair_nam (P : Params) : findObj (K P) 203 (some ⟨.type "dict", none, .dict #[] 0, #[]⟩) "name" = some (.bind (.ref 61) (.ref 172)) := findObj_data (by kernel_rfl) (by kernel_rfl) (by kernel_rfl) (by kernel_rfl)
theorem pair_value {a d : Nat} {n v : Str} {tn tv : Tok} {expr : Bool} {Q : Value → Shared → Prop} (B : Bs w s.heap) (hA : Ok A 870 880) (p : PairAt s.heap a d (.str n tn) (.str v tv)) (h : ∀ s', Grow s s' → Q (.str v tv) s') : wpAny (Md w) A (getAttr (.ref a) "value" expr) Q E s := by
 refine pair_getAttr B p (pair_val _) (get61 (s := { s with toks := s.toks + 1 }) (x := .str v tv) B (hA.in1.le (by decide) (by decide)) p (D := 175) (dd := 174) (i := 1) (t := 488) (oD := o175p2 w.params) (od := o174p2 w.params) (by kernel_rfl) rfl (by kernel_rfl) (by kernel_rfl) (by decide) rfl fun s' g => ⟨rfl, h s' ((Grow.tok _ _).trans g)⟩)
theorem pair_name {a d : Nat} {n v : Str} {tn tv : Tok} {expr : Bool} {Q : Value → Shared → Prop} (B : Bs w s.heap) (hA : Ok A 870 880) (p : PairAt s.heap a d (.str n tn) (.str v tv)) (h : ∀ s', Grow s s' → Q (.str n tn) s') : wpAny (Md w) A (getAttr (.ref a) "name" expr) Q E s := by
 refine pair_getAttr B p (pair_nam _) (get61 (s := { s with toks := s.toks + 1 }) (x := .str n tn) B (hA.in1.le (by decide) (by decide)) p (D := 172) (dd := 171) (i := 0) (t := 478) (oD := o172p2 w.params) (od := o171p2 w.params) (by kernel_rfl) rfl (by kernel_rfl) (by kernel_rfl) (by decide) rfl fun s' g => ⟨rfl, h s' ((Grow.tok _ _).trans g)⟩)
theorem getm_parse {pl : Sem Bool} {Q : Value × List Value → Shared → Prop} (B : Bs w s.heap) (h : ∀ q s₁, Grow s s₁ → s₁.heap.get? q = some (methodObj (.ref 197) (.ref 203)) → Q (.ref q, []) s₁) : wpAny (Md w) A (getMethod (.ref 203) "parse" pl) Q E s := by
 refine method_cls B.k (p_sga _) (cls_bind B.k (p_reads _) (p_parse _) (wpAny_call (cm_get (s := { s with toks := s.toks + 1 }) B.k (p_cm _) ?_)))
 show wpAny _ _ (handedOut (.ref _)) _ _ _
 exact handed_on (by rfl) (h _ _ (.of fun b o e => Heap.get?_push_of_some _ e) (Heap.get?_push_size _ rfl))
theorem cw_parse {q : Nat} {Q : Value → Shared → Prop} (h : evs (Md w) A E env args (fun vs s₁ => MethP (K w.params) q 197 (.ref 203) s₁.heap ∧ wpAny (Md w) A (call (.ref q) vs) Q E s₁) s) (hs : args.all unstar = true := by rfl) :
  wpAny (Md w) A (callWith pos (.ref q) [] (backTo pos (starEach args env)) []) Q E s := by
 rw [backTo_plain hs]
 refine callWith_of (P := MethP (K w.params) q 197 (.ref 203)) ?_ (keeps_M (p_fn _)) (evalArgs_evs h)
 rw [List.any_map]
 simp only [List.any_nil, Bool.or_false]
 exact List.any_eq_false.mpr fun _ _ h => (Bool.noConfusion h)
theorem call_parse {q : Nat} {x a b : Str} {t : Tok} {Q : Value → Shared → Prop} (B : Bs w s.heap) (hA : Ok A 870 900) (hq : s.heap.get? q = some (methodObj (.ref 197) (.ref 203))) (S : Splits x a b)
  (h : ∀ p d tn tv s', Grow s s' → PairAt s'.heap p d (.str (Txt.strip a) tn) (.str (Txt.strip b) tv) → s.heap.get? p = none → s.heap.get? d = none → Q (.ref p) s') : wpAny (Md w) A (call (.ref q) [.str x t]) Q E s :=
 wpAny_call (method_call hq (code_parse B hA S fun p d tn tv s' g hp fp fd => h p d tn tv s' g hp fp fd))
end
end
section
theorem gone_ends : ∀ (l : Path) (S : St) (p : Path), (gone S p l).1.ends = S.ends ∧ (gone S p l).1.shut = S.shut
 | [], S, p => ⟨rfl, rfl⟩
 | c :: r, S, p => by
  rw [gone_cons]
  split
  ·exact gone_ends r S _
  ·split
   ·exact ⟨rfl, rfl⟩
   ·exact gone_ends r (S.add p c) _
theorem gone_wf : ∀ (l : Path) (S : St) (p : Path), WF S → has S.below p = true → WF (gone S p l).1
 | [], S, p, W, h => W
 | c :: r, S, p, W, h => by
  rw [gone_cons]
  split
  ·rename_i hc; exact gone_wf r S _ W hc
  ·rename_i hc
   split
   ·exact W
   ·exact gone_wf r (S.add p c) _ (W.add h hc) (has_addB.mpr (.inr rfl))
theorem gone_old : ∀ (l : Path) (S : St) (p q : Path), has S.below q = true → has (gone S p l).1.below q = true
 | [], S, p, q, h => h
 | c :: r, S, p, q, h => by
  rw [gone_cons]
  split
  ·exact gone_old r S _ q h
  ·split
   ·exact h
   ·exact gone_old r (S.add p c) _ q (has_addB.mpr (.inl h))
theorem gone_there : ∀ (l : Path) (S : St) (p : Path), has S.below p = true → (gone S p l).2 = true → has (gone S p l).1.below (p ++ l) = true
 | [], S, p, h, _ => by simpa [gone] using h
 | c :: r, S, p, h, hs => by
  rw [gone_cons] at hs ⊢
  split at hs
  ·rename_i hc
   rw [if_pos hc]
   have := gone_there r S (p ++ [c]) hc hs
   simpa using this
  ·rename_i hc
   split at hs
   ·cases hs
   ·rename_i hsh
    rw [if_neg hc, if_neg hsh]
    have := gone_there r (S.add p c) (p ++ [c]) (has_addB.mpr (.inr rfl)) hs
    simpa using this
theorem gone_new : ∀ (l : Path) (S : St) (p q : Path), has (gone S p l).1.below q = true → has S.below q = true ∨ (p <+: q ∧ q <+: p ++ l ∧ p ≠ q)
 | [], S, p, q, h => .inl h
 | c :: r, S, p, q, h => by
  have up : (p ++ [c] <+: q ∧ q <+: p ++ [c] ++ r ∧ p ++ [c] ≠ q) → (p <+: q ∧ q <+: p ++ c :: r ∧ p ≠ q) := fun ⟨h1, h2, h3⟩ => by
   refine ⟨List.IsPrefix.trans ⟨[c], rfl⟩ h1, by simpa using h2, fun e => ?_⟩
   subst e
   have := h1.length_le
   simp at this
   lia
  rw [gone_cons] at h
  split at h
  ·exact (gone_new r S _ q h).imp id up
  ·split at h
   ·exact .inl h
   ·rcases gone_new r (S.add p c) _ q h with h | h
    ·rcases has_addB.mp h with h | rfl
     ·exact .inl h
     ·exact .inr ⟨⟨[c], rfl⟩, ⟨r, by simp⟩, fun e => by
       have := congrArg List.length e
       simp at this⟩
    ·exact .inr (up h)
theorem gone_not : ∀ (l : Path) (S : St) (p : Path), WF S → has S.below p = true → (gone S p l).2 = false → has S.below (p ++ l) = false ∧ has (gone S p l).1.below (p ++ l) = false
 | [], S, p, W, hp, h => by simp [gone] at h
 | c :: r, S, p, W, hp, h => by
  have key : has S.below (p ++ [c]) ≠ true → has S.below (p ++ c :: r) = false := fun hc => by
   cases e : has S.below (p ++ c :: r) with
   | false => rfl
   | true => exact absurd (prefix_has W r (p ++ [c]) (by simpa using e)) hc
  rw [gone_cons] at h ⊢
  split at h
  ·rename_i hc
   rw [if_pos hc]
   have := gone_not r S (p ++ [c]) W hc h
   simpa using this
  ·rename_i hc
   split at h
   ·rename_i hs
    rw [if_neg hc, if_pos hs]
    exact ⟨key hc, key hc⟩
   ·rename_i hs
    rw [if_neg hc, if_neg hs]
    have := gone_not r (S.add p c) (p ++ [c]) (W.add hp hc) (has_addB.mpr (.inr rfl)) h
    exact ⟨key hc, by simpa using this.2⟩
theorem gone_sz : ∀ (l : Path) (S : St) (p : Path) (n : Nat), Sz n S → Sz (n + l.length) (gone S p l).1
 | [], S, p, n, z => z
 | c :: r, S, p, n, z => by
  rw [gone_cons]
  split
  ·exact (gone_sz r S _ n z).le (by simp)
  ·split
   ·exact z.le (by simp)
   ·exact (gone_sz r (S.add p c) _ (n + 1) (z.add p c)).le (by simp; lia)
noncomputable def onKey {β : Type} (l : List (Path × β)) (p : Path) (f : β → β) : List (Path × β) := l.map fun kv => if kv.1 = p then (kv.1, f kv.2) else kv
theorem onKey_keys {β : Type} {l : List (Path × β)} {p : Path} {f : β → β} : (onKey l p f).map (·.1) = l.map (·.1) := by
 unfold onKey
 rw [List.map_map]
 refine List.map_congr_left fun kv _ => ?_
 simp only [Function.comp]
 split <;> rfl
theorem mem_onKey {β : Type} {l : List (Path × β)} {p q : Path} {f : β → β} {b : β} : (q, b) ∈ onKey l p f ↔ (q ≠ p ∧ (q, b) ∈ l) ∨ (q = p ∧ ∃ c, (p, c) ∈ l ∧ b = f c) := by
 unfold onKey
 rw [List.mem_map]
 constructor
 ·rintro ⟨⟨k, c⟩, hm, e⟩
  by_cases hk : k = p
  ·rw [if_pos hk] at e
   obtain ⟨rfl, rfl⟩ := Prod.mk.inj e
   exact .inr ⟨hk, c, hk ▸ hm, rfl⟩
  ·rw [if_neg hk] at e
   cases e
   exact .inl ⟨hk, hm⟩
 ·rintro (⟨hq, hm⟩ | ⟨rfl, c, hm, rfl⟩)
  ·exact ⟨_, hm, by rw [if_neg hq]⟩
  ·exact ⟨_, hm, by rw [if_pos rfl]⟩
theorem has_keys {β : Type} {l : List (Path × β)} {q : Path} : has l q = true ↔ q ∈ l.map (·.1) := by
 rw [has_iff, List.mem_map]
 constructor
 ·rintro ⟨b, hm⟩; exact ⟨_, hm, rfl⟩
 ·rintro ⟨⟨k, b⟩, hm, rfl⟩; exact ⟨b, hm⟩
theorem has_onKey {β : Type} {l : List (Path × β)} {p q : Path} {f : β → β} : has (onKey l p f) q = true ↔ has l q = true := by rw [has_keys, has_keys, onKey_keys]
noncomputable def storeE (l : List (Path × Int)) (p : Path) (k : Int) : List (Path × Int) := if has l p = true then onKey l p fun _ => k else l ++ [(p, k)]
noncomputable def St.put (S : St) (p : Path) (k : Int) : St := { S with below := if has S.ends p = true then S.below else onKey S.below p fun b => b ++ [[]], ends := storeE S.ends p k }
theorem put_below (S : St) (p : Path) (k : Int) : (S.put p k).below = if has S.ends p = true then S.below else onKey S.below p fun b => b ++ [[]] := rfl
theorem has_storeE {l : List (Path × Int)} {p q : Path} {k : Int} : has (storeE l p k) q = true ↔ has l q = true ∨ q = p := by
 unfold storeE
 split
 ·rename_i h
  rw [has_onKey]
  constructor
  ·exact .inl
  ·rintro (h' | rfl)
   ·exact h'
   ·exact h
 ·rw [has_keys, has_keys, List.map_append, List.mem_append]
  simp
theorem has_put {S : St} {p q : Path} {k : Int} : has (S.put p k).below q = true ↔ has S.below q = true := by
 rw [put_below]
 split
 ·exact Iff.rfl
 ·exact has_onKey
theorem mem_put {S : St} {p q : Path} {k : Int} {bs : List Path} (h : (q, bs) ∈ (S.put p k).below) : (q, bs) ∈ S.below ∨ (q = p ∧ ¬ has S.ends p = true ∧ ∃ b, (p, b) ∈ S.below ∧ bs = b ++ [[]]) := by
 rw [put_below] at h
 split at h
 ·exact .inl h
 ·rename_i he
  rcases mem_onKey.mp h with ⟨_, hm⟩ | ⟨rfl, c, hm, rfl⟩
  ·exact .inl hm
  ·exact .inr ⟨rfl, he, c, hm, rfl⟩
theorem WF.put {S : St} (W : WF S) {p : Path} {k : Int} (hp : has S.below p = true) : WF (S.put p k) where
 nd := by
  rw [put_below]
  split
  ·exact W.nd
  ·show ((onKey S.below p _).map (·.1)).Nodup
   rw [onKey_keys]; exact W.nd
 root := has_put.mpr W.root
 kids := by
  intro q bs hm
  have lift : ∀ {g}, ((g = [] ∧ has S.ends q = true) ∨ ∃ c, g = [c] ∧ has S.below (q ++ [c]) = true) → (g = [] ∧ has (S.put p k).ends q = true) ∨ ∃ d, g = [d] ∧ has (S.put p k).below (q ++ [d]) = true := by
   rintro g (⟨h1, h2⟩ | ⟨d, h1, h2⟩)
   ·exact .inl ⟨h1, has_storeE.mpr (.inl h2)⟩
   ·exact .inr ⟨d, h1, has_put.mpr h2⟩
  rcases mem_put hm with hm' | ⟨rfl, he, b, hm', rfl⟩
  ·exact ⟨(W.kids q bs hm').1, fun g hg => lift ((W.kids q bs hm').2 g hg)⟩
  ·refine ⟨?_, fun g hg => ?_⟩
   ·rw [List.nodup_append]
    refine ⟨(W.kids q b hm').1, by simp, ?_⟩
    intro a ha x hx e
    rw [List.mem_singleton] at hx
    subst hx; subst e
    rcases (W.kids q b hm').2 _ ha with ⟨_, h⟩ | ⟨d, h1, _⟩
    ·exact he h
    ·cases h1
   ·rcases List.mem_append.mp hg with hg | hg
    ·exact lift ((W.kids q b hm').2 g hg)
    ·rw [List.mem_singleton] at hg
     exact .inl ⟨hg, has_storeE.mpr (.inr rfl)⟩
 up := by
  intro q c h
  obtain ⟨bs, hm, hb⟩ := W.up q c (has_put.mp h)
  rw [put_below]
  split
  ·exact ⟨bs, hm, hb⟩
  ·by_cases hq : q = p
   ·subst hq
    exact ⟨bs ++ [[]], mem_onKey.mpr (.inr ⟨rfl, bs, hm, rfl⟩), List.mem_append_left _ hb⟩
   ·exact ⟨bs, mem_onKey.mpr (.inl ⟨hq, hm⟩), hb⟩
 ends := by
  intro q h
  rcases has_storeE.mp h with h | rfl
  ·obtain ⟨bs, hm, hb⟩ := W.ends q h
   rw [put_below]
   split
   ·exact ⟨bs, hm, hb⟩
   ·by_cases hq : q = p
    ·subst hq
     exact ⟨bs ++ [[]], mem_onKey.mpr (.inr ⟨rfl, bs, hm, rfl⟩), List.mem_append_left _ hb⟩
    ·exact ⟨bs, mem_onKey.mpr (.inl ⟨hq, hm⟩), hb⟩
  ·rw [put_below]
   split
   ·rename_i he
    exact W.ends q he
   ·obtain ⟨b, hb⟩ := has_iff.mp hp
    exact ⟨b ++ [[]], mem_onKey.mpr (.inr ⟨rfl, b, hb, rfl⟩), by simp⟩
 endnd := by
  show ((storeE S.ends p k).map (·.1)).Nodup
  unfold storeE
  split
  ·rw [onKey_keys]; exact W.endnd
  ·rename_i he
   rw [List.map_append, List.nodup_append]
   refine ⟨W.endnd, by simp, ?_⟩
   intro a ha b hb e
   simp at hb
   subst hb; subst e
   exact he (has_keys.mpr ha)
 shutk := fun q hq => has_put.mpr (W.shutk q hq)
theorem look_put_self {S : St} {p : Path} {k : Int} (W : WF S) : look (S.put p k).ends p = some k := by
 have hn : ((storeE S.ends p k).map (·.1)).Nodup := by
  unfold storeE
  split
  ·rw [onKey_keys]; exact W.endnd
  ·rename_i he
   rw [List.map_append, List.nodup_append]
   refine ⟨W.endnd, by simp, ?_⟩
   intro a ha b hb e
   simp at hb
   subst hb; subst e
   exact he (has_keys.mpr ha)
 refine mem_look hn ?_
 show (p, k) ∈ storeE S.ends p k
 unfold storeE
 split
 ·rename_i he
  obtain ⟨b, hb⟩ := has_iff.mp he
  exact mem_onKey.mpr (.inr ⟨rfl, b, hb, rfl⟩)
 ·simp
theorem look_put_ne {S : St} {p q : Path} {k : Int} (h : q ≠ p) : look (S.put p k).ends q = look S.ends q := by
 show look (storeE S.ends p k) q = look S.ends q
 have gen : ∀ (l : List (Path × Int)), look (onKey l p fun _ => k) q = look l q := by
  intro l
  unfold look onKey
  induction l with
  | nil => rfl
  | cons x r ih =>
   by_cases hx : x.1 = p
   ·have : ¬ (x.1 = q) := fun e => h (e.symm.trans hx)
    rw [List.map_cons, if_pos hx, List.find?_cons_of_neg (by simpa using this), List.find?_cons_of_neg (by simpa using this)]
    exact ih
   ·rw [List.map_cons, if_neg hx]
    by_cases hq : x.1 = q
    ·rw [List.find?_cons_of_pos (by simpa using hq), List.find?_cons_of_pos (by simpa using hq)]
    ·rw [List.find?_cons_of_neg (by simpa using hq), List.find?_cons_of_neg (by simpa using hq)]
     exact ih
 unfold storeE
 split
 ·exact gen _
 ·unfold look
  rw [List.find?_append]
  cases S.ends.find? fun kv => decide (kv.1 = q) with
  | some x => rfl
  | none => rw [Option.none_or, List.find?_cons_of_neg (by simpa using fun e => h e.symm)]; rfl
end
section
noncomputable def under (x p : Path) : Bool := x.isPrefixOf p
theorem under_iff {x p : Path} : under x p = true ↔ x <+: p := List.isPrefixOf_iff_prefix
noncomputable def St.drop (S : St) (x : Path) : St where
 below := (S.below.filter fun kv => !under x kv.1).map fun kv => (kv.1, kv.2.filter fun g => decide (kv.1 ++ g ≠ x))
 ends := S.ends.filter fun kv => !under x kv.1
 shut := S.shut.filter fun p => !under x p
noncomputable def St.cut (S : St) (p : Path) (c : Nat) : St := { S with below := onKey S.below p fun bs => bs.filter fun g => decide (g ≠ [c]) }
theorem cut_below (S : St) (p : Path) (c : Nat) : (S.cut p c).below = onKey S.below p fun bs => bs.filter fun g => decide (g ≠ [c]) := rfl
theorem has_cut {S : St} {p q : Path} {c : Nat} : has (S.cut p c).below q = true ↔ has S.below q = true := by rw [cut_below]; exact has_onKey
theorem mem_drop {S : St} {x q : Path} {bs : List Path} : (q, bs) ∈ (S.drop x).below ↔ ¬ x <+: q ∧ ∃ b, (q, b) ∈ S.below ∧ bs = b.filter fun g => decide (q ++ g ≠ x) := by
 show (q, bs) ∈ List.map _ _ ↔ _
 rw [List.mem_map]
 constructor
 ·rintro ⟨⟨k, b⟩, hm, e⟩
  obtain ⟨rfl, rfl⟩ := Prod.mk.inj e
  rw [List.mem_filter] at hm
  exact ⟨fun h => by simp [under_iff.mpr h] at hm, b, hm.1, rfl⟩
 ·rintro ⟨h, b, hm, rfl⟩
  refine ⟨(q, b), List.mem_filter.mpr ⟨hm, ?_⟩, rfl⟩
  cases e : under x q with
  | false => rfl
  | true => exact absurd (under_iff.mp e) h
theorem has_drop {S : St} {x q : Path} : has (S.drop x).below q = true ↔ ¬ x <+: q ∧ has S.below q = true := by
 rw [has_iff, has_iff]
 constructor
 ·rintro ⟨bs, h⟩
  obtain ⟨h1, b, hb, _⟩ := mem_drop.mp h
  exact ⟨h1, b, hb⟩
 ·rintro ⟨h, b, hb⟩
  exact ⟨_, mem_drop.mpr ⟨h, b, hb, rfl⟩⟩
theorem look_filter {β : Type} {l : List (Path × β)} {f : Path → Bool} {q : Path} : look (l.filter fun kv => f kv.1) q = if f q = true then look l q else none := by
 unfold look
 induction l with
 | nil => simp
 | cons x r ih =>
  by_cases hq : x.1 = q
  ·by_cases hf : f q = true
   ·have hf' : f x.1 = true := hq ▸ hf
    rw [List.filter_cons_of_pos (by exact hf'), List.find?_cons_of_pos (by simpa using hq), List.find?_cons_of_pos (by simpa using hq), if_pos hf]
   ·have hf' : ¬ f x.1 = true := hq ▸ hf
    rw [List.filter_cons_of_neg (by exact hf'), ih, if_neg hf, if_neg hf]
  ·by_cases hf : f x.1 = true
   ·rw [List.filter_cons_of_pos (by exact hf), List.find?_cons_of_neg (by simpa using hq), List.find?_cons_of_neg (by simpa using hq)]
    exact ih
   ·rw [List.filter_cons_of_neg (by exact hf), List.find?_cons_of_neg (by simpa using hq)]
    exact ih
theorem look_drop {S : St} {x q : Path} (h : ¬ x <+: q) : look (S.drop x).ends q = look S.ends q := by
 refine (look_filter (l := S.ends) (f := fun p => !under x p) (q := q)).trans (if_pos ?_)
 cases e : under x q with
 | false => rfl
 | true => exact absurd (under_iff.mp e) h
theorem has_dropE {S : St} {x q : Path} : has (S.drop x).ends q = true ↔ ¬ x <+: q ∧ has S.ends q = true := by
 rw [has_iff, has_iff]
 show (∃ b, (q, b) ∈ S.ends.filter _) ↔ _
 constructor
 ·rintro ⟨b, h⟩
  rw [List.mem_filter] at h
  exact ⟨fun hu => by simp [under_iff.mpr hu] at h, b, h.1⟩
 ·rintro ⟨h, b, hb⟩
  refine ⟨b, List.mem_filter.mpr ⟨hb, ?_⟩⟩
  cases e : under x q with
  | false => rfl
  | true => exact absurd (under_iff.mp e) h
theorem mem_dropS {S : St} {x q : Path} : q ∈ (S.drop x).shut ↔ ¬ x <+: q ∧ q ∈ S.shut := by
 show q ∈ S.shut.filter _ ↔ _
 rw [List.mem_filter]
 constructor
 ·rintro ⟨h1, h2⟩
  exact ⟨fun hu => by simp [under_iff.mpr hu] at h2, h1⟩
 ·rintro ⟨h, h1⟩
  refine ⟨h1, ?_⟩
  cases e : under x q with
  | false => rfl
  | true => exact absurd (under_iff.mp e) h
theorem prefix_snoc {x q : Path} {c : Nat} (h : x <+: q ++ [c]) : x <+: q ∨ x = q ++ [c] := by
 obtain ⟨r, e⟩ := h
 rcases List.eq_nil_or_concat r with rfl | ⟨r', d, rfl⟩
 ·exact .inr (by simpa using e)
 ·have : (x ++ r') ++ [d] = q ++ [c] := by simpa using e
  exact .inl ⟨r', (List.append_inj' this rfl).1⟩
theorem nodup_filter_keys {β γ : Type} {l : List (Path × β)} {f : Path × β → Bool} {g : Path × β → Path × γ} (hg : ∀ kv, (g kv).1 = kv.1) (h : (l.map (·.1)).Nodup) : (((l.filter f).map g).map (·.1)).Nodup := by
 rw [List.map_map, show ((fun x : Path × γ => x.1) ∘ g) = fun kv => kv.1 from funext hg]
 exact List.Nodup.sublist (List.Sublist.map _ List.filter_sublist) h
theorem WF.drop {S : St} (W : WF S) {x : Path} (hx : x ≠ []) : WF (S.drop x) where
 nd := nodup_filter_keys (fun _ => rfl) W.nd
 root := has_drop.mpr ⟨fun h => hx (List.prefix_nil.mp h), W.root⟩
 kids := by
  intro q bs hm
  obtain ⟨hq, b, hb, rfl⟩ := mem_drop.mp hm
  refine ⟨List.Nodup.sublist List.filter_sublist (W.kids q b hb).1, fun g hg => ?_⟩
  rw [List.mem_filter] at hg
  rcases (W.kids q b hb).2 g hg.1 with ⟨rfl, h⟩ | ⟨c, rfl, h⟩
  ·exact .inl ⟨rfl, has_dropE.mpr ⟨hq, h⟩⟩
  ·refine .inr ⟨c, rfl, has_drop.mpr ⟨fun hu => ?_, h⟩⟩
   rcases prefix_snoc hu with h1 | h1
   ·exact hq h1
   ·have := hg.2
    simp [h1.symm] at this
 up := by
  intro q c h
  obtain ⟨hq, h⟩ := has_drop.mp h
  obtain ⟨bs, hm, hb⟩ := W.up q c h
  refine ⟨_, mem_drop.mpr ⟨fun hu => hq (List.IsPrefix.trans hu ⟨[c], rfl⟩), bs, hm, rfl⟩, List.mem_filter.mpr ⟨hb, ?_⟩⟩
  have : q ++ [c] ≠ x := fun e => hq (e ▸ List.prefix_refl _)
  simpa using this
 ends := by
  intro q h
  obtain ⟨hq, h⟩ := has_dropE.mp h
  obtain ⟨bs, hm, hb⟩ := W.ends q h
  refine ⟨_, mem_drop.mpr ⟨hq, bs, hm, rfl⟩, List.mem_filter.mpr ⟨hb, ?_⟩⟩
  have : q ≠ x := fun e => hq (e ▸ List.prefix_refl _)
  simpa using this
 endnd := List.Nodup.sublist (List.Sublist.map _ List.filter_sublist) W.endnd
 shutk := fun q hq => let ⟨h1, h2⟩ := mem_dropS.mp hq; has_drop.mpr ⟨h1, W.shutk q h2⟩
theorem filter_same {α : Type} {l : List α} {f : α → Bool} (h : ∀ a ∈ l, f a = true) : l.filter f = l := List.filter_eq_self.mpr h
theorem drop_none {S : St} (W : WF S) {x : Path} (hn : ¬ has S.below x = true) : S.drop x = S := by
 have hu : ∀ q, has S.below q = true → under x q = false := fun q hq => by
  cases e : under x q with
  | false => rfl
  | true =>
   obtain ⟨r, rfl⟩ := under_iff.mp e
   exact absurd (prefix_has W r x hq) hn
 have e1 : (S.below.filter fun kv => !under x kv.1) = S.below := filter_same fun kv hkv => by rw [hu kv.1 (has_iff.mpr ⟨kv.2, hkv⟩)]; rfl
 obtain ⟨below, ends, shut⟩ := S
 show St.mk _ _ _ = _
 have e2 : ((below.filter fun kv => !under x kv.1).map fun kv => (kv.1, kv.2.filter fun g => decide (kv.1 ++ g ≠ x))) = below := by
  rw [e1]
  conv => rhs; rw [← List.map_id below]
  refine List.map_congr_left fun kv hkv => ?_
  have : (kv.2.filter fun g => decide (kv.1 ++ g ≠ x)) = kv.2 := filter_same fun g hg => by
   have hne : kv.1 ++ g ≠ x := fun e => by
    rcases (W.kids kv.1 kv.2 hkv).2 g hg with ⟨rfl, _⟩ | ⟨c, rfl, h⟩
    ·exact hn (by rw [← e, List.append_nil]; exact has_iff.mpr ⟨kv.2, hkv⟩)
    ·exact hn (e ▸ h)
   simpa using hne
  rw [this]; rfl
 have e3 : (ends.filter fun kv => !under x kv.1) = ends := filter_same fun kv hkv => by
  obtain ⟨bs, hm, _⟩ := W.ends kv.1 (has_iff.mpr ⟨kv.2, hkv⟩)
  rw [hu kv.1 (has_iff.mpr ⟨bs, hm⟩)]; rfl
 have e4 : (shut.filter fun p => !under x p) = shut := filter_same fun p hp => by rw [hu p (W.shutk p hp)]; rfl
 rw [e2, e3, e4]
theorem Sz.drop {n : Nat} {S : St} (z : Sz n S) (x : Path) : Sz n (S.drop x) := by
 intro q bs hm
 obtain ⟨_, b, hb, rfl⟩ := mem_drop.mp hm
 exact Nat.le_trans (List.length_filter_le ..) (z q b hb)
theorem Sz.put {n : Nat} {S : St} (z : Sz n S) (p : Path) (k : Int) : Sz (n + 1) (S.put p k) := by
 intro q bs hm
 rcases mem_put hm with hm' | ⟨rfl, _, b, hb, rfl⟩
 ·exact Nat.le_succ_of_le (z q bs hm')
 ·rw [List.length_append]; exact Nat.add_le_add_right (z _ b hb) 1
theorem Sz.close {n : Nat} {S : St} (z : Sz n S) (p : Path) : Sz n (S.close p) := z
theorem Tree.sub {w : World} {h : Heap} {S S' : St} {α δ : Path → Nat} (T : Tree w h S α δ) (hb : ∀ q bs, (q, bs) ∈ S'.below → (q, bs) ∈ S.below) (hs : ∀ q, has S'.below q = true → (q ∈ S'.shut ↔ q ∈ S.shut)) (he : ∀ q, has S'.below q = true → look S'.ends q = look S.ends q) : Tree w h S' α δ where
 bs := T.bs
 tab := T.tab
 node := fun p bs hm => by
  obtain ⟨kvs, hn, hE⟩ := T.node p bs (hb p bs hm)
  refine ⟨kvs, hn, hE.mono fun g hg v hv => ?_⟩
  unfold EntV at hv ⊢
  rw [he p (has_iff.mpr ⟨bs, hm⟩)]
  exact hv
 door := fun p hp => by
  obtain ⟨bs, hm⟩ := has_iff.mp hp
  have := T.door p (has_iff.mpr ⟨bs, hb p bs hm⟩)
  by_cases h : p ∈ S.shut
  ·rw [if_pos h] at this
   rw [if_pos ((hs p hp).mpr h)]
   exact this
  ·rw [if_neg h] at this
   rw [if_neg fun h' => h ((hs p hp).mp h')]
   exact this
 inj := fun p q hp hq => by
  obtain ⟨b1, h1⟩ := has_iff.mp hp
  obtain ⟨b2, h2⟩ := has_iff.mp hq
  exact T.inj p q (has_iff.mpr ⟨b1, hb _ _ h1⟩) (has_iff.mpr ⟨b2, hb _ _ h2⟩)
 injd := fun p q hp hq => by
  obtain ⟨b1, h1⟩ := has_iff.mp hp
  obtain ⟨b2, h2⟩ := has_iff.mp hq
  exact T.injd p q (has_iff.mpr ⟨b1, hb _ _ h1⟩) (has_iff.mpr ⟨b2, hb _ _ h2⟩)
 lod := fun p hp => by
  obtain ⟨b1, h1⟩ := has_iff.mp hp
  exact T.lod p (has_iff.mpr ⟨b1, hb _ _ h1⟩)
theorem Tree.turn {w : World} {h h' : Heap} {S S' : St} {α δ : Path → Nat} {p : Path} {kvs : KVs} (T : Tree w h S α δ) (hp : has S.below p = true) (hn : NodeAt w h' (α p) (δ p) kvs) (k : ∀ b o, b ≠ α p → h.get? b = some o → h'.get? b = some o)
  (hbelow : ∀ q, has S'.below q = true ↔ has S.below q = true) (hshut : S'.shut = S.shut) (hother : ∀ q bs, q ≠ p → (q, bs) ∈ S'.below → (q, bs) ∈ S.below) (hends : ∀ q, q ≠ p → look S'.ends q = look S.ends q) (hp' : ∀ bs, (p, bs) ∈ S'.below → Ents S' α p bs kvs) : Tree w h' S' α δ := by
 have k3 : ∀ b o, h.get? b = some o → Nd3 o → h'.get? b = some o := fun b o e h3 => k b o (T.nondict e h3.nd p hp).1 e
 have tab' : Tab h' := T.tab.need k3 fun o e => k _ _ (T.away100 100 (by decide) p hp).1 e
 refine ⟨T.bs.mono (fun b o hb _ e => k b o (T.away100 b hb p hp).1 e) (let ⟨_, hP, _⟩ := tab'; ⟨_, hP⟩), tab', fun q bs hm => ?_, fun q hq => ?_, fun q r hq hr => T.inj q r ((hbelow q).mp hq) ((hbelow r).mp hr), fun q r hq hr => T.injd q r ((hbelow q).mp hq) ((hbelow r).mp hr), fun q hq => T.lod q ((hbelow q).mp hq)⟩
 ·by_cases hqp : q = p
  ·subst hqp
   exact ⟨kvs, hn, hp' bs hm⟩
  ·have hm' := hother q bs hqp hm
   obtain ⟨kvs', hn', hE⟩ := T.node q bs hm'
   have hq' : has S.below q = true := has_iff.mpr ⟨bs, hm'⟩
   refine ⟨kvs', ⟨hn'.lo, hn'.at_.at fun o e => k _ _ (fun x => hqp (T.inj q p hq' hp x)) e⟩, hE.mono fun g hg v hv => ?_⟩
   unfold EntV at hv ⊢
   rw [hends q hqp]; exact hv
 ·have hq' := (hbelow q).mp hq
  have := T.door q hq'
  rw [hshut]
  split
  ·rename_i h0
   rw [if_pos h0] at this
   exact this.need (fun o e => k _ _ (Ne.symm (T.ad hp hq')) e) k3
  ·rename_i h0
   rw [if_neg h0] at this
   obtain ⟨ep, e⟩ := this
   exact ⟨ep, k _ _ (Ne.symm (T.ad hp hq')) e⟩
end
section
theorem stored_ents {S S' : St} {α : Path → Nat} {p : Path} {k : Int} {t : Tok} (hl : look S'.ends p = some k) {bs : List Path} {kvs : KVs} (x : Ents S α p bs kvs) : Ents S' α p bs (kvs.map fun kv => if kv.1 = toS [] then (kv.1, .int k t) else kv) := by
 induction x with
 | nil => exact .nil
 | @cons g bs v kvs hv r ih =>
  rw [List.map_cons]
  by_cases hg : g = []
  ·subst hg
   rw [if_pos rfl]
   exact .cons (by unfold EntV; rw [if_pos rfl]; exact ⟨k, t, hl, rfl⟩) ih
  ·rw [if_neg (fun e => hg (toS_inj e))]
   refine .cons ?_ ih
   unfold EntV at hv ⊢
   rw [if_neg hg] at hv ⊢
   exact hv
theorem any_keys {kvs : KVs} {x : Str} : (kvs.any fun kv => decide (kv.1 = x)) = true ↔ x ∈ kvs.map (·.1) := by
 rw [List.any_eq_true, List.mem_map]
 constructor
 ·rintro ⟨kv, h, e⟩; exact ⟨kv, h, of_decide_eq_true e⟩
 ·rintro ⟨kv, h, e⟩; exact ⟨kv, h, decide_eq_true e⟩
theorem mem_toS {bs : List Path} {g : Path} : toS g ∈ bs.map toS ↔ g ∈ bs := by
 rw [List.mem_map]
 constructor
 ·rintro ⟨g', h, e⟩; exact toS_inj e ▸ h
 ·exact fun h => ⟨g, h, rfl⟩
theorem end_mem {S : St} (W : WF S) {p : Path} {bs : List Path} (hb : (p, bs) ∈ S.below) : [] ∈ bs ↔ has S.ends p = true := by
 constructor
 ·intro h
  rcases (W.kids p bs hb).2 _ h with ⟨_, h⟩ | ⟨c, e, _⟩
  ·exact h
  ·cases e
 ·intro h
  obtain ⟨bs', hb', h'⟩ := W.ends p h
  exact key_uniq W.nd hb' hb ▸ h'
section
variable {w : World} {A : Around} {E : Value → Shared → Prop} {s : Shared} {S : St} {α δ : Path → Nat} {p : Path} {t : Tok}
theorem tree_put {k : Int} {u : Tok} {Q : Unit → Shared → Prop} (T : Tree w s.heap S α δ) (W : WF S) (z : Sz sizeLine S) (hp : has S.below p = true)
  (h : ∀ s', Sx s s' → Tree w s'.heap (S.put p k) α δ → (∀ b o, b ≠ α p → s.heap.get? b = some o → s'.heap.get? b = some o) → Q () s') : wpAny (Md w) A (setItem (.ref (α p)) (.str (toS []) t) (.int k u)) Q E s := by
 obtain ⟨bs, hb⟩ := has_iff.mp hp
 obtain ⟨kvs, hn, he⟩ := T.node p bs hb
 refine node_setItem T.bs hn (by rw [he.len]; exact z p bs hb) fun h' hn' S' => h _ .of ?_ fun b o hb e => (S'.2 b hb).trans e
 refine T.turn hp hn' (fun b o hb e => (S'.2 b hb).trans e) (fun q => has_put) rfl (fun q qs hq hm => ?_) (fun q hq => look_put_ne hq) fun qs hm => ?_
 ·rcases mem_put hm with hm | ⟨rfl, _⟩
  ·exact hm
  ·exact absurd rfl hq
 ·unfold stored
  by_cases hE : has S.ends p = true
  ·have hmem := (end_mem W hb).mpr hE
   rw [if_pos (any_keys.mpr (he.keys ▸ mem_toS.mpr hmem))]
   have : qs = bs := by
    rw [put_below, if_pos hE] at hm
    exact key_uniq W.nd hm hb
   subst this
   exact stored_ents (look_put_self W) he
  ·have hmem : [] ∉ bs := fun h => hE ((end_mem W hb).mp h)
   rw [if_neg (fun h => hmem (mem_toS.mp (he.keys ▸ any_keys.mp h)))]
   have : qs = bs ++ [[]] := by
    rw [put_below, if_neg hE] at hm
    rcases mem_onKey.mp hm with ⟨h, _⟩ | ⟨_, b, hb', rfl⟩
    ·exact absurd rfl h
    ·rw [key_uniq W.nd hb' hb]
   subst this
   refine (he.mono fun g hg v hv => ?_).snoc ?_
   ·unfold EntV at hv ⊢
    have : g ≠ [] := fun e => hmem (e ▸ hg)
    rw [if_neg this] at hv ⊢
    exact hv
   ·unfold EntV
    rw [if_pos rfl]
    exact ⟨k, u, look_put_self W, rfl⟩
theorem without_ents {S S' : St} {α : Path → Nat} {p : Path} {c : Nat} (hl : look S'.ends p = look S.ends p) {bs : List Path} {kvs : KVs} (x : Ents S α p bs kvs) : Ents S' α p (bs.filter fun g => decide (g ≠ [c])) (without kvs (toS [c])) := by
 induction x with
 | nil => exact .nil
 | @cons g bs v kvs hv r ih =>
  have hv' : EntV S' α p g v := by unfold EntV at hv ⊢; rw [hl]; exact hv
  unfold without at ih ⊢
  by_cases hg : g = [c]
  ·subst hg
   rw [List.filter_cons_of_neg (by simp), List.filter_cons_of_neg (by simp)]
   exact ih
  ·rw [List.filter_cons_of_pos (by simpa using hg), List.filter_cons_of_pos (by simpa using fun e => hg (toS_inj e))]
   exact .cons hv' ih
theorem tree_pop {c : Nat} {y : Value} {Q : Value → Shared → Prop} (T : Tree w s.heap S α δ) (W : WF S) (z : Sz sizeLine S) (hp : has S.below p = true)
  (hno : ¬ has S.below (p ++ [c]) = true → ∀ tk, Q y { s with toks := tk })
  (h : has S.below (p ++ [c]) = true → ∀ s', Sx s s' → Tree w s'.heap (S.cut p c) α δ → (∀ b o, b ≠ α p → s.heap.get? b = some o → s'.heap.get? b = some o) → Q (.ref (α (p ++ [c]))) s') : wpAny (Md w) A (call (.builtin "dict.pop") [.ref (α p), .str (toS [c]) t, y]) Q E s := by
 obtain ⟨bs, hb⟩ := has_iff.mp hp
 obtain ⟨kvs, hn, he⟩ := T.node p bs hb
 refine node_pop T.bs hn (by rw [he.len]; exact z p bs hb) (fun hv => hno fun hc => ?_) fun v hv h' tk hn' S' => ?_
 ·obtain ⟨v, h1, _⟩ := he.val ((kid_of W hb).mpr hc)
  rw [hv] at h1; cases h1
 ·have hmem : [c] ∈ bs := by
   cases Classical.em ([c] ∈ bs) with
   | inl h => exact h
   | inr h => rw [he.none h] at hv; cases hv
  have hc := (kid_of W hb).mp hmem
  obtain ⟨v', h1, h2⟩ := he.val hmem
  rw [hv] at h1; cases h1
  unfold EntV at h2
  rw [if_neg (by simp)] at h2
  subst h2
  refine h hc _ .of ?_ fun b o hb e => (S'.2 b hb).trans e
  refine T.turn hp hn' (fun b o hb e => (S'.2 b hb).trans e) (fun q => has_cut) rfl (fun q qs hq hm => ?_) (fun q hq => rfl) fun qs hm => ?_
  ·rw [cut_below] at hm
   rcases mem_onKey.mp hm with ⟨_, hm⟩ | ⟨rfl, _⟩
   ·exact hm
   ·exact absurd rfl hq
  ·rw [cut_below] at hm
   rcases mem_onKey.mp hm with ⟨hm, _⟩ | ⟨_, b, hb', rfl⟩
   ·exact absurd rfl hm
   ·rw [key_uniq W.nd hb' hb]
    exact without_ents (S := S) (S' := S.cut p c) rfl he
end
theorem cut_wfl {S : St} (W : WF S) (p : Path) (c : Nat) : WFl (S.cut p c) where
 nd := by rw [cut_below, onKey_keys]; exact W.nd
 kids := by
  intro q bs hm g hg
  rw [cut_below] at hm
  have up : ∀ {g}, ((g = [] ∧ has S.ends q = true) ∨ ∃ c, g = [c] ∧ has S.below (q ++ [c]) = true) → (g = [] ∧ has S.ends q = true) ∨ ∃ d, g = [d] ∧ has (S.cut p c).below (q ++ [d]) = true := by
   rintro g (h | ⟨d, h1, h2⟩)
   ·exact .inl h
   ·exact .inr ⟨d, h1, has_cut.mpr h2⟩
  rcases mem_onKey.mp hm with ⟨_, hm⟩ | ⟨rfl, b, hb, rfl⟩
  ·exact up ((W.kids q bs hm).2 g hg)
  ·exact up ((W.kids q b hb).2 g (List.mem_filter.mp hg).1)
theorem drop_of_cut {w : World} {h : Heap} {S : St} {α δ : Path → Nat} {p : Path} {c : Nat} (W : WF S) (T : Tree w h (S.cut p c) α δ) : Tree w h (S.drop (p ++ [c])) α δ := by
 refine T.sub (fun q bs hm => ?_) (fun q hq => ?_) fun q hq => look_drop (has_drop.mp hq).1
 ·obtain ⟨hq, b, hb, rfl⟩ := mem_drop.mp hm
  rw [cut_below]
  by_cases hqp : q = p
  ·subst hqp
   refine mem_onKey.mpr (.inr ⟨rfl, b, hb, List.filter_congr fun g _ => ?_⟩)
   simp
  ·refine mem_onKey.mpr (.inl ⟨hqp, ?_⟩)
   rw [filter_same fun g hg => ?_]
   ·exact hb
   ·have hne : q ++ g ≠ p ++ [c] := fun e => by
     rcases (W.kids q b hb).2 g hg with ⟨rfl, _⟩ | ⟨d, rfl, _⟩
     ·exact hq (by rw [← e, List.append_nil]; exact List.prefix_refl _)
     ·exact hqp (List.append_inj' e rfl).1
    simpa using hne
 ·have := (has_drop.mp hq).1
  rw [mem_dropS]
  exact ⟨fun h => h.2, fun h => ⟨this, h⟩⟩
theorem Sz.cut {n : Nat} {S : St} (z : Sz n S) (p : Path) (c : Nat) : Sz n (S.cut p c) := by
 intro q bs hm
 rw [cut_below] at hm
 rcases mem_onKey.mp hm with ⟨_, hm⟩ | ⟨rfl, b, hb, rfl⟩
 ·exact z q bs hm
 ·exact Nat.le_trans (List.length_filter_le ..) (z q b hb)
end
section
noncomputable def eRun (L : Nat) : Env := callEnvC (fdL 68 "_law_run" 269) L 270
theorem own_run {L b : Nat} (h : OwnA (eRun L) b) : b = L := by
 rcases h with rfl | ⟨y, e⟩
 ·rfl
 ·have e' : List.lookup y ([] : List (Str × Addr)) = some b := e
  cases e'
def NoD (o : Obj) : Prop := ∀ es n, o.data ≠ .dict es n
theorem noD_seq {o : Obj} {vs : Array Value} {n : Nat} (h : o.data = .seq vs n) : NoD o := fun es k e => by rw [h] at e; cases e
theorem noD_fields {o : Obj} {vs : Array Value} (h : o.data = .fields vs) : NoD o := fun es k e => by rw [h] at e; cases e
structure RunAt (w : World) (L : Nat) (hB h₀ : Heap) (S : St) (n : Nat) (α δ : Path → Nat) (root σ π : Nat) (told : List PyData) (h : Heap) (m : Str → Option Value) : Prop where
 T : Tree w h S α δ
 W : WF S
 z : Sz n S
 V : Vars h (eRun L) m
 off : Away S α δ L
 hL : 303 ≤ L
 rt : α [] = root
 hσ : 303 ≤ σ
 st : ∃ ys, h.PlainList σ ys.toArray ∧ IsAll (fun b => b ≠ σ ∧ b ≠ π) h ys told
 pi : ∃ ps, h.PlainList π ps
 frm : ∀ b o, hB.get? b = some o → b ≠ 100 → h.get? b = some o ∧ Away S α δ b ∧ b ≠ L ∧ b ≠ σ ∧ b ≠ π
 old : ∀ b o, h₀.get? b = some o → NoD o → b ≠ σ → b ≠ 100 → h.get? b = some o
section
variable {w : World} {L : Nat} {hB h₀ : Heap} {S S' : St} {n n' : Nat} {α δ α' δ' : Path → Nat} {root σ π : Nat} {told : List PyData} {h h' : Heap} {m m' : Str → Option Value}
theorem Tree.ne100 (T : Tree w h S α δ) {b : Nat} {o : Obj} (e : h.get? b = some o) (hd : ∀ vs, o.data ≠ .fields vs) : b ≠ 100 := by
 rintro rfl
 obtain ⟨ps, hP, _⟩ := T.tab
 rw [hP] at e; cases e
 exact hd _ rfl
theorem plain_nd {h : Heap} {b : Nat} {xs : Array Value} (x : h.PlainList b xs) : ∃ o n, h.get? b = some o ∧ o.data = .seq xs n := let ⟨n, e⟩ := x; ⟨_, n, e, rfl⟩
theorem RunAt.step (R : RunAt w L hB h₀ S n α δ root σ π told h m) (T : Tree w h' S' α' δ') (W : WF S') (z : Sz n' S') (hr : α' [] = root) (k : ∀ b o, h.get? b = some o → b ≠ 100 → Away S α δ b → h'.get? b = some o ∧ Away S' α' δ' b) : RunAt w L hB h₀ S' n' α' δ' root σ π told h' m := by
 have n100 : L ≠ 100 := by have := R.hL; lia
 have seqK : ∀ b o, h.get? b = some o → (∃ vs n, o.data = .seq vs n) → h'.get? b = some o := fun b o e ⟨vs, n, hd⟩ => (k b o e (R.T.ne100 e fun vs' e' => by rw [hd] at e'; cases e') (R.T.nondict e (noD_seq hd))).1
 obtain ⟨oL, hoL⟩ := R.V.own (.inl rfl)
 refine ⟨T, W, z, R.V.keep fun b o hb e => ?_, (k L oL hoL n100 R.off).2, R.hL, hr, R.hσ, ?_, ?_, fun b o e h1 => let ⟨f1, f2, f3⟩ := R.frm b o e h1; ⟨(k b o f1 h1 f2).1, (k b o f1 h1 f2).2, f3⟩, fun b o e nd h1 h3 => ?_⟩
 ·have := own_run hb
  subst this
  exact (k _ o e n100 R.off).1
 ·obtain ⟨ys, ⟨nn, hy⟩, hI⟩ := R.st
  exact ⟨ys, ⟨nn, seqK _ _ hy ⟨_, _, rfl⟩⟩, hI.keep (fun b o _ e hd => seqK b o e hd) fun _ h => h⟩
 ·obtain ⟨ps, nn, hp⟩ := R.pi
  exact ⟨ps, nn, seqK _ _ hp ⟨_, _, rfl⟩⟩
 ·have e1 := R.old b o e nd h1 h3
  exact (k b o e1 h3 (R.T.nondict e1 nd)).1
theorem RunAt.grow (R : RunAt w L hB h₀ S n α δ root σ π told h m) (k : ∀ b o, h.get? b = some o → h'.get? b = some o) : RunAt w L hB h₀ S n α δ root σ π told h' m :=
 R.step (R.T.grow k) R.W R.z R.rt fun b o e _ a => ⟨k b o e, a⟩
theorem RunAt.le (R : RunAt w L hB h₀ S n α δ root σ π told h m) (hn : n ≤ n') : RunAt w L hB h₀ S n' α δ root σ π told h m := ⟨R.T, R.W, R.z.le hn, R.V, R.off, R.hL, R.rt, R.hσ, R.st, R.pi, R.frm, R.old⟩
theorem RunAt.loc (R : RunAt w L hB h₀ S n α δ root σ π told h m) (V' : Vars h' (eRun L) m') (k : ∀ b o, b ≠ L → h.get? b = some o → h'.get? b = some o) : RunAt w L hB h₀ S n α δ root σ π told h' m' := by
 obtain ⟨ml, ⟨oL, es, ep, hoL, hdL, _⟩, _⟩ := R.V.ns
 have hoL : h.get? L = some oL := hoL
 have seqK : ∀ b o, h.get? b = some o → NoD o → h'.get? b = some o := fun b o e nd => k b o (fun x => by subst x; rw [hoL] at e; cases e; exact nd _ _ hdL) e
 refine ⟨R.T.same R.hL hoL hdL R.off k, R.W, R.z, V', R.off, R.hL, R.rt, R.hσ, ?_, ?_, fun b o e h1 => let ⟨f1, f2, f3⟩ := R.frm b o e h1; ⟨k b o f3.1 f1, f2, f3⟩, fun b o e nd h1 h3 => seqK b o (R.old b o e nd h1 h3) nd⟩
 ·obtain ⟨ys, ⟨nn, hy⟩, hI⟩ := R.st
  exact ⟨ys, ⟨nn, seqK _ _ hy (noD_seq rfl)⟩, hI.keep (fun b o _ e ⟨vs, n, hd⟩ => seqK b o e (noD_seq hd)) fun _ h => h⟩
 ·obtain ⟨ps, nn, hp⟩ := R.pi
  exact ⟨ps, nn, seqK _ _ hp (noD_seq rfl)⟩
theorem RunAt.app {v : Value} {d : PyData} {ys : List Value} (R : RunAt w L hB h₀ S n α δ root σ π told h m) (hσπ : σ ≠ π) (hy : h.PlainList σ ys.toArray) (hI : IsAll (fun b => b ≠ σ ∧ b ≠ π) h ys told) (hv : Is (fun b => b ≠ σ ∧ b ≠ π) h v d)
  (hl : h'.PlainList σ (ys ++ [v]).toArray) (k : ∀ b o, b ≠ σ → h.get? b = some o → h'.get? b = some o) : RunAt w L hB h₀ S n α δ root σ π (told ++ [d]) h' m := by
 obtain ⟨nn, hy⟩ := hy
 have hLσ : L ≠ σ := fun e => by
  obtain ⟨ml, ⟨oL, es, ep, hoL, hdL, _⟩, _⟩ := R.V.ns
  have hoL : h.get? L = some oL := hoL
  rw [e, hy] at hoL; cases hoL; cases hdL
 have Tn : Tree w h' S α δ := R.T.keep fun b o e hn => k b o (by
  rintro rfl
  rcases hn with hn | ⟨p, hp, hn | hn⟩ | hn
  ·have := R.hσ; lia
  ·exact (R.T.nondict hy (noD_seq rfl) p hp).1 hn
  ·exact (R.T.nondict hy (noD_seq rfl) p hp).2 hn
  ·rw [hy] at e; cases e
   rcases hn with ⟨_, h⟩ | ⟨_, h⟩ | ⟨_, h, _⟩ <;> cases h) e
 refine ⟨Tn, R.W, R.z, R.V.keep fun b o hb e => ?_, R.off, R.hL, R.rt, R.hσ, ⟨ys ++ [v], hl, ?_⟩, ?_, fun b o e h1 => let ⟨f1, f2, f3⟩ := R.frm b o e h1; ⟨k b o f3.2.1 f1, f2, f3⟩, fun b o e nd h1 h3 => k b o h1 (R.old b o e nd h1 h3)⟩
 ·have := own_run hb
  subst this
  exact k _ o hLσ e
 ·exact (hI.keep (fun b o hb e _ => k b o hb.1 e) fun _ h => h).snoc (hv.keep (fun b o hb e _ => k b o hb.1 e) fun _ h => h)
 ·obtain ⟨ps, nn, hp⟩ := R.pi
  exact ⟨ps, nn, k _ _ (Ne.symm hσπ) hp⟩
end
def At (w : World) (hB h : Heap) (S' : St) (α δ : Path → Nat) (x : Path) (stays : Bool) (y d : Nat) : Prop := if stays = true then has S'.below x = true ∧ y = α x ∧ d = δ x else Loose w h S' α δ y d ∧ 303 ≤ d ∧ hB.get? y = none ∧ hB.get? d = none
section
variable {w : World} {A : Around} {E : Value → Shared → Prop} {s : Shared} {L : Nat} {hB h₀ : Heap} {S : St} {n : Nat} {α δ : Path → Nat} {root σ π : Nat} {told : List PyData} {m : Str → Option Value} {x : Path} {t : Tok}
theorem run_walk {Q : Value → Shared → Prop} (hA : Ok A 870 870) (R : RunAt w L hB h₀ S n α δ root σ π told s.heap m) (hn : n + x.length ≤ 100000)
  (h : ∀ s' α' δ' y d, Sx s s' → RunAt w L hB h₀ (gone S [] x).1 (n + x.length) α' δ' root σ π told s'.heap m → At w hB s'.heap (gone S [] x).1 α' δ' x (gone S [] x).2 y d → y ≠ L → d ≠ L → (∀ b o, s.heap.get? b = some o → b ≠ 100 → Away S α δ b → s'.heap.get? b = some o) → Q (.ref y) s') : wpAny (Md w) A (call (.ref 244) [.ref root, .str (toS x) t]) Q E s := by
 rw [← R.rt]
 refine call_walk hA R.T R.W R.z (by rw [sizeLine_eq]; lia) fun h' tk α' δ' y d C => ?_
 have R' := R.step C.T C.W C.z ((C.old [] R.W.root).2.1.trans R.rt) fun b o e h1 a => ⟨C.ev.kept b o h1 a e, C.ev.away b o e a⟩
 obtain ⟨oL, hoL⟩ := R.V.own (.inl rfl)
 have hoL : s.heap.get? L = some oL := hoL
 have key : At w hB h' (gone S [] x).1 α' δ' x (gone S [] x).2 y d ∧ y ≠ L ∧ d ≠ L := by
  have := C.at_
  unfold At
  split at this
  ·rename_i hs
   rw [if_pos hs]
   exact ⟨this, this.2.1 ▸ Ne.symm (R'.off x this.1).1, this.2.2 ▸ Ne.symm (R'.off x this.1).2⟩
  ·rename_i hs
   rw [if_neg hs]
   have hf : ∀ z : Nat, 303 ≤ z → s.heap.get? z = none → hB.get? z = none := fun z hz hn => by
    cases e : hB.get? z with
    | none => rfl
    | some o => rw [(R.frm z o e (Nat.ne_of_gt (Nat.lt_of_lt_of_le (by decide) hz))).1] at hn; cases hn
   have hd3 := R.T.bs.new this.2.2
   refine ⟨⟨this.1, hd3, hf y (R.T.bs.new this.2.1) this.2.1, hf d hd3 this.2.2⟩, fun e => ?_, fun e => ?_⟩
   ·have := this.2.1; rw [e, hoL] at this; cases this
   ·have := this.2.2; rw [e, hoL] at this; cases this
 exact h _ α' δ' y d .of R' key.1 key.2.1 key.2.2 fun b o e h1 a => C.ev.kept b o h1 a e
end
end
section
section
variable {w : World} {L : Nat} {hB h₀ h : Heap} {S : St} {n : Nat} {α δ : Path → Nat} {root σ π : Nat} {told : List PyData} {m : Str → Option Value} {x : Path} {st : Bool} {y d : Nat}
theorem At.node (R : RunAt w L hB h₀ S n α δ root σ π told h m) (a : At w hB h S α δ x st y d) : ∃ kvs, NodeAt w h y d kvs ∧ (∃ od, h.get? d = some od ∧ ∀ name : Str, ("_frozen" : Str) ≠ name → lookIn name od = some none) ∧ ∀ t0, ∃ t, (valueAt kvs (toS [])).getD (.int 0 t0) = .int (if st = true then endv S x else 0) t := by
 unfold At at a
 cases st with
 | true =>
  rw [if_pos rfl] at a
  obtain ⟨hp, rfl, rfl⟩ := a
  obtain ⟨bs, hb⟩ := has_iff.mp hp
  obtain ⟨kvs, hn, he⟩ := R.T.node x bs hb
  obtain ⟨es, ep, hod⟩ := R.T.objD hp
  refine ⟨kvs, hn, ⟨_, hod, fun name hne => ?_⟩, fun t0 => ?_⟩
  ·obtain ⟨od', h1, h2⟩ := R.T.shadow hp hne
   rw [hod] at h1; cases h1; exact h2
  ·obtain ⟨t, e⟩ := ent_end R.W hb he t0
   exact ⟨t, by rw [e, if_pos rfl]⟩
 | false =>
  rw [if_neg (by decide)] at a
  obtain ⟨⟨⟨hna, ep, hod⟩, _, _⟩, _⟩ := a
  exact ⟨[], hna, ⟨_, hod, fun name _ => rfl⟩, fun t0 => ⟨t0, rfl⟩⟩
end
section
variable {w : World} {A : Around} {E : Value → Shared → Prop} {s : Shared} {L : Nat} {hB h₀ : Heap} {S : St} {n : Nat} {α δ : Path → Nat} {root σ π : Nat} {told : List PyData} {m : Str → Option Value} {x : Path} {st : Bool} {y d : Nat} {t : Tok}
theorem RunAt.loose {h' : Heap} {z : Nat} {es : Array DictEntry} {k : Nat} {c : Value} {dd : Option Addr} {sl : Array (Option Value)} (R : RunAt w L hB h₀ S n α δ root σ π told s.heap m) (hzB : hB.get? z = none) (hz : 303 ≤ z) (hzL : z ≠ L) (ho : s.heap.get? z = some ⟨c, dd, .dict es k, sl⟩) (ha : Away S α δ z) (kk : ∀ b o, b ≠ z → s.heap.get? b = some o → h'.get? b = some o) : RunAt w L hB h₀ S n α δ root σ π told h' m := by
 have T' := R.T.same hz ho rfl ha kk
 have nd : ∀ b o, s.heap.get? b = some o → NoD o → h'.get? b = some o := fun b o e hn => kk b o (fun e' => by rw [e', ho] at e; cases e; exact hn _ _ rfl) e
 refine ⟨T', R.W, R.z, R.V.keep fun b o hb e => kk b o (by rw [own_run hb]; exact Ne.symm hzL) e, R.off, R.hL, R.rt, R.hσ, ?_, ?_, fun b o e h1 => let ⟨f1, f2, f3⟩ := R.frm b o e h1; ⟨kk b o (fun x => by rw [x, hzB] at e; cases e) f1, f2, f3⟩, fun b o e hn h1 h3 => nd b o (R.old b o e hn h1 h3) hn⟩
 ·obtain ⟨ys, ⟨nn, hy⟩, hI⟩ := R.st
  exact ⟨ys, ⟨nn, nd _ _ hy (noD_seq rfl)⟩, hI.keep (fun b o _ e ⟨vs, n, hd⟩ => nd b o e (noD_seq hd)) fun _ h => h⟩
 ·obtain ⟨ps, nn, hp⟩ := R.pi
  exact ⟨ps, nn, nd _ _ hp (noD_seq rfl)⟩
theorem Tree.keep100 {h h' : Heap} (T : Tree w h S α δ) (hT : Tab h') (k : ∀ b o, h.get? b = some o → b ≠ 100 → Need S α δ b o → h'.get? b = some o) : Tree w h' S α δ := by
 have nd3 : ∀ b o, h.get? b = some o → Nd3 o → h'.get? b = some o := fun b o e h3 => k b o e (fun x => by subst x; exact T.tab.nd3 e h3) (.inr (.inr h3))
 have n100 : ∀ {b : Nat}, 303 ≤ b → b ≠ 100 := fun hb => by lia
 refine ⟨T.bs.mono (fun b o hb h1 e => k b o e h1 (.inl hb)) (let ⟨_, hP, _⟩ := hT; ⟨_, hP⟩), hT, fun p bs hb => ?_, fun p hp => ?_, T.inj, T.injd, T.lod⟩
 ·obtain ⟨kvs, hn, he⟩ := T.node p bs hb
  exact ⟨kvs, ⟨hn.lo, hn.at_.at fun o e => k _ _ e (n100 hn.lo) (.inr (.inl ⟨p, has_iff.mpr ⟨bs, hb⟩, .inl rfl⟩))⟩, he⟩
 ·have := T.door p hp
  split
  ·rename_i hs
   rw [if_pos hs] at this
   exact this.need (fun o e => k _ _ e (n100 (T.lod p hp)) (.inr (.inl ⟨p, hp, .inr rfl⟩))) nd3
  ·rename_i hs
   rw [if_neg hs] at this
   obtain ⟨ep, e⟩ := this
   exact ⟨ep, k _ _ e (n100 (T.lod p hp)) (.inr (.inl ⟨p, hp, .inr rfl⟩))⟩
theorem run_get {u : Tok} {Q : Value → Shared → Prop} (R : RunAt w L hB h₀ S n α δ root σ π told s.heap m) (a : At w hB s.heap S α δ x st y d) (h : ∀ s' t', Sx s s' → s'.heap = s.heap → Q (.int (if st = true then endv S x else 0) t') s') :
  wpAny (Md w) A (call (.builtin "dict.get") [.ref y, .str (toS []) t, .int 0 u]) Q E s := by
 obtain ⟨kvs, hn, _, he⟩ := a.node R
 refine node_get R.T.bs hn ?_
 rw [(he u).choose_spec]
 exact h _ _ ⟨rfl, rfl, rfl⟩ rfl
theorem run_freeze {Q : Value → Shared → Prop} (hA : Ok A 880 900) (R : RunAt w L hB h₀ S n α δ root σ π told s.heap m) (a : At w hB s.heap S α δ x st y d) (hdL : d ≠ L)
  (h : ∀ s', Sx s s' → RunAt w L hB h₀ (if st = true then S.close x else S) n α δ root σ π told s'.heap m → Q .none s') : wpAny (Md w) A (call (.ref 105) [.ref y]) Q E s := by
 unfold At at a
 cases st with
 | true =>
  rw [if_pos rfl] at a
  obtain ⟨hp, rfl, rfl⟩ := a
  refine tree_freeze hA R.T hp fun h' tk T' k => h _ .of ?_
  rw [if_pos rfl]
  exact R.step T' (R.W.close hp) R.z R.rt fun b o e h1 aw => ⟨k b o (aw x hp).2 h1 e, aw⟩
 | false =>
  rw [if_neg (by decide)] at a
  obtain ⟨⟨⟨hna, ep, hod⟩, ay, ad⟩, hd3, yB, dB⟩ := a
  refine call_freeze R.T.bs hA hna (.inl ⟨ep, hod⟩) R.T.tab fun h' tk hS hT hN k => h _ .of ?_
  rw [if_neg (by decide)]
  have T' : Tree w h' S α δ := R.T.keep100 hT fun b o e h1 hn => k b o (by
   rintro rfl
   rcases hn with hn | ⟨p, hp, hn | hn⟩ | hn
   ·lia
   ·exact (ad p hp).1 hn
   ·exact (ad p hp).2 hn
   ·rw [hod] at e; cases e; exact hn.nd _ _ rfl) h1 e
  have nd : ∀ b o, s.heap.get? b = some o → NoD o → b ≠ 100 → h'.get? b = some o := fun b o e hn => k b o (fun e' => by rw [e', hod] at e; cases e; exact hn _ _ rfl) |> fun f h1 => f h1 e
  have n100 : L ≠ 100 := by have := R.hL; lia
  have seq100 : ∀ b o, s.heap.get? b = some o → (∃ vs n, o.data = .seq vs n) → h'.get? b = some o := fun b o e ⟨vs, n, hd⟩ => nd b o e (noD_seq hd) (R.T.ne100 e fun vs' e' => by rw [hd] at e'; cases e')
  refine ⟨T', R.W, R.z, R.V.keep fun b o hb e => k b o (by rw [own_run hb]; exact Ne.symm hdL) (by rw [own_run hb]; exact n100) e, R.off, R.hL, R.rt, R.hσ, ?_, ?_, fun b o e h1 => let ⟨f1, f2, f3⟩ := R.frm b o e h1; ⟨k b o (fun x => by rw [x, dB] at e; cases e) h1 f1, f2, f3⟩, fun b o e hn h1 h3 => nd b o (R.old b o e hn h1 h3) hn h3⟩
  ·obtain ⟨ys, ⟨nn, hy⟩, hI⟩ := R.st
   exact ⟨ys, ⟨nn, seq100 _ _ hy ⟨_, _, rfl⟩⟩, hI.keep (fun b o _ e hd => seq100 b o e hd) fun _ h => h⟩
  ·obtain ⟨ps, nn, hp⟩ := R.pi
   exact ⟨ps, nn, seq100 _ _ hp ⟨_, _, rfl⟩⟩
theorem run_put {k : Int} {u : Tok} {Q : Unit → Shared → Prop} (R : RunAt w L hB h₀ S n α δ root σ π told s.heap m) (hn : n ≤ 100000) (a : At w hB s.heap S α δ x st y d) (hyL : y ≠ L)
  (h : ∀ s', Sx s s' → RunAt w L hB h₀ (if st = true then S.put x k else S) (n + 1) α δ root σ π told s'.heap m → Q () s') : wpAny (Md w) A (setItem (.ref y) (.str (toS []) t) (.int k u)) Q E s := by
 unfold At at a
 cases st with
 | true =>
  rw [if_pos rfl] at a
  obtain ⟨hp, rfl, rfl⟩ := a
  refine tree_put R.T R.W (R.z.le (by rw [sizeLine_eq]; lia)) hp fun s' x' T' k' => h s' x' ?_
  rw [if_pos rfl]
  exact R.step T' (R.W.put hp) (R.z.put x k) R.rt fun b o e h1 aw => ⟨k' b o (aw x hp).1 e, fun q hq => aw q (has_put.mp hq)⟩
 | false =>
  rw [if_neg (by decide)] at a
  obtain ⟨⟨⟨hna, ep, hod⟩, ay, ad⟩, hd3, yB, dB⟩ := a
  obtain ⟨es, ep', ho, D⟩ := id hna.at_
  refine node_setItem R.T.bs hna (Nat.zero_le _) fun h' hn' S' => h _ .of ?_
  rw [if_neg (by decide)]
  exact (R.loose yB hna.lo hyL ho ay fun b o hb e => (S'.2 b hb).trans e).le (Nat.le_succ n)
theorem run_long {text : Path} {Q : Value → Shared → Prop} (hA : Ok A 870 870) (R : RunAt w L hB h₀ S n α δ root σ π told s.heap m) (hn : n + text.length ≤ 100000) (hπ : ∃ o, s.heap.get? π = some o)
  (h : ∀ s' α' δ' t1, Sx s s' → RunAt w L hB h₀ (gone S [] (wayL S [] text)).1 (n + text.length) α' δ' root σ π told s'.heap m → Is (fun b => b ≠ σ ∧ b ≠ π) s'.heap (.ref t1) (.tuple [.int (lng S [] text (0, 0)).1, .int (lng S [] text (0, 0)).2]) → (∀ b o, s.heap.get? b = some o → b ≠ 100 → Away S α δ b → s'.heap.get? b = some o) → Q (.ref t1) s') :
  wpAny (Md w) A (call (.ref 263) [.ref root, .str (toS text) t]) Q E s := by
 rw [← R.rt]
 refine call_longest hA R.T R.W R.z hn fun h' tk α' δ' y d t1 u1 u2 C ht hge => ?_
 have R' := R.step C.T C.W C.z ((C.old [] R.W.root).2.1.trans R.rt) fun b o e h1 a => ⟨C.ev.kept b o h1 a e, C.ev.away b o e a⟩
 refine h _ α' δ' t1 .of R' (.tuple ⟨?_, ?_⟩ ht rfl rfl (.cons (.int _ _) (.cons (.int _ _) .nil))) fun b o e h1 a => C.ev.kept b o h1 a e
 ·obtain ⟨ys, ⟨nn, hy⟩, _⟩ := R.st
  exact Nat.ne_of_gt (Nat.lt_of_lt_of_le (Heap.lt_size hy) hge)
 ·obtain ⟨o, ho⟩ := hπ
  exact Nat.ne_of_gt (Nat.lt_of_lt_of_le (Heap.lt_size ho) hge)
end
end
section
theorem newDict_ {A : Around} {E : Value → Shared → Prop} {s : Shared} {M : Model} {Q : Value → Shared → Prop} (h : Q (.ref s.heap.objs.size) { s with heap := s.heap.push { cls := .type "dict", data := .dict #[] } }) : wpAny M A newDict Q E s := by
 unfold newDict
 exact wpAny_newObj_type h
section
variable {w : World} {A : Around} {E : Value → Shared → Prop} {s : Shared}
theorem call_listed0 {e : Nat} {Q : Value → Shared → Prop} (hA : Ok A 880 900) (B : Bs w s.heap) (he : 303 ≤ e) (ho : ∃ ep, s.heap.get? e = some { cls := .type "dict", data := .dict #[] ep })
  (h : ∀ v s', Grow s s' → Is (fun b => s.heap.objs.size ≤ b) s'.heap v (.list []) → Q v s') : wpAny (Md w) A (call (.ref 256) [.ref e]) Q E s := by
 obtain ⟨ep, ho⟩ := ho
 refine enter (fd := fdL 66 "_law_listed" 255) (o := o256p6 w.params) (binds := [("node", .ref e)]) B hA (by lia) fun h₁ tk E' V hk hown => ?_
 have hA' := hA.deeper (eLst s.heap.objs.size)
 rw [show callEnvC (fdL 66 "_law_listed" 255) s.heap.objs.size 256 = eLst s.heap.objs.size from rfl] at V ⊢
 obtain ⟨m₁, hm, V⟩ : ∃ m₁, m₁ "node" = some (.ref e) ∧ Vars h₁ (eLst s.heap.objs.size) m₁ := ⟨_, by rfl, V⟩
 refine entered (P := fun s₁ => wpAny _ _ _ _ _ s₁) hk V (Nat.le_refl _) fun s₁ g₁ V₁ hz₁ => ?_
 clear V hk hown
 have ho₁ := g₁.keep _ _ ho
 have hD : s₁.heap.DictAt (sk w) e [] ep := ⟨_, #[], ho₁, ⟨rfl, rfl, rfl⟩, rfl, fun _ h => by simp at h, Pairs.nil, List.nodup_nil⟩
 refine wpAny_execs_cons (wpAny_Return_some (lcompL (s₀ := s₁) (cl := [("node", s.heap.objs.size + 1)]) V₁ (by
  intro q hq; simp at hq; subst hq
  exact ⟨rfl, fun e0 => absurd (show some NameKind.cell = some .local from e0) (by decide)⟩) (V₁.rd (v := .ref e) (wpAny_pyIter_dict (knd := sk w) (by simpa [sysModules] using (show e ≠ 1 by lia)) hD
   (comp_keys (ds := []) (c := .type "dict") (dd := none) (sl := #[]) (kvs := []) hA'.h (.refl _) (fun _ _ e => e) (Nat.le_refl _) ⟨#[], ho₁, DK.nil w⟩ (Nat.zero_le _) rfl (fun C cenv _ _ it i g u t od s' m' E' hgi => by simp at hgi) ?_)) hm)))
 intro D s' ys g hD hP hI
 exact h (.ref D) s' (g₁.trans g) (.list (Nat.le_trans (Nat.le_of_lt hz₁) hD) hP.choose_spec rfl rfl (hI.within fun b o hb _ => Nat.le_trans (Nat.le_of_lt hz₁) hb))
end
theorem drawn_congr {S S' : St} : ∀ (f : Nat) (p : Path), (∀ q, p <+: q → look S'.below q = look S.below q ∧ look S'.ends q = look S.ends q) → drawn S' f p = drawn S f p
 | 0, p, _ => rfl
 | f + 1, p, h => by
  unfold drawn
  rw [(h p (List.prefix_refl _)).1, (h p (List.prefix_refl _)).2]
  refine List.map_congr_left fun g _ => ?_
  rw [drawn_congr f (p ++ g) fun q hq => h q (List.IsPrefix.trans ⟨g, rfl⟩ hq)]
theorem look_onKey_ne {β : Type} {l : List (Path × β)} {p q : Path} {f : β → β} (h : q ≠ p) : look (onKey l p f) q = look l q := by
 unfold look onKey
 induction l with
 | nil => rfl
 | cons x r ih =>
  by_cases hx : x.1 = p
  ·have : ¬ (x.1 = q) := fun e => h (e.symm.trans hx)
   rw [List.map_cons, if_pos hx, List.find?_cons_of_neg (by simpa using this), List.find?_cons_of_neg (by simpa using this)]
   exact ih
  ·rw [List.map_cons, if_neg hx]
   by_cases hq : x.1 = q
   ·rw [List.find?_cons_of_pos (by simpa using hq), List.find?_cons_of_pos (by simpa using hq)]
   ·rw [List.find?_cons_of_neg (by simpa using hq), List.find?_cons_of_neg (by simpa using hq)]
    exact ih
theorem drawn_cut {S : St} {p : Path} {c f : Nat} : drawn (S.cut p c) f (p ++ [c]) = drawn S f (p ++ [c]) :=
 drawn_congr f _ fun q hq => ⟨look_onKey_ne fun e => by
  have := hq.length_le
  rw [e] at this
  simp at this
  lia, rfl⟩
theorem drawn_none {S : St} {p : Path} {f : Nat} (h : ¬ has S.below p = true) : drawn S f p = [] := by
 cases f with
 | zero => rfl
 | succ f =>
  unfold drawn
  rw [show look S.below p = none from look_none.mpr (by simpa using h)]; rfl
section
variable {w : World} {A : Around} {E : Value → Shared → Prop} {s : Shared} {L : Nat} {hB h₀ : Heap} {S : St} {n : Nat} {α δ : Path → Nat} {root σ π : Nat} {told : List PyData} {m : Str → Option Value} {x : Path} {c : Nat} {st : Bool} {y d e : Nat} {t : Tok}
theorem run_take {Q : Value → Shared → Prop} (hA : Ok A 860 830) (R : RunAt w L hB h₀ S n α δ root σ π told s.heap m) (hn : n ≤ 100000) (a : At w hB s.heap S α δ x st y d) (hnot : st = false → ¬ has S.below (x ++ [c]) = true) (hdep : ∀ q, has S.below q = true → q.length ≤ 6)
  (he : ∃ ep, s.heap.get? e = some { cls := .type "dict", data := .dict #[] ep }) (he3 : 303 ≤ e)
  (h : ∀ v s', Sx s s' → RunAt w L hB h₀ (S.drop (x ++ [c])) n α δ root σ π told s'.heap m → Is (fun b => b ≠ σ ∧ b ≠ π) s'.heap v (.list (drawn S 8 (x ++ [c]))) → Q v s') :
  wpAny (Md w) A (call (.builtin "dict.pop") [.ref y, .str (toS [c]) t, .ref e]) (fun v s₁ => Callable (.ref 256) s₁.heap ∧ wpAny (Md w) A (call (.ref 256) [v]) Q E s₁) E s := by
 have hσ : ∃ o, s.heap.get? σ = some o := let ⟨_, ⟨_, hy⟩, _⟩ := R.st; ⟨_, hy⟩
 have hπ : ∃ o, s.heap.get? π = some o := let ⟨_, _, hp⟩ := R.pi; ⟨_, hp⟩
 have far : ∀ {h' : Heap}, (∃ o, h'.get? σ = some o) → (∃ o, h'.get? π = some o) → ∀ b, h'.objs.size ≤ b → b ≠ σ ∧ b ≠ π := fun ⟨_, e1⟩ ⟨_, e2⟩ b hb => ⟨Nat.ne_of_gt (Nat.lt_of_lt_of_le (Heap.lt_size e1) hb), Nat.ne_of_gt (Nat.lt_of_lt_of_le (Heap.lt_size e2) hb)⟩
 have none_case : ¬ has S.below (x ++ [c]) = true → ∀ tk, Callable (.ref 256) s.heap ∧ wpAny (Md w) A (call (.ref 256) [.ref e]) Q E { s with toks := tk } := fun hc tk => by
  refine ⟨fnCallable R.T.bs (o256p6 w.params) _, ?_⟩
  refine call_listed0 (hA.le (by decide) (by decide)) R.T.bs he3 he fun v s' g hv => ?_
  refine h v s' (Sx.trans (by exact ⟨rfl, rfl, rfl⟩) g.sx) ?_ ?_
  ·rw [drop_none R.W hc]
   exact R.grow g.keep
  ·rw [drawn_none hc]
   exact hv.keep (.grow fun _ _ e => e) (far hσ hπ)
 unfold At at a
 cases st with
 | true =>
  rw [if_pos rfl] at a
  obtain ⟨hp, rfl, rfl⟩ := a
  refine tree_pop R.T R.W (R.z.le (by rw [sizeLine_eq]; lia)) hp none_case fun hc s₁ x₁ T₁ k₁ => ?_
  have nd : ∀ b o, s.heap.get? b = some o → NoD o → s₁.heap.get? b = some o := fun b o e hn => k₁ b o (R.T.nondict e hn x hp).1 e
  refine ⟨fnCallable T₁.bs (o256p6 w.params) _, ?_⟩
  refine call_listed 8 (by decide) (hA.le (by decide) (by decide)) T₁ (cut_wfl R.W x c) ((R.z.le (by rw [sizeLine_eq]; lia)).cut x c) (has_cut.mpr hc) (fun q hq hpq => ?_) fun v s₂ g hv => ?_
  ·have h1 := hdep q (has_cut.mp hq)
   have h2 := hpq.length_le
   simp at h2
   simp
   lia
  ·have hσ₁ : ∃ o, s₁.heap.get? σ = some o := let ⟨_, ⟨_, hy⟩, _⟩ := R.st; ⟨_, nd _ _ hy (noD_seq rfl)⟩
   have hπ₁ : ∃ o, s₁.heap.get? π = some o := let ⟨_, _, hp⟩ := R.pi; ⟨_, nd _ _ hp (noD_seq rfl)⟩
   refine h v s₂ (x₁.trans g.sx) ?_ ?_
   ·exact R.step ((drop_of_cut R.W T₁).grow g.keep) (R.W.drop (by simp)) (R.z.drop _) R.rt fun b o e h1 aw => ⟨g.keep b o (k₁ b o (aw x hp).1 e), fun q hq => aw q (has_drop.mp hq).2⟩
   ·rw [← drawn_cut]
    exact hv.keep (.grow fun _ _ e => e) (far hσ₁ hπ₁)
 | false =>
  rw [if_neg (by decide)] at a
  obtain ⟨⟨⟨hna, ep, hod⟩, ay, ad⟩, hd3⟩ := a
  exact node_pop R.T.bs hna (Nat.zero_le _) (fun _ => none_case (hnot rfl)) fun v hv => by cases hv
end
end
section
inductive Deed where
 | P (x : Path) (n : Int)
 | L (x : Path) (n : Int)
 | F (x : Path) (n : Int)
 | T (x : Path) (c : Nat) (n : Int)
 | G (x y : Path)
noncomputable def Deed.data : Deed → PyData
 | .P x n => .tuple [.str "P", .str (toS x), .int n]
 | .L x n => .tuple [.str "L", .str (toS x), .int n]
 | .F x n => .tuple [.str "F", .str (toS x), .int n]
 | .T x c n => .tuple [.str "T", .str (toS (x ++ [c])), .int n]
 | .G x y => .tuple [.str "G", .str (toS x), .str (toS y)]
noncomputable def turnR (S : St) : Deed → St × PyData
 | .P x n => (if (gone S [] x).2 = true then (gone S [] x).1.put x n else (gone S [] x).1, .none)
 | .L x n => ((gone S [] x).1, .int (endv S x))
 | .F x n => (if (gone S [] x).2 = true then (gone S [] x).1.close x else (gone S [] x).1, .none)
 | .T x c n => ((gone S [] x).1.drop (x ++ [c]), .list (drawn (gone S [] x).1 8 (x ++ [c])))
 | .G x y => ((gone S [] (wayL S [] (x ++ y))).1, .tuple [.int (lng S [] (x ++ y) (0, 0)).1, .int (lng S [] (x ++ y) (0, 0)).2])
noncomputable def runR (S : St) (told : List PyData) : List Deed → St × List PyData
 | [] => (S, told)
 | d :: ds => runR (turnR S d).1 (told ++ [(turnR S d).2]) ds
theorem runR_snoc : ∀ (ds : List Deed) (S : St) (told : List PyData) (d : Deed), runR S told (ds ++ [d]) = ((turnR (runR S told ds).1 d).1, (runR S told ds).2 ++ [(turnR (runR S told ds).1 d).2])
 | [], S, told, d => rfl
 | e :: ds, S, told, d => by rw [List.cons_append, runR, runR_snoc ds, runR]
noncomputable def lineOf (x : Path) (n : Int) : Str := Str.ofString (toString n) ++ (if (n.fmod 2 == 0) = true then (Str.ofString " = ") else (Str.ofString "=")) ++ toS x
def Deed.ok : Deed → Prop
 | .P x n => x.length ≤ 3 ∧ x ≠ [] ∧ 0 < n ∧ n ≤ 1000 ∧ ∃ a b, Splits (lineOf x n) a b ∧ Txt.strip b = toS x ∧ PySem.intText? (Txt.strip a) = some n ∧ (Txt.strip a).length ≤ 640
 | .L x n => x.length ≤ 3
 | .F x n => x.length ≤ 3
 | .T x c n => x.length ≤ 2
 | .G x y => x.length ≤ 3 ∧ y.length ≤ 3 ∧ x ≠ []
def Dep (S : St) : Prop := ∀ q, has S.below q = true → q.length ≤ 6
theorem Dep.gone {S : St} (D : Dep S) {x : Path} (hx : x.length ≤ 6) : Dep (gone S [] x).1 := fun q hq => by
 rcases gone_new x S [] q hq with h | ⟨_, h, _⟩
 ·exact D q h
 ·have := h.length_le
  simp at this
  lia
theorem wayL_len (S : St) : ∀ (r p : Path), (wayL S p r).length ≤ p.length + r.length ∧ wayL S p r <+: p ++ r
 | [], p => by simp [wayL]
 | c :: r, p => by
  unfold wayL
  split
  ·refine ⟨by simp, r, by simp⟩
  ·have := wayL_len S r (p ++ [c])
   refine ⟨?_, by simpa using this.2⟩
   have h1 := this.1
   simp at h1 ⊢
   lia
theorem turnR_wf {S : St} (W : WF S) {d : Deed} : WF (turnR S d).1 := by
 have g := fun x => gone_wf x S [] W W.root
 cases d with
 | P x n =>
  show WF (if _ then _ else _)
  split
  ·rename_i h
   exact (g x).put (by simpa using gone_there x S [] W.root h)
  ·exact g x
 | L x n => exact g x
 | F x n =>
  show WF (if _ then _ else _)
  split
  ·rename_i h
   exact (g x).close (by simpa using gone_there x S [] W.root h)
  ·exact g x
 | T x c n => exact (g x).drop (by simp)
 | G x y => exact g _
theorem turnR_dep {S : St} (D : Dep S) {d : Deed} (ok : d.ok) : Dep (turnR S d).1 := by
 cases d with
 | P x n =>
  have := D.gone (x := x) (by have := ok.1; lia)
  show Dep (if _ then _ else _)
  split
  ·exact fun q hq => this q (has_put.mp hq)
  ·exact this
 | L x n => exact D.gone (x := x) (by have : x.length ≤ 3 := ok; lia)
 | F x n =>
  have := D.gone (x := x) (by have : x.length ≤ 3 := ok; lia)
  show Dep (if _ then _ else _)
  split
  ·exact this
  ·exact this
 | T x c n =>
  have := D.gone (x := x) (by have : x.length ≤ 2 := ok; lia)
  exact fun q hq => this q (has_drop.mp hq).2
 | G x y => exact D.gone (x := wayL S [] (x ++ y)) (by
   have h1 := (wayL_len S (x ++ y) []).1
   have h2 := ok.1
   have h3 := ok.2.1
   simp at h1
   lia)
theorem turnR_sz {S : St} {n : Nat} (z : Sz n S) {d : Deed} (ok : d.ok) : Sz (n + 7) (turnR S d).1 := by
 cases d with
 | P x k =>
  have := gone_sz x S [] n z
  have h1 := ok.1
  show Sz (n + 7) (if _ then _ else _)
  split
  ·exact (this.put x k).le (by lia)
  ·exact this.le (by lia)
 | L x k => exact (gone_sz x S [] n z).le (by have : x.length ≤ 3 := ok; lia)
 | F x k =>
  have := gone_sz x S [] n z
  have h1 : x.length ≤ 3 := ok
  show Sz (n + 7) (if _ then _ else _)
  split
  ·exact (this.close x).le (by lia)
  ·exact this.le (by lia)
 | T x c k => exact ((gone_sz x S [] n z).drop _).le (by have : x.length ≤ 2 := ok; lia)
 | G x y => exact (gone_sz _ S [] n z).le (by
   have h1 := (wayL_len S (x ++ y) []).1
   have h2 := ok.1
   have h3 := ok.2.1
   simp at h1
   lia)
section
variable {N : Addr → Prop} {h : Heap} {v : Value}
theorem Is.pair3 {a b c : PyData} (x : Is N h v (.tuple [a, b, c])) : ∃ t o n va vb vc, v = .ref t ∧ N t ∧ h.get? t = some o ∧ o.cls = .type "tuple" ∧ o.data = .seq #[va, vb, vc] n ∧ Is N h va a ∧ Is N h vb b ∧ Is N h vc c := by
 cases x with
 | tuple hN ho hc hd hr =>
  rename_i t o vs n
  obtain ⟨l⟩ := vs
  have hr : IsAll N h l [a, b, c] := hr
  cases hr with
  | cons ha hr =>
   cases hr with
   | cons hb hr =>
    cases hr with
    | cons hc' hr =>
     cases hr
     exact ⟨t, o, n, _, _, _, rfl, hN, ho, hc, hd, ha, hb, hc'⟩
theorem Is.asStr {x : Str} (y : Is N h v (.str x)) : ∃ t, v = .str x t := by cases y; exact ⟨_, rfl⟩
theorem Is.asInt {x : Int} (y : Is N h v (.int x)) : ∃ t, v = .int x t := by cases y; exact ⟨_, rfl⟩
theorem IsAll.at {vs : List Value} {ds : List PyData} (x : IsAll N h vs ds) : ∀ {i : Nat} {d : PyData}, ds[i]? = some d → ∃ v, vs[i]? = some v ∧ Is N h v d := by
 induction vs generalizing ds with
 | nil => cases x; intro i d e; simp at e
 | cons v vs ih =>
  cases x with
  | cons hv hr =>
   intro i d e
   cases i with
   | zero => simp at e; subst e; exact ⟨v, rfl, hv⟩
   | succ i => simp at e; exact ih hr e
theorem IsAll.len {vs : List Value} {ds : List PyData} (x : IsAll N h vs ds) : vs.length = ds.length := by
 induction vs generalizing ds with
 | nil => cases x; rfl
 | cons v vs ih => cases x with | cons _ hr => rw [List.length_cons, List.length_cons, ih hr]
end
section
variable {w : World} {A : Around} {E : Value → Shared → Prop} {s : Shared} {env : Env}
theorem asg3 {x y z : Str} {p1 p2 p3 pos : Pos} {k : Nat} {t : Addr} {o : Obj} {a b c : Value} {n : Nat} {Q : Unit → Shared → Prop} (hh : A.handled = none) (ho : s.heap.get? t = some o) (hc : o.cls = .type "tuple") (hd : o.data = .seq #[a, b, c] n)
  (h : ∀ s', Grow s s' → wpAny (Md w) A (storeName env x a) (fun _ s₁ => wpAny (Md w) A (storeName env y b) (fun _ s₂ => wpAny (Md w) A (storeName env z c) Q E s₂) E s₁) E s') :
  wpAny (Md w) A (assign (.Tuple [.Name x p1, .Name y p2, .Name z p3] k pos) env (.ref t)) Q E s := by
 refine wpAny_assign_Tuple (items := #[a, b, c]) hh ⟨o, ho, hc, n, hd⟩ rfl rfl fun h' he => ?_
 refine aio_cons (wpAny_assign_Name (wpAny_mono (h _ (.of fun b o e => he b o (Nat.ne_of_lt (Heap.lt_size e)) e)) (fun _ s₁ h₁ => ?_) fun _ _ e => e))
 refine aio_cons (wpAny_assign_Name (wpAny_mono h₁ (fun _ s₂ h₂ => ?_) fun _ _ e => e))
 exact aio_cons (wpAny_assign_Name (wpAny_mono h₂ (fun _ _ h' => aio_nil h') fun _ _ e => e))
end
end
section
theorem Sx.go {s s₁ t s₂ : Shared} (a : Sx s s₁) (b : Sx t s₂) (e1 : t.gens = s₁.gens := by rfl) (e2 : t.drawn = s₁.drawn := by rfl) (e3 : t.os = s₁.os := by rfl) : Sx s s₂ :=
 ⟨b.g.trans (e1.trans a.g), b.d.trans (e2.trans a.d), b.o.trans (e3.trans a.o)⟩
theorem toS_len (x : Path) : (toS x).length = x.length := by simp [toS, Str.length]
theorem toS_app (x y : Path) : toS x ++ toS y = toS (x ++ y) := by
 show Str.mk _ = Str.mk _
 simp [toS]
noncomputable def runBody : List Stmt := forBody ((fnBody 68)[1]?.getD (.Pass default))
section
variable {w : World} {A : Around} {E : Value → Shared → Prop} {s : Shared} {L : Nat} {hB h₀ : Heap} {S : St} {n : Nat} {α δ : Path → Nat} {root σ π : Nat} {told : List PyData} {m : Str → Option Value}
theorem getm_append {D : Nat} {xs : Array Value} {pl : Sem Bool} {Q : Value × List Value → Shared → Prop} (hP : s.heap.PlainList D xs) (h : Q (.builtin "list.append", [.ref D]) s) : wpAny (Md w) A (getMethod (.ref D) "append" pl) Q E s := by
 obtain ⟨nn, ho⟩ := hP
 exact getMethod_builtin ⟨_, ho, rfl⟩ PySem.F.plainAttrs_list PySem.F.slot_list_append PySem.F.type_list_append (fun a e => by cases e; exact ⟨_, ho, rfl⟩) h
theorem run_tail {p1 p2 p3 p4 p5 : Pos} {Q : Flow → Shared → Prop} {v : Value} {dt : PyData} (R : RunAt w L hB h₀ S n α δ root σ π told s.heap m) (hσπ : σ ≠ π) (hlen : told.length ≤ 100000) (hs : m "story" = some (.ref σ)) (ht : m "told" = some v) (hv : Is (fun b => b ≠ σ ∧ b ≠ π) s.heap v dt)
  (h : ∀ s', Sx s s' → RunAt w L hB h₀ S n α δ root σ π (told ++ [dt]) s'.heap m → Q .next s') (hline : (p2.endLine == p4.line) = true := by rfl) :
  wpAny (Md w) A (execs [.Expr (.Call (.Attribute (.Name "story" p1) "append" p2) [.Name "told" p3] [] p4) p5] (eRun L)) Q E s := by
 obtain ⟨ys, hP, hI⟩ := R.st
 refine wpAny_execs_cons (wpAny_Expr (ev_Method (R.V.rd (v := .ref σ) (fun pl => getm_append hP (cw_builtin (R.V.rd (v := v) ?_ ht))) hs) (hline := hline)))
 refine wpAny_list_append_plain hP (fun h' hl S' => wpAny_execs_nil (h _ .of ?_)) (by rw [List.size_toArray, hI.len, sizeLine_eq]; lia)
 refine R.app hσπ hP hI hv ?_ fun b o hb e => (S'.2 b hb).trans e
 have : (ys ++ [v]).toArray = ys.toArray.push v := by simp
 rw [this]; exact hl
end
structure Kept (m m' : Str → Option Value) : Prop where
 root : m' "root" = m "root"
 story : m' "story" = m "story"
 pieces : m' "pieces" = m "pieces"
 k : m' "k" = m "k"
 text : m' "text" = m "text"
theorem Kept.refl (m : Str → Option Value) : Kept m m := ⟨rfl, rfl, rfl, rfl, rfl⟩
theorem Kept.set {m m' : Str → Option Value} {x : Str} {v : Value} (k : Kept m m') (h : (["root", "story", "pieces", "k", "text"] : List Str).contains x = false) : Kept m (set m' x v) := by
 have ne : ∀ y ∈ (["root", "story", "pieces", "k", "text"] : List Str), y ≠ x := fun y hy e => by
  subst e
  rw [List.contains_iff_mem.mpr hy] at h; cases h
 exact ⟨(set_ne (ne _ (by simp))).trans k.root, (set_ne (ne _ (by simp))).trans k.story, (set_ne (ne _ (by simp))).trans k.pieces, (set_ne (ne _ (by simp))).trans k.k, (set_ne (ne _ (by simp))).trans k.text⟩
section
variable {w : World} {A : Around} {E : Value → Shared → Prop} {s : Shared} {L : Nat} {hB h₀ : Heap} {S : St} {n : Nat} {α δ : Path → Nat} {root σ π : Nat} {told : List PyData} {m : Str → Option Value}
def TurnEnd (w : World) (L : Nat) (hB h₀ : Heap) (S : St) (n : Nat) (root σ π : Nat) (told : List PyData) (m : Str → Option Value) (s : Shared) (f : Flow) (s' : Shared) : Prop := f = .next ∧ ∃ α δ m', Sx s s' ∧ RunAt w L hB h₀ S n α δ root σ π told s'.heap m' ∧ Kept m m'
end
end
section
section
variable {w : World} {A : Around} {E : Value → Shared → Prop} {s : Shared} {L : Nat} {hB h₀ : Heap} {S : St} {n : Nat} {α δ : Path → Nat} {root σ π : Nat} {told : List PyData} {m : Str → Option Value}
theorem run_turnL {x : Path} {k : Int} {t u v : Tok} (hA : Ok A 850 820) (R : RunAt w L hB h₀ S n α δ root σ π told s.heap m) (hσπ : σ ≠ π) (hlen : told.length ≤ 1000) (hn : n ≤ 1000) (hx : x.length ≤ 3) (hr : m "root" = some (.ref root)) (hs : m "story" = some (.ref σ))
  (hk : m "kind" = some (.str "L" t)) (hw : m "word" = some (.str (toS x) u)) (hm : m "more" = some (.int k v)) :
  wpAny (Md w) A (execs runBody (eRun L)) (TurnEnd w L hB h₀ (turnR S (.L x k)).1 (n + 7) root σ π (told ++ [(turnR S (.L x k)).2]) m s) E s := by
 refine wpAny_abs fun Q hQ => ?_
 refine wpAny_execs_cons (wpAny_Assign_Name (wpAny_Constant_none (R.V.sxl (x := "told") fun s₁ x₁ V₁ k₁ => ?_)))
 have R₁ := R.loc V₁ k₁
 have hk₁ := (set_ne (m := m) (x := "told") (y := "kind") (v := .none) (by decide)).trans hk
 have hw₁ := (set_ne (m := m) (x := "told") (y := "word") (v := .none) (by decide)).trans hw
 have hm₁ := (set_ne (m := m) (x := "told") (y := "more") (v := .none) (by decide)).trans hm
 have hr₁ := (set_ne (m := m) (x := "told") (y := "root") (v := .none) (by decide)).trans hr
 have hs₁ := (set_ne (m := m) (x := "told") (y := "story") (v := .none) (by decide)).trans hs
 have ht₁ : set m "told" .none "told" = some .none := set_self
 have K₁ : Kept m (set m "told" .none) := (Kept.refl m).set (by decide)
 generalize set m "told" .none = m₁ at V₁ R₁ hk₁ hw₁ hm₁ hr₁ hs₁ ht₁ K₁
 refine wpAny_execs_cons (wpAny_If (wpAny_isTrue_Compare1 (R₁.V.rd (v := .str "L" t) (Constant_str (eq_str (wpAny_truthy_bool ?_))) hk₁)))
 rw [if_neg (by decide)]
 refine wpAny_execs_cons (wpAny_If (wpAny_isTrue_Compare1 (R₁.V.rd (v := .str "L" t) (Constant_str (eq_str (wpAny_truthy_bool ?_))) hk₁)))
 rw [if_pos (by decide)]
 refine wpAny_execs_cons (wpAny_Assign_Name (ev_Method (ev_Call (glob (v := .ref 244) R₁.T.bs (cw_callable (R₁.V.rd (v := .ref root) (R₁.V.rd (v := .str (toS x) u) ⟨fnCallable R₁.T.bs (o244p6 w.params) _, ?_⟩ hw₁) hr₁))))))
 refine run_walk (hA.le (by decide) (by decide)) R₁ (by lia) fun s₂ α₂ δ₂ y d x₂ R₂ a hyL hdL kk pl => ?_
 obtain ⟨kvs, hnode, ⟨od, hod, hlook⟩, _⟩ := a.node R₂
 refine getm_meth (f := .builtin "dict.get") (tf := .type "method_descriptor") R₂.T.bs hnode hod (by kernel_rfl) (by kernel_rfl) (by decide) (hlook "get" (by decide)) ?_
 refine cw_builtin (Constant_str (wpAny_Constant_int (run_get R₂ a fun s₃ t' x₃ e₃ => ?_)))
 have hE : (if (gone S [] x).2 = true then endv (gone S [] x).1 x else 0) = endv S x := by
  have e : endv (gone S [] x).1 x = endv S x := by unfold endv; rw [(gone_ends x S []).1]
  split
  ·exact e
  ·rename_i h
   rw [endv_none R.W fun h' => by
    have := (gone_not x S [] R.W R.W.root (by simpa using h)).1
    simp only [List.nil_append] at this
    rw [this] at h'; cases h']
 rw [hE]
 have R₃ : RunAt w L hB h₀ (gone S [] x).1 (n + x.length) α₂ δ₂ root σ π told s₃.heap m₁ := by
  have e : s₃.heap = s₂.heap := e₃
  rw [e]; exact R₂
 refine R₃.V.sxl (x := "told") fun s₄ x₄ V₄ k₄ => ?_
 have R₄ := R₃.loc V₄ k₄
 refine wpAny_execs_nil (wpAny_execs_nil (run_tail R₄ hσπ (by lia) ((set_ne (by decide)).trans hs₁) set_self (.int _ _) fun s₉ x₉ R₉ => hQ _ ⟨rfl, _, _, _, ?_, R₉.le (by lia), K₁.set (by decide)⟩))
 exact (((x₁.go x₂).go x₃).go x₄).go x₉
theorem run_turnF {x : Path} {k : Int} {t u v : Tok} (hA : Ok A 850 820) (R : RunAt w L hB h₀ S n α δ root σ π told s.heap m) (hσπ : σ ≠ π) (hlen : told.length ≤ 1000) (hn : n ≤ 1000) (hx : x.length ≤ 3) (hr : m "root" = some (.ref root)) (hs : m "story" = some (.ref σ))
  (hk : m "kind" = some (.str "F" t)) (hw : m "word" = some (.str (toS x) u)) (hm : m "more" = some (.int k v)) :
  wpAny (Md w) A (execs runBody (eRun L)) (TurnEnd w L hB h₀ (turnR S (.F x k)).1 (n + 7) root σ π (told ++ [(turnR S (.F x k)).2]) m s) E s := by
 refine wpAny_abs fun Q hQ => ?_
 refine wpAny_execs_cons (wpAny_Assign_Name (wpAny_Constant_none (R.V.sxl (x := "told") fun s₁ x₁ V₁ k₁ => ?_)))
 have R₁ := R.loc V₁ k₁
 have hk₁ := (set_ne (m := m) (x := "told") (y := "kind") (v := .none) (by decide)).trans hk
 have hw₁ := (set_ne (m := m) (x := "told") (y := "word") (v := .none) (by decide)).trans hw
 have hm₁ := (set_ne (m := m) (x := "told") (y := "more") (v := .none) (by decide)).trans hm
 have hr₁ := (set_ne (m := m) (x := "told") (y := "root") (v := .none) (by decide)).trans hr
 have hs₁ := (set_ne (m := m) (x := "told") (y := "story") (v := .none) (by decide)).trans hs
 have ht₁ : set m "told" .none "told" = some .none := set_self
 have K₁ : Kept m (set m "told" .none) := (Kept.refl m).set (by decide)
 generalize set m "told" .none = m₁ at V₁ R₁ hk₁ hw₁ hm₁ hr₁ hs₁ ht₁ K₁
 refine wpAny_execs_cons (wpAny_If (wpAny_isTrue_Compare1 (R₁.V.rd (v := .str "F" t) (Constant_str (eq_str (wpAny_truthy_bool ?_))) hk₁)))
 rw [if_neg (by decide)]
 refine wpAny_execs_cons (wpAny_If (wpAny_isTrue_Compare1 (R₁.V.rd (v := .str "F" t) (Constant_str (eq_str (wpAny_truthy_bool ?_))) hk₁)))
 rw [if_neg (by decide)]
 refine wpAny_execs_cons (wpAny_If (wpAny_isTrue_Compare1 (R₁.V.rd (v := .str "F" t) (Constant_str (eq_str (wpAny_truthy_bool ?_))) hk₁)))
 rw [if_pos (by decide)]
 refine wpAny_execs_cons (wpAny_Assign_Name (ev_Method (ev_Call (glob (v := .ref 244) R₁.T.bs (cw_callable (R₁.V.rd (v := .ref root) (R₁.V.rd (v := .str (toS x) u) ⟨fnCallable R₁.T.bs (o244p6 w.params) _, ?_⟩ hw₁) hr₁))))))
 refine run_walk (hA.le (by decide) (by decide)) R₁ (by lia) fun s₂ α₂ δ₂ y d x₂ R₂ a hyL hdL kk pl => ?_
 obtain ⟨kvs, hnode, ⟨od, hod, hlook⟩, _⟩ := a.node R₂
 refine getm_meth (f := .ref 105) (tf := .type "function") R₂.T.bs hnode hod (by kernel_rfl) (by kernel_rfl) (by decide) (hlook "freeze" (by decide)) ?_
 refine cw_callable ⟨fnCallable R₂.T.bs (o105p1 w.params) _, run_freeze (hA.le (by decide) (by decide)) R₂ a hdL fun s₃ x₃ R₃ => ?_⟩
 refine R₃.V.sxl (x := "told") fun s₄ x₄ V₄ k₄ => ?_
 have R₄ := R₃.loc V₄ k₄
 refine wpAny_execs_nil (wpAny_execs_nil (wpAny_execs_nil (run_tail R₄ hσπ (by lia) ((set_ne (by decide)).trans hs₁) set_self .none fun s₉ x₉ R₉ => hQ _ ⟨rfl, _, _, _, ?_, R₉.le (by lia), K₁.set (by decide)⟩)))
 exact (((x₁.go x₂).go x₃).go x₄).go x₉
theorem run_turnG {x y : Path} {t u v : Tok} (hA : Ok A 850 820) (R : RunAt w L hB h₀ S n α δ root σ π told s.heap m) (hσπ : σ ≠ π) (hlen : told.length ≤ 1000) (hn : n ≤ 1000) (hx : x.length ≤ 3) (hy : y.length ≤ 3) (hr : m "root" = some (.ref root)) (hs : m "story" = some (.ref σ))
  (hk : m "kind" = some (.str "G" t)) (hw : m "word" = some (.str (toS x) u)) (hm : m "more" = some (.str (toS y) v)) :
  wpAny (Md w) A (execs runBody (eRun L)) (TurnEnd w L hB h₀ (turnR S (.G x y)).1 (n + 7) root σ π (told ++ [(turnR S (.G x y)).2]) m s) E s := by
 refine wpAny_abs fun Q hQ => ?_
 refine wpAny_execs_cons (wpAny_Assign_Name (wpAny_Constant_none (R.V.sxl (x := "told") fun s₁ x₁ V₁ k₁ => ?_)))
 have R₁ := R.loc V₁ k₁
 have hk₁ := (set_ne (m := m) (x := "told") (y := "kind") (v := .none) (by decide)).trans hk
 have hw₁ := (set_ne (m := m) (x := "told") (y := "word") (v := .none) (by decide)).trans hw
 have hm₁ := (set_ne (m := m) (x := "told") (y := "more") (v := .none) (by decide)).trans hm
 have hr₁ := (set_ne (m := m) (x := "told") (y := "root") (v := .none) (by decide)).trans hr
 have hs₁ := (set_ne (m := m) (x := "told") (y := "story") (v := .none) (by decide)).trans hs
 have ht₁ : set m "told" .none "told" = some .none := set_self
 have K₁ : Kept m (set m "told" .none) := (Kept.refl m).set (by decide)
 generalize set m "told" .none = m₁ at V₁ R₁ hk₁ hw₁ hm₁ hr₁ hs₁ ht₁ K₁
 refine wpAny_execs_cons (wpAny_If (wpAny_isTrue_Compare1 (R₁.V.rd (v := .str "G" t) (Constant_str (eq_str (wpAny_truthy_bool ?_))) hk₁)))
 rw [if_neg (by decide)]
 refine wpAny_execs_cons (wpAny_If (wpAny_isTrue_Compare1 (R₁.V.rd (v := .str "G" t) (Constant_str (eq_str (wpAny_truthy_bool ?_))) hk₁)))
 rw [if_neg (by decide)]
 refine wpAny_execs_cons (wpAny_If (wpAny_isTrue_Compare1 (R₁.V.rd (v := .str "G" t) (Constant_str (eq_str (wpAny_truthy_bool ?_))) hk₁)))
 rw [if_neg (by decide)]
 refine wpAny_execs_cons (wpAny_If (wpAny_isTrue_Compare1 (R₁.V.rd (v := .str "G" t) (Constant_str (eq_str (wpAny_truthy_bool ?_))) hk₁)))
 rw [if_neg (by decide)]
 refine wpAny_execs_cons (wpAny_Assign_Name (ev_Call (glob (v := .ref 263) R₁.T.bs (cw_callable (R₁.V.rd (v := .ref root) (wpAny_BinOp (R₁.V.rd (v := .str (toS x) u) (R₁.V.rd (v := .str (toS y) v) ?_ hm₁) hw₁)) hr₁)))))
 refine add_str (fun t' tk => ?_) (by rw [toS_len, toS_len, sizeLine_eq]; lia)
 rw [toS_app]
 refine ⟨fnCallable R₁.T.bs (o263p6 w.params) _, run_long (hA.le (by decide) (by decide)) R₁ (by rw [List.length_append]; lia) (let ⟨_, _, hp⟩ := R₁.pi; ⟨_, hp⟩) fun s₃ α₂ δ₂ t1 x₃ R₃ hIs _ => ?_⟩
 refine R₃.V.sxl (x := "told") fun s₄ x₄ V₄ k₄ => ?_
 have R₄ := R₃.loc V₄ k₄
 have hIs₄ := hIs.keep (N' := fun b => b ≠ σ ∧ b ≠ π) (h' := s₄.heap) (fun b o _ e ⟨vs, nn, hd⟩ => k₄ b o (by
  rintro rfl
  obtain ⟨ml, ⟨oL, es, ep, hoL, hdL, _⟩, _⟩ := R₃.V.ns
  have hoL := hoL
  change s₃.heap.get? b = some oL at hoL
  rw [e] at hoL; cases hoL
  rw [hd] at hdL; cases hdL) e) fun _ h => h
 have hz := List.length_append (as := x) (bs := y)
 refine wpAny_execs_nil (wpAny_execs_nil (wpAny_execs_nil (wpAny_execs_nil (run_tail R₄ hσπ (by lia) ((set_ne (by decide)).trans hs₁) set_self hIs₄ fun s₉ x₉ R₉ => hQ _ ⟨rfl, _, _, _, ?_, R₉.le (by lia), K₁.set (by decide)⟩))))
 exact ((x₁.go x₃).go x₄).go x₉
end
end
section
noncomputable def clipN (v : Option Int) (dflt n : Nat) : Nat := match v with
 | none => dflt
 | some i => (max 0 (min (if i < 0 then i + n else i) (n : Int))).toNat
noncomputable def psl (p : Path) (l u : Option Int) : Path := (p.drop (clipN l 0 p.length)).take (clipN u p.length p.length - clipN l 0 p.length)
theorem clipN_le (v : Option Int) (d n : Nat) (h : d ≤ n) : clipN v d n ≤ n := by
 unfold clipN
 split
 ·exact h
 ·rename_i i
  split <;> lia
theorem pick_take (p : Path) : ∀ (k a : Nat), a + k ≤ p.length → ((List.range k).map (a + ·)).filterMap (p.toArray[·]?) = (p.drop a).take k
 | 0, a, _ => by simp
 | k + 1, a, h => by
  rw [List.range_succ, List.map_append, List.filterMap_append, pick_take p k a (by lia), List.take_add_one]
  congr 1
  simp only [List.map_cons, List.map_nil, List.filterMap_cons, List.filterMap_nil, List.getElem?_drop]
  have hlt : a + k < p.length := by lia
  simp [hlt]
theorem picked (p : Path) (l u : Option (Int × Tok)) : slicePicked (toS p) l u none = (List.range (clipN (u.map (·.1)) p.length p.length - clipN (l.map (·.1)) 0 p.length)).map (clipN (l.map (·.1)) 0 p.length + ·) := by
 rw [← sliceRange_one]
 unfold slicePicked Builtin.Str.strSliceIndices
 simp only [Option.map_none, Option.getD_none, toS_len]
 rw [if_pos (by decide), if_pos (by decide)]
 congr 1
 ·unfold clipN
  cases l with
  | none => rfl
  | some q =>
   simp only [Option.map_some]
   rw [if_pos (by decide)]
   lia
 ·unfold clipN
  cases u with
  | none => rfl
  | some q =>
   simp only [Option.map_some]
   rw [if_pos (by decide)]
   lia
theorem slice_post {s : Shared} {p : Path} {t : Tok} {l u : Option (Int × Tok)} {Q : Value → Shared → Prop} (hz : p.length ≤ 100000) (h : ∀ t' k, Q (.str (toS (psl p (l.map (·.1)) (u.map (·.1)))) t') { s with toks := k }) : (sliceMade (toS p) t l u none).post Q s := by
 have hb := clipN_le (u.map (·.1)) p.length p.length (Nat.le_refl _)
 have ha := clipN_le (l.map (·.1)) 0 p.length (Nat.zero_le _)
 have e : (slicePicked (toS p) l u none).filterMap ((toS p).cps[·]?) = psl p (l.map (·.1)) (u.map (·.1)) := by
  rw [picked]
  by_cases hab : clipN (l.map (·.1)) 0 p.length ≤ clipN (u.map (·.1)) p.length p.length
  ·exact pick_take p _ _ (by lia)
  ·unfold psl
   rw [show clipN (u.map (·.1)) p.length p.length - clipN (l.map (·.1)) 0 p.length = 0 from by lia]
   simp
 have el : (slicePicked (toS p) l u none).length = clipN (u.map (·.1)) p.length p.length - clipN (l.map (·.1)) 0 p.length := by rw [picked]; simp
 unfold sliceMade
 refine post_val_or_made (fun _ => ?_) fun t' k => ?_
 ·rw [e]
  show (psl p _ _).toArray.size ≤ sizeLine
  rw [List.size_toArray, sizeLine_eq]
  unfold psl
  rw [List.length_take, List.length_drop]
  lia
 ·rw [e]
  split
  ·rename_i hc
   rw [el, toS_len] at hc
   simp only [Option.map_none, Option.getD_none, Bool.and_eq_true, beq_iff_eq] at hc
   have h1 : clipN (l.map (·.1)) 0 p.length = 0 := by lia
   have h2 : clipN (u.map (·.1)) p.length p.length = p.length := by lia
   have : psl p (l.map (·.1)) (u.map (·.1)) = p := by unfold psl; rw [h1, h2]; simp
   have hh := h t' k
   rw [this] at hh
   exact hh
  ·exact h t' k
section
variable {w : World} {A : Around} {E : Value → Shared → Prop} {s : Shared} {env : Env}
theorem ev_slice {value : Expr} {lower upper : Option Expr} {p pos : Pos} {Q : Value → Shared → Prop}
  (h : wpAny (Md w) A (eval value env) (fun o s₁ => wpAny (Md w) A (evalPart lower env) (fun vl s₂ => wpAny (Md w) A (evalPart upper env) (fun vu s₃ =>
   ∃ x t l u, o = .str (toS x) t ∧ vl = partValue l ∧ vu = partValue u ∧ x.length ≤ 100000 ∧ ∀ s' t', Grow s₃ s' → Q (.str (toS (psl x (l.map (·.1)) (u.map (·.1)))) t') s') E s₂) E s₁) E s)
  (ht : ∀ o r, letTemporaryGo value o r = pure () := by intro _ _; rfl) : wpAny (Md w) A (eval (.Subscript value (.Slice lower upper none p) pos) env) Q E s := by
 refine wpAny_Subscript_str_slice (wpAny_mono h (fun o s₁ h₁ => wpAny_mono h₁ (fun vl s₂ h₂ => wpAny_mono h₂ (fun vu s₃ h₃ => ?_) fun _ _ e => e) fun _ _ e => e) fun _ _ e => e) ht
 obtain ⟨x, t, l, u, rfl, rfl, rfl, hx, hq⟩ := h₃
 exact ⟨_, t, l, u, rfl, rfl, rfl, slice_post hx fun t' k => hq _ t' (.of fun b o e => Heap.get?_push_of_some _ e)⟩
end
end
section
section
variable {w : World} {A : Around} {E : Value → Shared → Prop} {s : Shared} {L : Nat} {hB h₀ : Heap} {S : St} {n : Nat} {α δ : Path → Nat} {root σ π : Nat} {told : List PyData} {m : Str → Option Value}
theorem psl_init (x : Path) (c : Nat) : psl (x ++ [c]) none (some (-1)) = x := by
 unfold psl clipN
 simp only [List.length_append, List.length_cons, List.length_nil, List.drop_zero, Nat.sub_zero]
 rw [if_pos (show (-1 : Int) < 0 by decide), show (max 0 (min (-1 + ((x.length + (0 + 1) : Nat) : Int)) ((x.length + (0 + 1) : Nat) : Int))).toNat = x.length from by lia]
 simp
theorem ev_Dict0 {M : Model} {env : Env} {pos : Pos} {Q : Value → Shared → Prop} (h : Q (.ref s.heap.objs.size) { s with heap := s.heap.push { cls := .type "dict", data := .dict #[] } }) : wpAny M A (eval (.Dict [] [] pos) env) Q E s := by
 rw [eval_Dict_empty]
 exact wpAny_bind (wpAny_standAt (newDict_ h))
theorem last_at (x : Path) (c : Nat) : (seqIndex? (-1) (toS (x ++ [c])).length).bind ((toS (x ++ [c])).cps[·]?) = some c := by
 rw [toS_len]
 unfold seqIndex?
 simp only [List.length_append, List.length_cons, List.length_nil]
 rw [if_pos (show (-1 : Int) < 0 by decide), if_pos (by simp; lia)]
 rw [show (-1 + ((x.length + (0 + 1) : Nat) : Int)).toNat = x.length from by lia]
 simp [toS]
theorem run_turnT {x : Path} {c : Nat} {k : Int} {t u v : Tok} (hA : Ok A 850 820) (R : RunAt w L hB h₀ S n α δ root σ π told s.heap m) (hσπ : σ ≠ π) (hlen : told.length ≤ 1000) (hn : n ≤ 1000) (hx : x.length ≤ 2) (hdep : Dep S) (hr : m "root" = some (.ref root)) (hs : m "story" = some (.ref σ))
  (hk : m "kind" = some (.str "T" t)) (hw : m "word" = some (.str (toS (x ++ [c])) u)) (hm : m "more" = some (.int k v)) :
  wpAny (Md w) A (execs runBody (eRun L)) (TurnEnd w L hB h₀ (turnR S (.T x c k)).1 (n + 7) root σ π (told ++ [(turnR S (.T x c k)).2]) m s) E s := by
 refine wpAny_abs fun Q hQ => ?_
 refine wpAny_execs_cons (wpAny_Assign_Name (wpAny_Constant_none (R.V.sxl (x := "told") fun s₁ x₁ V₁ k₁ => ?_)))
 have R₁ := R.loc V₁ k₁
 have hk₁ := (set_ne (m := m) (x := "told") (y := "kind") (v := .none) (by decide)).trans hk
 have hw₁ := (set_ne (m := m) (x := "told") (y := "word") (v := .none) (by decide)).trans hw
 have hm₁ := (set_ne (m := m) (x := "told") (y := "more") (v := .none) (by decide)).trans hm
 have hr₁ := (set_ne (m := m) (x := "told") (y := "root") (v := .none) (by decide)).trans hr
 have hs₁ := (set_ne (m := m) (x := "told") (y := "story") (v := .none) (by decide)).trans hs
 have ht₁ : set m "told" .none "told" = some .none := set_self
 have K₁ : Kept m (set m "told" .none) := (Kept.refl m).set (by decide)
 generalize set m "told" .none = m₁ at V₁ R₁ hk₁ hw₁ hm₁ hr₁ hs₁ ht₁ K₁
 refine wpAny_execs_cons (wpAny_If (wpAny_isTrue_Compare1 (R₁.V.rd (v := .str "T" t) (Constant_str (eq_str (wpAny_truthy_bool ?_))) hk₁)))
 rw [if_neg (by decide)]
 refine wpAny_execs_cons (wpAny_If (wpAny_isTrue_Compare1 (R₁.V.rd (v := .str "T" t) (Constant_str (eq_str (wpAny_truthy_bool ?_))) hk₁)))
 rw [if_neg (by decide)]
 refine wpAny_execs_cons (wpAny_If (wpAny_isTrue_Compare1 (R₁.V.rd (v := .str "T" t) (Constant_str (eq_str (wpAny_truthy_bool ?_))) hk₁)))
 rw [if_neg (by decide)]
 refine wpAny_execs_cons (wpAny_If (wpAny_isTrue_Compare1 (R₁.V.rd (v := .str "T" t) (Constant_str (eq_str (wpAny_truthy_bool ?_))) hk₁)))
 rw [if_pos (by decide)]
 refine wpAny_execs_cons (wpAny_Assign_Name (ev_Call (glob (v := .ref 256) R₁.T.bs (cw_callable (ev_Method (ev_Call (glob (v := .ref 244) R₁.T.bs (cw_callable (R₁.V.rd (v := .ref root) (ev_slice (R₁.V.rd (v := .str (toS (x ++ [c])) u) (wpAny_pure (wpAny_UnaryOp (wpAny_Constant_int (neg_int ⟨x ++ [c], u, none, some (-1, _), rfl, rfl, rfl, by rw [List.length_append]; simp; lia, fun s₂ t₂ g₂ => ?_⟩)))) hw₁)) hr₁)))))))))
 simp only [Option.map_none, Option.map_some, psl_init]
 have x₂ : Sx s s₂ := x₁.go g₂.sx
 have R₂ := R₁.grow (h' := s₂.heap) g₂.keep
 refine ⟨fnCallable R₂.T.bs (o244p6 w.params) _, run_walk (hA.le (by decide) (by decide)) R₂ (by lia) fun s₃ α₂ δ₂ y d x₃ R₃ a hyL hdL kk pl => ?_⟩
 obtain ⟨kvs, hnode, ⟨od, hod, hlook⟩, _⟩ := a.node R₃
 refine getm_meth (f := .builtin "dict.pop") (tf := .type "method_descriptor") R₃.T.bs hnode hod (by kernel_rfl) (by kernel_rfl) (by decide) (hlook "pop" (by decide)) ?_
 refine cw_builtin (ev_Sub (R₃.V.rd (v := .str (toS (x ++ [c])) u) (wpAny_UnaryOp (wpAny_Constant_int (neg_int (gip_str ⟨rfl, getItem_str (c := c) (by decide) (last_at x c) ?_⟩)))) hw₁))
 refine ev_Dict0 ?_
 refine run_take (x := x) (c := c) (d := d) (st := (gone S [] x).2) (hA.le (by decide) (by decide)) (R₃.grow fun b o e => Heap.get?_push_of_some _ e) (by lia) ?_ ?_ ?_ ⟨0, Heap.get?_push_size _ rfl⟩ R₃.T.bs.n fun v₄ s₄ x₄ R₄ hIs => ?_
 ·unfold At at a ⊢
  split
  ·rename_i h; rw [if_pos h] at a; exact a
  ·rename_i h
   rw [if_neg h] at a
   obtain ⟨⟨⟨hna, ep, hod⟩, ay, ad⟩, hd3⟩ := a
   exact ⟨⟨⟨⟨hna.lo, hna.at_.at fun o e => Heap.get?_push_of_some _ e⟩, ep, Heap.get?_push_of_some _ hod⟩, ay, ad⟩, hd3⟩
 ·intro hst hc
  have := (gone_not x S [] R.W R.W.root hst).2
  simp only [List.nil_append] at this
  rw [prefix_has (gone_wf x S [] R.W R.W.root) [c] x hc] at this
  cases this
 ·exact hdep.gone (by lia)
 refine R₄.V.sxl (x := "told") fun s₅ x₅ V₅ k₅ => ?_
 have R₅ := R₄.loc V₅ k₅
 have hIs₅ := hIs.keep (N' := fun b => b ≠ σ ∧ b ≠ π) (h' := s₅.heap) (fun b o _ e ⟨vs, nn, hd⟩ => k₅ b o (by
  rintro rfl
  obtain ⟨ml, ⟨oL, es, ep, hoL, hdL', _⟩, _⟩ := R₄.V.ns
  have hoL := hoL
  change s₄.heap.get? b = some oL at hoL
  rw [e] at hoL; cases hoL
  rw [hd] at hdL'; cases hdL') e) fun _ h => h
 refine wpAny_execs_nil (wpAny_execs_nil (wpAny_execs_nil (wpAny_execs_nil (run_tail R₅ hσπ (by lia) ((set_ne (by decide)).trans hs₁) set_self hIs₅ fun s₉ x₉ R₉ => hQ _ ⟨rfl, _, _, _, ?_, R₉.le (by lia), K₁.set (by decide)⟩))))
 exact (((x₂.go x₃).go x₄).go x₅).go x₉
end
end
section
section
variable {w : World} {A : Around} {E : Value → Shared → Prop} {s : Shared} {L : Nat} {hB h₀ : Heap} {S : St} {n : Nat} {α δ : Path → Nat} {root σ π : Nat} {told : List PyData} {m : Str → Option Value}
theorem ev_IfStr {M : Model} {env : Env} {test : Expr} {a b : Str} {k1 k2 : Nat} {p1 p2 pos : Pos} {Q : Value → Shared → Prop} (h : wpAny M A (isTrue test env (eval test env)) (fun c s₁ => Q (.str (if c = true then a else b) s₁.toks) { s₁ with toks := s₁.toks + 1 }) E s) : wpAny M A (eval (.IfExp test (.Constant (.str a) k1 p1) (.Constant (.str b) k2 p2) pos) env) Q E s :=
 ev_IfExp (wpAny_mono h (fun c s₁ h₁ => by
  cases c with
  | true => exact Constant_str h₁
  | false => exact Constant_str h₁) fun _ _ e => e)
theorem At.loc {h h' : Heap} {x : Path} {st : Bool} {y d : Nat} (a : At w hB h S α δ x st y d) (k : ∀ b o, b ≠ L → h.get? b = some o → h'.get? b = some o) (hy : y ≠ L) (hd : d ≠ L) : At w hB h' S α δ x st y d := by
 unfold At at a ⊢
 split
 ·rename_i hs; rw [if_pos hs] at a; exact a
 ·rename_i hs
  rw [if_neg hs] at a
  obtain ⟨⟨⟨hna, ep, hod⟩, ay, ad⟩, hd3⟩ := a
  exact ⟨⟨⟨⟨hna.lo, hna.at_.at fun o e => k _ _ hy e⟩, ep, k _ _ hd hod⟩, ay, ad⟩, hd3⟩
theorem At.grow {h h' : Heap} {x : Path} {st : Bool} {y d : Nat} (a : At w hB h S α δ x st y d) (k : ∀ b o, h.get? b = some o → h'.get? b = some o) : At w hB h' S α δ x st y d := by
 unfold At at a ⊢
 split
 ·rename_i hs; rw [if_pos hs] at a; exact a
 ·rename_i hs
  rw [if_neg hs] at a
  obtain ⟨⟨⟨hna, ep, hod⟩, ay, ad⟩, hd3⟩ := a
  exact ⟨⟨⟨⟨hna.lo, hna.at_.at fun o e => k _ _ e⟩, ep, k _ _ hod⟩, ay, ad⟩, hd3⟩
theorem run_turnP {x : Path} {k : Int} {t u v : Tok} (hA : Ok A 850 820) (R : RunAt w L hB h₀ S n α δ root σ π told s.heap m) (hσπ : σ ≠ π) (hlen : told.length ≤ 1000) (hn : n ≤ 1000) (ok : (Deed.P x k).ok) (hr : m "root" = some (.ref root)) (hs : m "story" = some (.ref σ))
  (hk : m "kind" = some (.str "P" t)) (hw : m "word" = some (.str (toS x) u)) (hm : m "more" = some (.int k v)) :
  wpAny (Md w) A (execs runBody (eRun L)) (TurnEnd w L hB h₀ (turnR S (.P x k)).1 (n + 7) root σ π (told ++ [(turnR S (.P x k)).2]) m s) E s := by
 refine wpAny_abs fun Q hQ => ?_
 refine wpAny_execs_cons (wpAny_Assign_Name (wpAny_Constant_none (R.V.sxl (x := "told") fun s₁ x₁ V₁ k₁ => ?_)))
 have R₁ := R.loc V₁ k₁
 have hk₁ := (set_ne (m := m) (x := "told") (y := "kind") (v := .none) (by decide)).trans hk
 have hw₁ := (set_ne (m := m) (x := "told") (y := "word") (v := .none) (by decide)).trans hw
 have hm₁ := (set_ne (m := m) (x := "told") (y := "more") (v := .none) (by decide)).trans hm
 have hr₁ := (set_ne (m := m) (x := "told") (y := "root") (v := .none) (by decide)).trans hr
 have hs₁ := (set_ne (m := m) (x := "told") (y := "story") (v := .none) (by decide)).trans hs
 have ht₁ : set m "told" .none "told" = some .none := set_self
 have K₁ : Kept m (set m "told" .none) := (Kept.refl m).set (by decide)
 generalize set m "told" .none = m₁ at V₁ R₁ hk₁ hw₁ hm₁ hr₁ hs₁ ht₁ K₁
 refine wpAny_execs_cons (wpAny_If (wpAny_isTrue_Compare1 (R₁.V.rd (v := .str "P" t) (Constant_str (eq_str (wpAny_truthy_bool ?_))) hk₁)))
 rw [if_pos (by decide)]
 obtain ⟨hx, hx0, hk0, hk1, a, b, hS, hbx, hint, hal⟩ := ok
 refine wpAny_execs_cons (wpAny_Assign_Name (ev_Method (glob (v := .ref 203) R₁.T.bs fun pl => getm_parse R₁.T.bs fun q s₂ g₂ hq => cw_parse ?_)))
 have R₂ := R₁.grow g₂.keep
 refine wpAny_BinOp (wpAny_BinOp (ev_Call (blt (v := .type "str") R₂.T.bs (cw_type (R₂.V.rd (v := .int k v) (PySem.P.str_of_int ?_ ?_) hm₁)))))
 ·have : k.natAbs < 2 ^ 1920 := by
   have h1 : k.natAbs ≤ 1000 := by omega
   exact Nat.lt_of_le_of_lt h1 (by decide)
  by_cases h0 : k.natAbs = 0
  ·rw [h0]; decide
  ·exact (Nat.log2_lt h0).mpr this
 refine ev_IfStr (wpAny_isTrue_Compare1 (wpAny_BinOp (R₂.V.rd (v := .int k v) (wpAny_Constant_int (mod_int (by decide) (wpAny_Constant_int (eq_int (wpAny_truthy_bool ?_))))) hm₁)))
 have hl := len_str_of_int k
 have hls : (if (k.fmod 2 == 0) = true then Str.ofString " = " else Str.ofString "=").length ≤ 3 := by split <;> decide
 refine add_str (fun t₃ k₃ => ?_) (by rw [sizeLine_eq]; omega)
 refine R₂.V.rd (v := .str (toS x) u) (add_str (fun t₄ k₄ => ?_) ?_) hw₁
 ·have hq' : s₂.heap.get? q = some (methodObj (.ref 197) (.ref 203)) := hq
  refine ⟨⟨hq', R₂.T.bs.k⟩, call_parse R₂.T.bs (hA.le (by decide) (by decide)) hq' hS fun p d tn tv s₅ g₅ hp fp fd => ?_⟩
  rw [hbx] at hp
  have fp : s₂.heap.get? p = none := fp
  have fd : s₂.heap.get? d = none := fd
  have x₅ : Sx s s₅ := (x₁.go g₂.sx).go g₅.sx
  have g₅ : ∀ b o, s₂.heap.get? b = some o → s₅.heap.get? b = some o := g₅.keep
  have R₅ := R₂.grow g₅
  obtain ⟨oL, hoL⟩ := R₂.V.own (.inl rfl)
  have hoL : s₂.heap.get? L = some oL := hoL
  have hpL : p ≠ L := fun e => by rw [e, hoL] at fp; cases fp
  have hdL : d ≠ L := fun e => by rw [e, hoL] at fd; cases fd
  have ap : Away S α δ p := R₂.T.freshAway fp
  have ad : Away S α δ d := R₂.T.freshAway fd
  have n100 : p ≠ 100 ∧ d ≠ 100 := by
   obtain ⟨ps, hP, _⟩ := R₂.T.tab
   exact ⟨fun e => (by rw [e, hP] at fp; cases fp), fun e => (by rw [e, hP] at fd; cases fd)⟩
  refine R₅.V.sxl (x := "pair") fun s₆ x₆ V₆ k₆ => ?_
  have R₆ := R₅.loc V₆ k₆
  have hp₆ : PairAt s₆.heap p d _ _ := ⟨k₆ _ _ hpL hp.1, k₆ _ _ hdL hp.2⟩
  have hr₆ := (set_ne (m := m₁) (x := "pair") (y := "root") (v := .ref p) (by decide)).trans hr₁
  refine wpAny_execs_cons (wpAny_Assign_Name (ev_Call (glob (v := .ref 244) R₆.T.bs (cw_callable (R₆.V.rd (v := .ref root) (Attribute_Name_ (R₆.V.rd (v := .ref p) (pair_value R₆.T.bs (hA.le (by decide) (by decide)) hp₆ fun s₇ g₇ => ?_) set_self)) hr₆)))))
  have k₇ : ∀ b o, s₆.heap.get? b = some o → s₇.heap.get? b = some o := g₇.keep
  have R₇ := R₆.grow k₇
  have hp₇ : PairAt s₇.heap p d _ _ := ⟨k₇ _ _ hp₆.1, k₇ _ _ hp₆.2⟩
  refine ⟨fnCallable R₇.T.bs (o244p6 w.params) _, run_walk (hA.le (by decide) (by decide)) R₇ (by omega) fun s₈ α₂ δ₂ y dy x₈ R₈ a hyL hdyL kk => ?_⟩
  have hp₈ : PairAt s₈.heap p d _ _ := ⟨kk _ _ hp₇.1 n100.1 ap, kk _ _ hp₇.2 n100.2 ad⟩
  refine R₈.V.sxl (x := "node") fun s₁₀ x₁₀ V₁₀ k₁₀ => ?_
  have R₁₀ := R₈.loc V₁₀ k₁₀
  have a₁₀ := a.loc k₁₀ hyL hdyL
  have hp₁₀ : PairAt s₁₀.heap p d _ _ := ⟨k₁₀ _ _ hpL hp₈.1, k₁₀ _ _ hdL hp₈.2⟩
  refine wpAny_execs_cons (wpAny_Assign_Subscript (ev_Call (blt (v := .type "int") R₁₀.T.bs (cw_type (Attribute_Name_ (R₁₀.V.rd (v := .ref p) (pair_name R₁₀.T.bs (hA.le (by decide) (by decide)) hp₁₀ fun s₁₁ g₁₁ => ?_) ((set_ne (by decide)).trans set_self)))))))
  refine KIN.call_text hint hal ?_
  have k₁₁ : ∀ b o, s₁₀.heap.get? b = some o → s₁₁.heap.get? b = some o := g₁₁.keep
  have R₁₁ := R₁₀.grow k₁₁
  refine R₁₁.V.rd (v := .ref y) (Constant_str ?_) set_self
  refine run_put (x := x) (d := dy) (st := (gone S [] x).2) R₁₁ (by omega) (a₁₀.grow k₁₁) hyL fun s₁₂ x₁₂ R₁₂ => ?_
  have ht₁₂ : set (set m₁ "pair" (.ref p)) "node" (.ref y) "told" = some .none := (set_ne (by decide)).trans ((set_ne (by decide)).trans ht₁)
  have hs₁₂ : set (set m₁ "pair" (.ref p)) "node" (.ref y) "story" = some (.ref σ) := (set_ne (by decide)).trans ((set_ne (by decide)).trans hs₁)
  refine wpAny_execs_nil (run_tail R₁₂ hσπ (by omega) hs₁₂ ht₁₂ .none fun s₉ x₉ R₉ => hQ _ ⟨rfl, _, _, _, ?_, R₉.le (by omega), (K₁.set (by decide)).set (by decide)⟩)
  exact (((((x₅.go x₆).go g₇.sx).go x₈).go x₁₀).go g₁₁.sx).go x₁₂ |>.go x₉
 ·show (Str.ofString (toString k) ++ _).length + (toS x).length ≤ sizeLine
  rw [toS_len, sizeLine_eq]
  have : ∀ a b : Str, (a ++ b).length = a.length + b.length := fun a b => by
   show (a.cps ++ b.cps).size = _
   simp [Str.length]
  rw [this]
  omega
end
end
section
theorem psl_win (x : Path) (k : Nat) (h : k ≤ x.length) : psl x (some (k : Int)) (some ((k : Int) + 6)) = (x.drop k).take 6 := by
 unfold psl clipN
 simp only
 rw [if_neg (show ¬ ((k : Int) < 0) by lia), if_neg (show ¬ ((k : Int) + 6 < 0) by lia)]
 rw [show (max 0 (min (k : Int) (x.length : Int))).toNat = k from by lia, show (max 0 (min ((k : Int) + 6) (x.length : Int))).toNat = min (k + 6) x.length from by lia]
 by_cases h6 : k + 6 ≤ x.length
 ·rw [show min (k + 6) x.length - k = 6 from by lia]
 ·rw [show min (k + 6) x.length - k = x.length - k from by lia, List.take_of_length_le (by simp), List.take_of_length_le (by simp; lia)]
noncomputable def pieceOf (r : Int × Nat) : PyData := .tuple [.int r.1, .int r.2, .bool (r.1 == 0), .bool (decide (r.1 < 256)), .bool (decide (r.1 ≥ 256))]
noncomputable def pcsR (S : St) : Nat → Path → List PyData
 | 0, _ => []
 | f + 1, t => if t = [] then [] else pieceOf (lng S [] (t.take 6) (0, 0)) :: pcsR S f (t.drop (max 1 (lng S [] (t.take 6) (0, 0)).2))
def SK (π : Nat) (h h' : Heap) : Prop := ∀ b o, b ≠ π → h.get? b = some o → (∃ vs n, o.data = .seq vs n) → h'.get? b = some o
theorem SK.trans {π : Nat} {h h' h'' : Heap} (x : SK π h h') (y : SK π h' h'') : SK π h h'' := fun b o hb e hd => y b o hb (x b o hb e hd) hd
theorem SK.grow {π : Nat} {h h' : Heap} (k : ∀ b o, h.get? b = some o → h'.get? b = some o) : SK π h h' := fun b o _ e _ => k b o e
theorem Is.sk {N : Addr → Prop} {π : Nat} {h h' : Heap} {v : Value} {d : PyData} (x : Is N h v d) (k : SK π h h') (hN : ∀ b, N b → b ≠ π) : Is N h' v d := x.keep (fun b o hb e hd => k b o (hN b hb) e hd) fun _ h => h
theorem IsAll.sk {N : Addr → Prop} {π : Nat} {h h' : Heap} {v : List Value} {d : List PyData} (x : IsAll N h v d) (k : SK π h h') (hN : ∀ b, N b → b ≠ π) : IsAll N h' v d := x.keep (fun b o hb e hd => k b o (hN b hb) e hd) fun _ h => h
section
variable {w : World} {A : Around} {E : Value → Shared → Prop} {s : Shared} {L : Nat} {hB h₀ : Heap} {S : St} {n : Nat} {α δ : Path → Nat} {root σ π : Nat} {told : List PyData} {m m' : Str → Option Value} {h h' : Heap}
theorem RunAt.free (R : RunAt w L hB h₀ S n α δ root σ π told h m) : RunAt w L hB {} S n α δ root σ π told h m := ⟨R.T, R.W, R.z, R.V, R.off, R.hL, R.rt, R.hσ, R.st, R.pi, R.frm, fun b o e => by
 have : ({} : Heap).get? b = none := by unfold Heap.get?; simp
 rw [this] at e; cases e⟩
theorem RunAt.here (R : RunAt w L hB h₀ S n α δ root σ π told h m) : RunAt w L hB h S n α δ root σ π told h m := ⟨R.T, R.W, R.z, R.V, R.off, R.hL, R.rt, R.hσ, R.st, R.pi, R.frm, fun b o e _ _ _ => e⟩
theorem RunAt.locSK (R : RunAt w L hB h₀ S n α δ root σ π told h m) (k : ∀ b o, b ≠ L → h.get? b = some o → h'.get? b = some o) : SK π h h' := fun b o _ e ⟨vs, nn, hd⟩ => k b o (by
 rintro rfl
 obtain ⟨ml, ⟨oL, es, ep, hoL, hdL, _⟩, _⟩ := R.V.ns
 have hoL : h.get? _ = some oL := hoL
 change h.get? b = some oL at hoL
 rw [e] at hoL; cases hoL
 rw [hd] at hdL; cases hdL) e
theorem RunAt.awaySK (R : RunAt w L hB h₀ S n α δ root σ π told h m) (kk : ∀ b o, h.get? b = some o → b ≠ 100 → Away S α δ b → h'.get? b = some o) : SK π h h' := fun b o _ e ⟨vs, nn, hd⟩ =>
 kk b o e (R.T.ne100 e fun vs' e' => by rw [hd] at e'; cases e') (R.T.nondict e (noD_seq hd))
theorem RunAt.appP {xs xs' : Array Value} (R : RunAt w L hB {} S n α δ root σ π told h m) (hσπ : σ ≠ π) (hp : h.PlainList π xs) (hl : h'.PlainList π xs') (h3 : 303 ≤ π) (k : ∀ b o, b ≠ π → h.get? b = some o → h'.get? b = some o) : RunAt w L hB {} S n α δ root σ π told h' m := by
 obtain ⟨nn, hp⟩ := hp
 have hLπ : L ≠ π := fun e => by
  obtain ⟨ml, ⟨oL, es, ep, hoL, hdL, _⟩, _⟩ := R.V.ns
  have hoL : h.get? L = some oL := hoL
  rw [e, hp] at hoL; cases hoL; cases hdL
 have Tn : Tree w h' S α δ := R.T.keep fun b o e hn => k b o (by
  rintro rfl
  rcases hn with hn | ⟨p, hq, hn | hn⟩ | hn
  ·lia
  ·exact (R.T.nondict hp (noD_seq rfl) p hq).1 hn
  ·exact (R.T.nondict hp (noD_seq rfl) p hq).2 hn
  ·rw [hp] at e; cases e
   rcases hn with ⟨_, h⟩ | ⟨_, h⟩ | ⟨_, h, _⟩ <;> cases h) e
 refine ⟨Tn, R.W, R.z, R.V.keep fun b o hb e => ?_, R.off, R.hL, R.rt, R.hσ, ?_, ⟨_, hl⟩, fun b o e h1 => let ⟨f1, f2, f3⟩ := R.frm b o e h1; ⟨k b o f3.2.2 f1, f2, f3⟩, fun b o e => ?_⟩
 ·have := own_run hb
  subst this
  exact k _ o hLπ e
 ·obtain ⟨ys, ⟨nn, hy⟩, hI⟩ := R.st
  exact ⟨ys, ⟨nn, k _ _ hσπ hy⟩, hI.keep (fun b o hb e _ => k b o hb.2 e) fun _ h => h⟩
 ·have : ({} : Heap).get? b = none := by unfold Heap.get?; simp
  rw [this] at e; cases e
end
structure Kept2 (m m' : Str → Option Value) : Prop where
 root : m' "root" = m "root"
 story : m' "story" = m "story"
 pieces : m' "pieces" = m "pieces"
 tree : m' "tree" = m "tree"
 text : m' "text" = m "text"
theorem Kept2.refl (m : Str → Option Value) : Kept2 m m := ⟨rfl, rfl, rfl, rfl, rfl⟩
theorem Kept2.trans {m m' m'' : Str → Option Value} (x : Kept2 m m') (y : Kept2 m' m'') : Kept2 m m'' := ⟨y.root.trans x.root, y.story.trans x.story, y.pieces.trans x.pieces, y.tree.trans x.tree, y.text.trans x.text⟩
theorem Kept2.set {m m' : Str → Option Value} {x : Str} {v : Value} (k : Kept2 m m') (h : (["root", "story", "pieces", "tree", "text"] : List Str).contains x = false) : Kept2 m (set m' x v) := by
 have ne : ∀ y ∈ (["root", "story", "pieces", "tree", "text"] : List Str), y ≠ x := fun y hy e => by
  subst e
  rw [List.contains_iff_mem.mpr hy] at h; cases h
 exact ⟨(set_ne (ne _ (by simp))).trans k.root, (set_ne (ne _ (by simp))).trans k.story, (set_ne (ne _ (by simp))).trans k.pieces, (set_ne (ne _ (by simp))).trans k.tree, (set_ne (ne _ (by simp))).trans k.text⟩
noncomputable def pieceBody : List Stmt := forBody ((fnBody 68)[4]?.getD (.Pass default))
structure Cut (w : World) (L : Nat) (hB : Heap) (S : St) (n : Nat) (α δ : Path → Nat) (root σ π : Nat) (told pd : List PyData) (text : Path) (k : Nat) (h : Heap) (m : Str → Option Value) : Prop where
 R : RunAt w L hB {} S n α δ root σ π told h m
 root : m "root" = some (.ref root)
 text : ∃ t, m "text" = some (.str (toS text) t)
 k : ∃ u, m "k" = some (.int k u)
 pieces : m "pieces" = some (.ref π)
 p : ∃ zs, h.PlainList π zs.toArray ∧ IsAll (fun b => b ≠ σ ∧ b ≠ π) h zs pd
 shut : ∀ x, (gone S [] x).1 = S
 ne : σ ≠ π
 lo : 303 ≤ π
end
section
section
variable {w : World} {A : Around} {E : Value → Shared → Prop} {s : Shared} {L : Nat} {hB h₀ : Heap} {S : St} {n : Nat} {α δ : Path → Nat} {root σ π : Nat} {told pd : List PyData} {text : Path} {k : Nat} {m m' : Str → Option Value} {h h' : Heap}
theorem Cut.grow (C : Cut w L hB S n α δ root σ π told pd text k h m) (kk : ∀ b o, h.get? b = some o → h'.get? b = some o) : Cut w L hB S n α δ root σ π told pd text k h' m := by
 obtain ⟨zs, ⟨nn, hp⟩, hI⟩ := C.p
 exact ⟨C.R.grow kk, C.root, C.text, C.k, C.pieces, ⟨zs, ⟨nn, kk _ _ hp⟩, hI.keep (.grow kk) fun _ h => h⟩, C.shut, C.ne, C.lo⟩
theorem seqGet {h h' : Heap} {a : Nat} {xs : Array Value} (sk : ∀ b o, h.get? b = some o → (∃ vs n, o.data = .seq vs n) → h'.get? b = some o) (hp : h.PlainList a xs) : h'.PlainList a xs := let ⟨n, e⟩ := hp; ⟨n, sk _ _ e ⟨_, _, rfl⟩⟩
theorem run_piece {n₀ : Nat} (hA : Ok A 850 820) (C : Cut w L hB S n α δ root σ π told pd text k s.heap m) (hz : Sz n₀ S) (hn : n₀ ≤ 1000) (hk : k < text.length) (ht : text.length ≤ 1000) (hpd : pd.length ≤ 1000) :
  wpAny (Md w) A (execs pieceBody (eRun L)) (fun f s' => f = .next ∧ ∃ α δ m', Sx s s' ∧ Cut w L hB S n₀ α δ root σ π told (pd ++ [pieceOf (lng S [] ((text.drop k).take 6) (0, 0))]) text (k + max 1 (lng S [] ((text.drop k).take 6) (0, 0)).2) s'.heap m' ∧ Kept2 m m' ∧ SK π s.heap s'.heap) E s := by
 refine wpAny_abs fun Q hQ => ?_
 have R : RunAt w L hB {} S n₀ α δ root σ π told s.heap m := let R := C.R; ⟨R.T, R.W, hz, R.V, R.off, R.hL, R.rt, R.hσ, R.st, R.pi, R.frm, R.old⟩
 obtain ⟨t, htx⟩ := C.text
 obtain ⟨u, hku⟩ := C.k
 refine wpAny_execs_cons (Assign_Tuple (ev_Call (glob (v := .ref 263) R.T.bs (cw_callable (R.V.rd (v := .ref root) (ev_slice (R.V.rd (v := .str (toS text) t) (R.V.rd (v := .int k u) (wpAny_BinOp (R.V.rd (v := .int k u) (wpAny_Constant_int (add_int ⟨text, t, some ((k : Int), u), some ((k : Int) + 6, _), rfl, rfl, rfl, by lia, fun s₁ t₁ g₁ => ?_⟩)) hku)) hku) htx)) C.root)))))
 simp only [Option.map_some]
 rw [psl_win text k (Nat.le_of_lt hk)]
 have x₁ : Sx s s₁ := Sx.trans (by exact ⟨rfl, rfl, rfl⟩) g₁.sx
 have k₁ : ∀ b o, s.heap.get? b = some o → s₁.heap.get? b = some o := g₁.keep
 have R₁ := R.grow k₁
 generalize hw : (text.drop k).take 6 = win at hQ ⊢
 have hwl : win.length ≤ 6 := by rw [← hw, List.length_take]; exact Nat.min_le_left ..
 obtain ⟨zs, hP, hI⟩ := C.p
 have hP₁ : s₁.heap.PlainList π zs.toArray := seqGet (fun b o e _ => k₁ b o e) hP
 refine ⟨fnCallable R₁.T.bs (o263p6 w.params) _, run_long (hA.le (by decide) (by decide)) R₁ (by lia) (let ⟨_, e⟩ := hP₁; ⟨_, e⟩) fun s₂ α₂ δ₂ t1 x₂ R₂ hIs kk => ?_⟩
 rw [C.shut] at R₂
 have R₂ : RunAt w L hB {} S n₀ α₂ δ₂ root σ π told s₂.heap m := ⟨R₂.T, R₂.W, hz, R₂.V, R₂.off, R₂.hL, R₂.rt, R₂.hσ, R₂.st, R₂.pi, R₂.frm, R₂.old⟩
 have sk₂ : SK π s.heap s₂.heap := (SK.grow k₁).trans (R₁.awaySK kk)
 have hP₂ : s₂.heap.PlainList π zs.toArray := seqGet (fun b o e hd => kk b o e (R₁.T.ne100 e fun vs' e' => by obtain ⟨_, _, hd⟩ := hd; rw [hd] at e'; cases e') (R₁.T.nondict e (let ⟨_, _, hd⟩ := hd; noD_seq hd))) hP₁
 have hI₂ := hI.sk sk₂ fun _ h => h.2
 generalize hr : lng S [] win (0, 0) = r at hIs hQ ⊢
 obtain ⟨a, bz⟩ := r
 cases hIs with
 | tuple hN ho hc hd hall =>
  rename_i o vs nn
  obtain ⟨l⟩ := vs
  have hall : IsAll _ _ l _ := hall
  cases hall with
  | cons hva hall =>
   cases hall with
   | cons hvb hall =>
    cases hall
    obtain ⟨ua, rfl⟩ := hva.asInt
    obtain ⟨ub, rfl⟩ := hvb.asInt
    refine asgx hA.h ho hc hd fun s₃ g₃ => ?_
    have k₃ : ∀ b o, s₂.heap.get? b = some o → s₃.heap.get? b = some o := g₃.keep
    have R₃ := R₂.grow k₃
    refine R₃.V.sxl (x := "number") fun s₄ x₄ V₄ k₄ => ?_
    have R₄ := R₃.loc V₄ k₄
    refine R₄.V.sxl (x := "size") fun s₅ x₅ V₅ k₅ => ?_
    have R₅ := R₄.loc V₅ k₅
    have x₅' : Sx s s₅ := (((x₁.go x₂).go g₃.sx).go x₄).go x₅
    have sk₅ : SK π s.heap s₅.heap := ((sk₂.trans (SK.grow k₃)).trans (R₃.locSK k₄)).trans (R₄.locSK k₅)
    have hP₅ : s₅.heap.PlainList π zs.toArray := by
     obtain ⟨nn, e⟩ := hP₂
     have hLπ : π ≠ L := fun e' => by
      obtain ⟨ml, ⟨oL, es, ep, hoL, hdL, _⟩, _⟩ := R₂.V.ns
      have hoL : s₂.heap.get? L = some oL := hoL
      rw [← e', e] at hoL; cases hoL; cases hdL
     exact ⟨nn, k₅ _ _ hLπ (k₄ _ _ hLπ (k₃ _ _ e))⟩
    have hI₅ := hI.sk sk₅ fun _ h => h.2
    have mk : ∀ y : Str, y ≠ "size" → y ≠ "number" → set (set m "number" (.int a ua)) "size" (.int bz ub) y = m y := fun y h1 h2 => (set_ne h1).trans (set_ne h2)
    have hnum : set (set m "number" (.int a ua)) "size" (.int bz ub) "number" = some (.int a ua) := (set_ne (by decide)).trans set_self
    have hsz : set (set m "number" (.int a ua)) "size" (.int bz ub) "size" = some (.int bz ub) := set_self
    have K₅ : Kept2 m (set (set m "number" (.int a ua)) "size" (.int bz ub)) := ((Kept2.refl m).set (by decide)).set (by decide)
    have hk₅ := (mk "k" (by decide) (by decide)).trans hku
    generalize set (set m "number" (.int a ua)) "size" (.int bz ub) = m₅ at V₅ R₅ hnum hsz K₅ hk₅
    clear mk
    refine wpAny_execs_cons (wpAny_Expr (ev_Method (R₅.V.rd (v := .ref π) (fun pl => getm_append hP₅ (cw_builtin (ev_Tuple (R₅.V.rd (v := .int a ua) (R₅.V.rd (v := .int bz ub) (ev_Call (glob (v := .ref 230) R₅.T.bs (cw_callable (R₅.V.rd (v := .int a ua) ⟨fnCallable R₅.T.bs (o230p6 w.params) _, call_iseof R₅.T.bs (hA.le (by decide) (by decide)) fun s₆ g₆ => ?_⟩ hnum)))) hsz) hnum)))) (K₅.pieces.trans C.pieces))))
    have k₆ : ∀ b o, s₅.heap.get? b = some o → s₆.heap.get? b = some o := g₆.keep
    have R₆ := R₅.grow k₆
    refine ev_Call (glob (v := .ref 216) R₆.T.bs (cw_callable (R₆.V.rd (v := .int a ua) ⟨fnCallable R₆.T.bs (o216p6 w.params) _, call_isterm R₆.T.bs (hA.le (by decide) (by decide)) fun s₇ g₇ => ?_⟩ hnum)))
    have k₇ : ∀ b o, s₆.heap.get? b = some o → s₇.heap.get? b = some o := g₇.keep
    have R₇ := R₆.grow k₇
    refine ev_Call (glob (v := .ref 223) R₇.T.bs (cw_callable (R₇.V.rd (v := .int a ua) ⟨fnCallable R₇.T.bs (o223p6 w.params) _, call_isnon R₇.T.bs (hA.le (by decide) (by decide)) fun s₈ g₈ => ?_⟩ hnum)))
    have k₈ : ∀ b o, s₇.heap.get? b = some o → s₈.heap.get? b = some o := g₈.keep
    have k₅₈ : ∀ b o, s₅.heap.get? b = some o → s₈.heap.get? b = some o := fun b o e => k₈ b o (k₇ b o (k₆ b o e))
    have x₈ : Sx s s₈ := ((x₅'.go g₆.sx).go g₇.sx).go g₈.sx
    have up : ∀ b o, s₅.heap.get? b = some o → (s₈.heap.push (tupO [.int a ua, .int bz ub, .bool (a == 0), .bool (decide (a < 256)), .bool (decide (a ≥ 256))])).get? b = some o := fun b o e => Heap.get?_push_of_some _ (k₅₈ b o e)
    have R₉ := R₅.grow up
    have hP₉ : (s₈.heap.push (tupO [.int a ua, .int bz ub, .bool (a == 0), .bool (decide (a < 256)), .bool (decide (a ≥ 256))])).PlainList π zs.toArray := seqGet (fun b o e _ => up b o e) hP₅
    have hI₉ := hI₅.sk (SK.grow up) fun _ h => h.2
    refine wpAny_list_append_plain hP₉ (fun h' hl S' => ?_) (by rw [List.size_toArray, hI.len, sizeLine_eq]; lia)
    have kS : ∀ b o, b ≠ π → (s₈.heap.push (tupO [.int a ua, .int bz ub, .bool (a == 0), .bool (decide (a < 256)), .bool (decide (a ≥ 256))])).get? b = some o → h'.get? b = some o := fun b o hb e => (S'.2 b hb).trans e
    have e1 : zs.toArray.push (Value.ref s₈.heap.objs.size) = (zs ++ [Value.ref s₈.heap.objs.size]).toArray := by simp
    rw [e1] at hl
    have R₁₀ := R₉.appP C.ne hP₉ hl C.lo kS
    have hnew : s₈.heap.objs.size ≠ σ ∧ s₈.heap.objs.size ≠ π := by
     obtain ⟨ys, ⟨_, hy⟩, _⟩ := R₅.st
     obtain ⟨_, e⟩ := hP₅
     exact ⟨Nat.ne_of_gt (Heap.lt_size (k₅₈ _ _ hy)), Nat.ne_of_gt (Heap.lt_size (k₅₈ _ _ e))⟩
    have hI₁₀ : IsAll (fun b => b ≠ σ ∧ b ≠ π) h' (zs ++ [Value.ref s₈.heap.objs.size]) (pd ++ [pieceOf (a, bz)]) :=
     (hI₉.keep (fun b o hb e _ => kS b o hb.2 e) fun _ h => h).snoc (.tuple hnew (kS _ _ hnew.2 (Heap.get?_push_size _ rfl)) rfl rfl (.cons (.int _ _) (.cons (.int _ _) (.cons (.bool _) (.cons (.bool _) (.cons (.bool _) .nil))))))
    have sk₁₀ : SK π s.heap h' := (sk₅.trans (SK.grow up)).trans fun b o hb e _ => kS b o hb e
    refine wpAny_execs_cons (wpAny_AugAssign_Name (R₁₀.V.ld (x := "k") (v := .int k u) (by rfl) hk₅ ?_))
    refine ev_Call (blt (v := .builtin "max") R₁₀.T.bs (cw_builtin (wpAny_Constant_int (R₁₀.V.rd (v := .int bz ub) (max_two_ints hA.h fun h₁₁ tk k₁₁ => ?_) hsz))))
    rw [show (if (bz : Int) > 1 then Value.int (bz : Int) ub else Value.int 1 _) = Value.int ((max 1 bz : Nat) : Int) (if (bz : Int) > 1 then ub else _) from by
     split
     ·congr 1; lia
     ·congr 1; lia]
    refine iadd_int ?_
    have R₁₁ := R₁₀.grow k₁₁
    refine R₁₁.V.sxl (x := "k") fun s₁₂ x₁₂ V₁₂ k₁₂ => ?_
    have R₁₂ := R₁₁.loc V₁₂ k₁₂
    have sk₁₂ : SK π h' s₁₂.heap := (SK.grow k₁₁).trans (R₁₁.locSK k₁₂)
    have hP₁₂ : s₁₂.heap.PlainList π (zs ++ [Value.ref s₈.heap.objs.size]).toArray := by
     obtain ⟨nn, e⟩ := hl
     have hLπ : π ≠ L := fun e' => by
      obtain ⟨ml, ⟨oL, es, ep, hoL, hdL, _⟩, _⟩ := R₁₀.V.ns
      have hoL : h'.get? L = some oL := hoL
      rw [← e', e] at hoL; cases hoL; cases hdL
     exact ⟨nn, k₁₂ _ _ hLπ (k₁₁ _ _ e)⟩
    have K₁₂ := fun v => K₅.set (x := "k") (v := v) (by decide)
    refine wpAny_execs_nil (hQ _ ⟨rfl, α₂, δ₂, _, ?_, ⟨R₁₂, (K₁₂ _).root.trans C.root, ⟨t, (K₁₂ _).text.trans htx⟩, ⟨_, by rw [show (((k + max 1 ((a, bz) : Int × Nat).2 : Nat)) : Int) = (k : Int) + ((max 1 bz : Nat) : Int) from by push_cast; rfl]; exact set_self⟩, (K₁₂ _).pieces.trans C.pieces, ⟨_, hP₁₂, hI₁₀.sk sk₁₂ fun _ h => h.2⟩, C.shut, C.ne, C.lo⟩, K₁₂ _, sk₁₀.trans sk₁₂⟩)
    exact x₈.go x₁₂
end
end
section
noncomputable def St0 : St := ⟨[([], [])], [], []⟩
theorem St0_has {p : Path} : has St0.below p = true ↔ p = [] := by
 rw [has_iff]
 constructor
 ·rintro ⟨b, h⟩
  rcases List.mem_singleton.mp h with e
  exact (Prod.mk.inj e).1
 ·rintro rfl
  exact ⟨[], List.mem_singleton.mpr rfl⟩
theorem St0_wf : WF St0 where
 nd := by simp [St0]
 root := St0_has.mpr rfl
 kids := fun p bs h => by
  rcases List.mem_singleton.mp h with e
  obtain ⟨rfl, rfl⟩ := Prod.mk.inj e
  exact ⟨List.nodup_nil, fun g hg => nomatch hg⟩
 up := fun p c h => by simpa using St0_has.mp h
 ends := fun p h => by simp [has, St0] at h
 endnd := List.nodup_nil
 shutk := fun p h => nomatch h
theorem St0_sz : Sz 0 St0 := fun p bs h => by
 rcases List.mem_singleton.mp h with e
 obtain ⟨rfl, rfl⟩ := Prod.mk.inj e
 exact Nat.le_refl _
theorem St0_dep : Dep St0 := fun q h => by rw [St0_has.mp h]; exact Nat.zero_le _
theorem St0_tree {w : World} {h : Heap} {a d : Nat} (B : Bs w h) (hT : Tab h) (ha : ∃ ep, h.get? a = some (nodeO #[] ep d)) (hd : openDict h d) (ha3 : 303 ≤ a) (hd3 : 303 ≤ d) : Tree w h St0 (fun _ => a) (fun _ => d) where
 bs := B
 tab := hT
 node := fun p bs hm => by
  rcases List.mem_singleton.mp hm with e
  obtain ⟨rfl, rfl⟩ := Prod.mk.inj e
  obtain ⟨ep, e⟩ := ha
  exact ⟨[], ⟨ha3, ⟨#[], ep, e, DK.nil w⟩⟩, .nil⟩
 door := fun p hp => by
  rw [if_neg (fun h => nomatch h)]
  exact hd
 inj := fun p q hp hq _ => (St0_has.mp hp).trans (St0_has.mp hq).symm
 injd := fun p q hp hq _ => (St0_has.mp hp).trans (St0_has.mp hq).symm
 lod := fun _ _ => hd3
theorem gone_shut {S : St} (hs : ∀ q, has S.below q = true → q ∈ S.shut) : ∀ (l p : Path), has S.below p = true → (gone S p l).1 = S
 | [], p, _ => rfl
 | c :: r, p, hp => by
  rw [gone_cons]
  split
  ·rename_i hc; exact gone_shut hs r _ hc
  ·rw [if_pos (hs p hp)]
theorem lng_congr {S S' : St} (hb : S'.below = S.below) (he : S'.ends = S.ends) : ∀ (t p : Path) (r : Int × Nat), lng S' p t r = lng S p t r
 | [], p, r => rfl
 | c :: t, p, r => by
  unfold lng
  rw [show kidsOf S' (p ++ [c]) = kidsOf S (p ++ [c]) from by unfold kidsOf; rw [hb], show endv S' (p ++ [c]) = endv S (p ++ [c]) from by unfold endv; rw [he], lng_congr hb he t]
theorem pcsR_congr {S S' : St} (hb : S'.below = S.below) (he : S'.ends = S.ends) : ∀ (f : Nat) (t : Path), pcsR S' f t = pcsR S f t
 | 0, t => rfl
 | f + 1, t => by
  unfold pcsR
  rw [lng_congr hb he, pcsR_congr hb he f]
theorem runR_wf : ∀ (ds : List Deed) {S : St} {told : List PyData}, WF S → WF (runR S told ds).1
 | [], _, _, W => W
 | d :: ds, _, _, W => runR_wf ds (turnR_wf W)
theorem runR_dep : ∀ (ds : List Deed) {S : St} {told : List PyData}, Dep S → (∀ d ∈ ds, d.ok) → Dep (runR S told ds).1
 | [], _, _, D, _ => D
 | d :: ds, _, _, D, ok => runR_dep ds (turnR_dep D (ok d List.mem_cons_self)) fun e he => ok e (List.mem_cons_of_mem _ he)
theorem runR_sz : ∀ (ds : List Deed) {S : St} {told : List PyData} {n : Nat}, Sz n S → (∀ d ∈ ds, d.ok) → Sz (n + 7 * ds.length) (runR S told ds).1
 | [], _, _, _, z, _ => z
 | d :: ds, _, _, n, z, ok => by
  rw [runR]
  exact (runR_sz ds (turnR_sz z (ok d List.mem_cons_self)) fun e he => ok e (List.mem_cons_of_mem _ he)).le (by rw [List.length_cons]; lia)
theorem runR_len : ∀ (ds : List Deed) {S : St} {told : List PyData}, (runR S told ds).2.length = told.length + ds.length
 | [], _, _ => rfl
 | d :: ds, _, told => by
  rw [runR, runR_len ds, List.length_append, List.length_cons, List.length_cons, List.length_nil]
  lia
section
variable {w : World} {A : Around} {E : Value → Shared → Prop} {s : Shared} {L : Nat} {hB h₀ : Heap} {S : St} {n : Nat} {α δ : Path → Nat} {root σ π : Nat} {told : List PyData} {m : Str → Option Value} {h h' : Heap} {env : Env}
theorem asg4 {x y z u : Str} {p1 p2 p3 p4 pos : Pos} {k : Nat} {t : Addr} {o : Obj} {a b c d : Value} {n : Nat} {Q : Unit → Shared → Prop} (hh : A.handled = none) (ho : s.heap.get? t = some o) (hc : o.cls = .type "tuple") (hd : o.data = .seq #[a, b, c, d] n)
  (h : ∀ s', Grow s s' → wpAny (Md w) A (storeName env x a) (fun _ s₁ => wpAny (Md w) A (storeName env y b) (fun _ s₂ => wpAny (Md w) A (storeName env z c) (fun _ s₃ => wpAny (Md w) A (storeName env u d) Q E s₃) E s₂) E s₁) E s') :
  wpAny (Md w) A (assign (.Tuple [.Name x p1, .Name y p2, .Name z p3, .Name u p4] k pos) env (.ref t)) Q E s := by
 refine wpAny_assign_Tuple (items := #[a, b, c, d]) hh ⟨o, ho, hc, n, hd⟩ rfl rfl fun h' he => ?_
 refine aio_cons (wpAny_assign_Name (wpAny_mono (h _ (.of fun b o e => he b o (Nat.ne_of_lt (Heap.lt_size e)) e)) (fun _ s₁ h₁ => ?_) fun _ _ e => e))
 refine aio_cons (wpAny_assign_Name (wpAny_mono h₁ (fun _ s₂ h₂ => ?_) fun _ _ e => e))
 refine aio_cons (wpAny_assign_Name (wpAny_mono h₂ (fun _ s₃ h₃ => ?_) fun _ _ e => e))
 exact aio_cons (wpAny_assign_Name (wpAny_mono h₃ (fun _ _ h' => aio_nil h') fun _ _ e => e))
theorem RunAt.iter {I : Nat} {o : Obj} {vs : Array Value} (R : RunAt w L hB {} S n α δ root σ π told h m) (h3 : 303 ≤ I) (ho : h.get? I = some o) (hd : o.data = .fields vs) (hno : ¬ Nd3 o) (hI : hB.get? I = none) (k : ∀ b o, b ≠ I → h.get? b = some o → h'.get? b = some o) : RunAt w L hB {} S n α δ root σ π told h' m := by
 have hLI : L ≠ I := fun e => by
  obtain ⟨ml, ⟨oL, es, ep, hoL, hdL, _⟩, _⟩ := R.V.ns
  have hoL : h.get? L = some oL := hoL
  rw [e, ho] at hoL; cases hoL; rw [hd] at hdL; cases hdL
 have sk : ∀ b o, h.get? b = some o → (∃ vs n, o.data = .seq vs n) → h'.get? b = some o := fun b o' e ⟨vs', nn, hd'⟩ => k b o' (by
  rintro rfl
  rw [ho] at e; cases e; rw [hd] at hd'; cases hd') e
 have Tn : Tree w h' S α δ := R.T.keep fun b o' e hn => k b o' (by
  rintro rfl
  rcases hn with hn | ⟨p, hp, hn | hn⟩ | hn
  ·lia
  ·exact (R.T.nondict ho (noD_fields hd) p hp).1 hn
  ·exact (R.T.nondict ho (noD_fields hd) p hp).2 hn
  ·rw [ho] at e; cases e; exact hno hn) e
 refine ⟨Tn, R.W, R.z, R.V.keep fun b o hb e => ?_, R.off, R.hL, R.rt, R.hσ, ?_, ?_, fun b o' e h1 => let ⟨f1, f2, f3⟩ := R.frm b o' e h1; ⟨k b o' (fun x => by rw [x, hI] at e; cases e) f1, f2, f3⟩, fun b o e => ?_⟩
 ·have := own_run hb
  subst this
  exact k _ o hLI e
 ·obtain ⟨ys, ⟨nn, hy⟩, hIs⟩ := R.st
  exact ⟨ys, ⟨nn, sk _ _ hy ⟨_, _, rfl⟩⟩, hIs.keep (fun b o _ e hd => sk b o e hd) fun _ h => h⟩
 ·obtain ⟨ps, nn, hp⟩ := R.pi
  exact ⟨ps, nn, sk _ _ hp ⟨_, _, rfl⟩⟩
 ·have : ({} : Heap).get? b = none := by unfold Heap.get?; simp
  rw [this] at e; cases e
end
end
section
section
variable {w : World} {A : Around} {E : Value → Shared → Prop} {s : Shared}
theorem ev_List0 {M : Model} {env : Env} {pos : Pos} {Q : Value → Shared → Prop} (h : Q (.ref s.heap.objs.size) { s with heap := s.heap.push { cls := .type "list", data := .seq #[] } }) : wpAny M A (eval (.List [] pos) env) Q E s := ev_List h
def SQ (h h' : Heap) : Prop := ∀ b o, h.get? b = some o → (∃ vs n, o.data = .seq vs n) → h'.get? b = some o
theorem SQ.trans {h h' h'' : Heap} (x : SQ h h') (y : SQ h' h'') : SQ h h'' := fun b o e hd => y b o (x b o e hd) hd
theorem SQ.grow {h h' : Heap} (k : ∀ b o, h.get? b = some o → h'.get? b = some o) : SQ h h' := fun b o e _ => k b o e
theorem SQ.sk {h h' : Heap} (x : SQ h h') (π : Nat) : SK π h h' := fun b o _ e hd => x b o e hd
theorem RunAt.locSQ {L : Nat} {hB h₀ h h' : Heap} {S : St} {n : Nat} {α δ : Path → Nat} {root σ π : Nat} {told : List PyData} {m : Str → Option Value} (R : RunAt w L hB h₀ S n α δ root σ π told h m) (k : ∀ b o, b ≠ L → h.get? b = some o → h'.get? b = some o) : SQ h h' := fun b o e ⟨vs, nn, hd⟩ => k b o (by
 rintro rfl
 obtain ⟨ml, ⟨oL, es, ep, hoL, hdL, _⟩, _⟩ := R.V.ns
 change h.get? b = some oL at hoL
 rw [e] at hoL; cases hoL
 rw [hd] at hdL; cases hdL) e
theorem RunAt.awaySQ {L : Nat} {hB h₀ h h' : Heap} {S : St} {n : Nat} {α δ : Path → Nat} {root σ π : Nat} {told : List PyData} {m : Str → Option Value} (R : RunAt w L hB h₀ S n α δ root σ π told h m) (kk : ∀ b o, h.get? b = some o → b ≠ 100 → Away S α δ b → h'.get? b = some o) : SQ h h' := fun b o e ⟨vs, nn, hd⟩ =>
 kk b o e (R.T.ne100 e fun vs' e' => by rw [hd] at e'; cases e') (R.T.nondict e (noD_seq hd))
theorem IsAll.sq {N : Addr → Prop} {h h' : Heap} {v : List Value} {d : List PyData} (x : IsAll N h v d) (k : SQ h h') : IsAll N h' v d := x.keep (fun b o _ e hd => k b o e hd) fun _ h => h
theorem Is.sq {N : Addr → Prop} {h h' : Heap} {v : Value} {d : PyData} (x : Is N h v d) (k : SQ h h') : Is N h' v d := x.keep (fun b o _ e hd => k b o e hd) fun _ h => h
structure Nm (root σ π : Nat) (text : Path) (m : Str → Option Value) : Prop where
 root : m "root" = some (.ref root)
 story : m "story" = some (.ref σ)
 pieces : m "pieces" = some (.ref π)
 text : ∃ t, m "text" = some (.str (toS text) t)
 k : ∃ u, m "k" = some (.int 0 u)
theorem Nm.kept {root σ π : Nat} {text : Path} {m m' : Str → Option Value} (x : Nm root σ π text m) (k : Kept m m') : Nm root σ π text m' := ⟨k.root.trans x.root, k.story.trans x.story, k.pieces.trans x.pieces, k.text ▸ x.text, k.k ▸ x.k⟩
theorem Is.itemsL {N : Nat → Prop} {h : Heap} {v : Value} {ds : List PyData} (x : Is N h v (.list ds)) : ∃ l o vs n, v = .ref l ∧ N l ∧ h.get? l = some o ∧ o.cls = .type "list" ∧ o.data = .seq vs n ∧ IsAll N h vs.toList ds := by
 cases x with
 | list hN ho hc hd hall => exact ⟨_, _, _, _, rfl, hN, ho, hc, hd, hall⟩
inductive DeedAt (N : Nat → Prop) (h : Heap) (d : Deed) (v : Value) : Prop
 | mk (t3 : Addr) (o3 : Obj) (n3 : Nat) (kd wd : Str) (md : PyData) (ta tb : Tok) (vc : Value) (e : v = .ref t3) (ho : h.get? t3 = some o3) (hc : o3.cls = .type "tuple") (hd : o3.data = .seq #[.str kd ta, .str wd tb, vc] n3) (hvc : Is N h vc md) (hdata : d.data = .tuple [.str kd, .str wd, md]) : DeedAt N h d v
theorem Deed.split (d : Deed) : ∃ kd wd md, d.data = .tuple [.str kd, .str wd, md] := by cases d <;> exact ⟨_, _, _, rfl⟩
theorem IsAll.deed {N : Nat → Prop} {h : Heap} {vs : Array Value} {ds : List Deed} {i : Nat} {v : Value} {d : Deed} (x : IsAll N h vs.toList (ds.map Deed.data)) (hv : vs[i]? = some v) (hd : ds[i]? = some d) : DeedAt N h d v := by
 obtain ⟨v', hv', hIs⟩ := x.at (i := i) (d := d.data) (by rw [List.getElem?_map, hd]; rfl)
 rw [Array.getElem?_toList, hv] at hv'
 cases hv'
 obtain ⟨kd, wd, md, hdata⟩ := Deed.split d
 rw [hdata] at hIs
 obtain ⟨t3, o3, n3, va, vb, vc, rfl, hN3, ho3, hc3, hd3, hva, hvb, hvc⟩ := hIs.pair3
 obtain ⟨ta, rfl⟩ := hva.asStr
 obtain ⟨tb, rfl⟩ := hvb.asStr
 exact ⟨t3, o3, n3, kd, wd, md, ta, tb, vc, rfl, ho3, hc3, hd3, hvc, hdata⟩
theorem Vars.sx3 {M : Model} {env : Env} {x y z : Str} {a b c : Value} {m : Str → Option Value} {Q : Unit → Shared → Prop} (V : Vars s.heap env m) (xy : x ≠ y) (xz : x ≠ z) (yz : y ≠ z)
  (h : ∀ s' m', Sx s s' → Vars s'.heap env m' → m' x = some a → m' y = some b → m' z = some c → (∀ q, q ≠ x → q ≠ y → q ≠ z → m' q = m q) → (∀ b o, ¬ OwnA env b → s.heap.get? b = some o → s'.heap.get? b = some o) → Q () s') (hx : varOk env x = true := by rfl) (hy : varOk env y = true := by rfl) (hz : varOk env z = true := by rfl) :
  wpAny M A (storeName env x a) (fun _ s₁ => wpAny M A (storeName env y b) (fun _ s₂ => wpAny M A (storeName env z c) Q E s₂) E s₁) E s :=
 V.sx (fun s₁ b₁ x₁ V₁ h₁ k₁ => V₁.sx (fun s₂ b₂ x₂ V₂ h₂ k₂ => V₂.sx (fun s₃ b₃ x₃ V₃ h₃ k₃ => h s₃ _ ((x₁.trans x₂).trans x₃) V₃ ((set_ne xz).trans ((set_ne xy).trans set_self)) ((set_ne yz).trans set_self) set_self (fun q q1 q2 q3 => (set_ne q3).trans ((set_ne q2).trans (set_ne q1)))
  fun b o hb e => k₃ b o (fun e' => hb (e' ▸ h₃)) (k₂ b o (fun e' => hb (e' ▸ h₂)) (k₁ b o (fun e' => hb (e' ▸ h₁)) e))) hz) hy) hx
theorem run_turn {L : Nat} {hB h₀ : Heap} {S : St} {n : Nat} {α δ : Path → Nat} {root σ π : Nat} {told : List PyData} {m : Str → Option Value} {N : Nat → Prop} {d : Deed} {kd wd : Str} {md : PyData} {ta tb : Tok} {vc : Value} (hA : Ok A 850 820) (R : RunAt w L hB h₀ S n α δ root σ π told s.heap m) (hσπ : σ ≠ π) (hlen : told.length ≤ 1000) (hn : n ≤ 1000) (ok : d.ok) (D : Dep S) (hr : m "root" = some (.ref root)) (hs : m "story" = some (.ref σ))
  (hd : d.data = .tuple [.str kd, .str wd, md]) (hvc : Is N s.heap vc md) (hk : m "kind" = some (.str kd ta)) (hw : m "word" = some (.str wd tb)) (hm : m "more" = some vc) :
  wpAny (Md w) A (execs runBody (eRun L)) (TurnEnd w L hB h₀ (turnR S d).1 (n + 7) root σ π (told ++ [(turnR S d).2]) m s) E s := by
 cases d with
 | P x k =>
  cases hd
  obtain ⟨tc, rfl⟩ := hvc.asInt
  exact run_turnP hA R hσπ hlen hn ok hr hs hk hw hm
 | L x k =>
  cases hd
  obtain ⟨tc, rfl⟩ := hvc.asInt
  exact run_turnL hA R hσπ hlen hn ok hr hs hk hw hm
 | F x k =>
  cases hd
  obtain ⟨tc, rfl⟩ := hvc.asInt
  exact run_turnF hA R hσπ hlen hn ok hr hs hk hw hm
 | T x c k =>
  cases hd
  obtain ⟨tc, rfl⟩ := hvc.asInt
  exact run_turnT hA R hσπ hlen hn ok D hr hs hk hw hm
 | G x y =>
  cases hd
  obtain ⟨tc, rfl⟩ := hvc.asStr
  exact run_turnG hA R hσπ hlen hn ok.1 ok.2.1 hr hs hk hw hm
inductive RI (w : World) (s₀ : Shared) (ds : List Deed) (text : Path) (L a σ : Nat) (vs : Array Value) (i : Nat) (s' : Shared) : Prop
 | mk (α δ : Path → Nat) (m : Str → Option Value) (x : Sx s₀ s') (R : RunAt w L s₀.heap {} (runR St0 [] (ds.take i)).1 (7 * i) α δ a σ (σ + 1) (runR St0 [] (ds.take i)).2 s'.heap m) (N : Nm a σ (σ + 1) text m) (P : s'.heap.PlainList (σ + 1) #[]) (al : IsAll (fun b => b ≠ σ ∧ b ≠ σ + 1) s'.heap vs.toList (ds.map Deed.data)) : RI w s₀ ds text L a σ vs i s'
abbrev ItAt (I dl : Nat) (vs : Array Value) (i : Nat) (h : Heap) : Prop := h.IsListIter I dl i ∧ h.IsList dl vs
theorem iter_obj {I dl i : Nat} {h : Heap} (x : h.IsListIter I dl i) : ∃ o, h.get? I = some o ∧ o.data = .fields #[.ref dl, .int i 0] ∧ ¬ Nd3 o := by
 obtain ⟨o, ho, hc, hd⟩ := x
 refine ⟨o, ho, hd, ?_⟩
 rintro (⟨_, h⟩ | ⟨_, h⟩ | ⟨_, h, _, _, h2⟩)
 ·rw [hd] at h; cases h
 ·rw [hd] at h; cases h
 ·rw [hd] at h; cases h; cases h2
section
variable {s₀ : Shared} {ds : List Deed} {text : Path} {L a σ : Nat} {vs : Array Value}
theorem RI.iter {i I dl : Nat} {h' : Heap} {tk : Tok} (J : RI w s₀ ds text L a σ vs i s) (hI3 : 303 ≤ I) (hIfr : s₀.heap.get? I = none) (hSt : ItAt I dl vs i s.heap) (hBut : But [I] s.heap h') : RI w s₀ ds text L a σ vs i { s with heap := h', toks := tk } := by
 obtain ⟨α, δ, m, hx, R, hNm, hP, hal⟩ := J
 obtain ⟨oI, hoI, hdI, hnI⟩ := iter_obj hSt.1
 have kB : ∀ b o, b ≠ I → s.heap.get? b = some o → h'.get? b = some o := fun b o hb e => hBut b o (by simpa using hb) e
 have sk : SQ s.heap h' := fun b o e ⟨vs', nn, hd'⟩ => kB b o (by
  rintro rfl
  rw [hoI] at e; cases e; rw [hdI] at hd'; cases hd') e
 exact ⟨α, δ, m, hx.trans .of, R.iter hI3 hoI hdI hnI hIfr kB, hNm, seqGet sk hP, hal.sq sk⟩
theorem RI.turn {i I dl : Nat} {S : St} {α δ : Path → Nat} {told : List PyData} {m : Str → Option Value} {s' : Shared} {d : Deed} (x : Sx s₀ s) (R : RunAt w L s₀.heap s.heap S (7 * i) α δ a σ (σ + 1) told s.heap m) (N : Nm a σ (σ + 1) text m) (P : s.heap.PlainList (σ + 1) #[]) (al : IsAll (fun b => b ≠ σ ∧ b ≠ σ + 1) s.heap vs.toList (ds.map Deed.data))
  (hI3 : 303 ≤ I) (hdσ : dl ≠ σ) (hSt : ItAt I dl vs (i + 1) s.heap) (hS : runR St0 [] (ds.take (i + 1)) = ((turnR S d).1, told ++ [(turnR S d).2])) (e : TurnEnd w L s₀.heap s.heap (turnR S d).1 (7 * i + 7) a σ (σ + 1) (told ++ [(turnR S d).2]) m s .next s') : RI w s₀ ds text L a σ vs (i + 1) s' ∧ ItAt I dl vs (i + 1) s'.heap := by
 obtain ⟨_, α₂, δ₂, m₂, x₁₂, R₁₂, K₁₂⟩ := e
 have old := R₁₂.old
 have sq₁₂ : SK σ s.heap s'.heap := fun b o hb e ⟨vs', nn, hd'⟩ => old b o e (noD_seq hd') hb (R.T.ne100 e fun vs'' e' => by rw [hd'] at e'; cases e')
 refine ⟨⟨α₂, δ₂, m₂, x.trans x₁₂, ?_, N.kept K₁₂, ?_, al.sk sq₁₂ fun b hb => hb.1⟩, ?_, ?_⟩
 ·rw [hS]; exact R₁₂.free
 ·obtain ⟨nn, e⟩ := P
  exact ⟨nn, sq₁₂ _ _ (Nat.succ_ne_self σ) e ⟨_, _, rfl⟩⟩
 ·obtain ⟨oI, hoI, hdI, hnI⟩ := iter_obj hSt.1
  refine hSt.1.at fun o e => old I o e (by rw [hoI] at e; cases e; exact noD_fields hdI) (fun e' => ?_) (Nat.ne_of_gt (Nat.lt_of_lt_of_le (by decide) hI3))
  obtain ⟨ys, ⟨_, hy⟩, _⟩ := R.st
  rw [← e', hoI] at hy; cases hy; cases hdI
 ·obtain ⟨ol', hol', hcl', nl', hdl'⟩ := hSt.2
  exact ⟨ol', sq₁₂ _ _ hdσ hol' ⟨_, _, hdl'⟩, hcl', nl', hdl'⟩
theorem run_step {i I dl : Nat} {v : Value} {G : Flow → Shared → Prop} {tg : Expr} {p1 p2 p3 p4 : Pos} {k : Nat} (tge : tg = .Tuple [.Name "kind" p1, .Name "word" p2, .Name "more" p3] k p4) (hA : Ok A 850 820) (hvs : vs.size = ds.length) (ok : ∀ d ∈ ds, d.ok) (hlen : ds.length ≤ 100) (hI3 : 303 ≤ I) (hdσ : dl ≠ σ) (hi : i < vs.size) (hvi : vs[i]? = some v) (J : RI w s₀ ds text L a σ vs i s) (hSt : ItAt I dl vs (i + 1) s.heap)
  (g : ∀ s', RI w s₀ ds text L a σ vs (i + 1) s' → ItAt I dl vs (i + 1) s'.heap → G .next s') :
  wpAny (Md w) A (letOwnedTupleGo tg (.ref I) v) (fun _ s₁ => wpAny (Md w) A (assign tg (eRun L) v) (fun _ s₂ => wpAny (Md w) A (execs runBody (eRun L)) G E s₂) E s₁) E s := by
 subst tge
 rw [hvs] at hi
 obtain ⟨α, δ, m, hx, R, hNm, hP, hal⟩ := J
 have hdd : ds[i]? = some ds[i] := List.getElem?_eq_getElem hi
 have oki := ok _ (List.mem_of_getElem? hdd)
 have hS : runR St0 [] (ds.take (i + 1)) = ((turnR (runR St0 [] (ds.take i)).1 ds[i]).1, (runR St0 [] (ds.take i)).2 ++ [(turnR (runR St0 [] (ds.take i)).1 ds[i]).2]) := by rw [List.take_add_one, hdd]; exact runR_snoc ..
 have Di : Dep (runR St0 [] (ds.take i)).1 := runR_dep _ St0_dep fun e he => ok e (List.mem_of_mem_take he)
 have htold : (runR St0 [] (ds.take i)).2.length ≤ 1000 := by
  rw [runR_len, List.length_take]
  simp only [List.length_nil]
  lia
 have hn : 7 * i ≤ 1000 := by lia
 obtain ⟨t3, o3, n3, kd, wd, md, ta, tb, vc, rfl, ho3, hc3, hd3, hvc, hdata⟩ := hal.deed hvi hdd
 generalize ds[i] = d at *
 generalize (runR St0 [] (ds.take i)).1 = S at *
 generalize (runR St0 [] (ds.take i)).2 = told at *
 clear hdd hvi hlen ok
 refine wpAny_letOwnedTupleGo_listiter hSt.1 (asg3 hA.h ho3 hc3 hd3 fun s₁ g₁ => ?_)
 have R₁ := R.grow g₁.keep
 refine R₁.V.sx3 (by decide) (by decide) (by decide) fun s₂ m₂ x₂ V₂ mk mw mm hm k₂ => ?_
 have kL : ∀ b o, b ≠ L → s₁.heap.get? b = some o → s₂.heap.get? b = some o := fun b o hb e => k₂ b o (fun h => hb (own_run h)) e
 have hst : m₂ "story" = m "story" := hm _ (by decide) (by decide) (by decide)
 have hN₂ : Nm a σ (σ + 1) text m₂ := hNm.kept ⟨hm _ (by decide) (by decide) (by decide), hst, hm _ (by decide) (by decide) (by decide), hm _ (by decide) (by decide) (by decide), hm _ (by decide) (by decide) (by decide)⟩
 have R₂ := (R₁.loc V₂ kL).here
 have sq : SQ s.heap s₂.heap := (SQ.grow g₁.keep).trans (R₁.locSQ kL)
 have hSt₂ : ItAt I dl vs (i + 1) s₂.heap := by
  refine ⟨?_, ?_⟩
  ·obtain ⟨oI, hoI, hdI, hnI⟩ := iter_obj hSt.1
   have hLI : I ≠ L := fun e => by
    obtain ⟨ml, ⟨oL, es, ep, hoL, hdL, _⟩, _⟩ := R.V.ns
    change s.heap.get? L = some oL at hoL
    rw [← e, hoI] at hoL; cases hoL; rw [hdI] at hdL; cases hdL
   exact hSt.1.at fun o e => kL _ _ hLI (g₁.keep _ _ e)
  ·obtain ⟨ol, hol, hcl, nl, hdl⟩ := hSt.2
   exact ⟨ol, sq _ _ hol ⟨_, _, hdl⟩, hcl, nl, hdl⟩
 have x₂' := (hx.go g₁.sx).go x₂
 have hP₂ := seqGet sq hP
 have hal₂ := hal.sq sq
 refine wpAny_mono (run_turn hA R₂ (Nat.ne_of_lt (Nat.lt_succ_self _)) htold hn oki Di hN₂.root hN₂.story hdata (hvc.sq sq) mk mw mm) (fun f s₃ hf => ?_) fun _ _ e => e
 obtain rfl : f = .next := hf.1
 obtain ⟨J₃, I₃⟩ := RI.turn x₂' R₂ hN₂ hP₂ hal₂ hI3 hdσ hSt₂ hS hf
 exact g s₃ J₃ I₃
inductive RW (w : World) (s₀ : Shared) (S S₃ : St) (text : Path) (L a σ : Nat) (vT : Value) (story : List PyData) (nn : Nat) (s' : Shared) : Prop
 | mk (k f : Nat) (pd : List PyData) (α δ : Path → Nat) (m : Str → Option Value) (e : nn = text.length - k) (x : Sx s₀ s') (C : Cut w L s₀.heap S₃ 1000 α δ a σ (σ + 1) story pd text k s'.heap m) (st : m "story" = some (.ref σ)) (tr : m "tree" = some vT) (hI : Is (fun b => b ≠ σ ∧ b ≠ σ + 1) s'.heap vT (.list (drawn S 8 [])))
  (hl : pd.length ≤ k) (hf : (text.drop k).length ≤ f) (hp : pd ++ pcsR S f (text.drop k) = pcsR S text.length text) : RW w s₀ S S₃ text L a σ vT story nn s'
theorem RW.next {S S₃ : St} {vT : Value} {story pd : List PyData} {k f : Nat} {α δ : Path → Nat} {m m' : Str → Option Value} {s' s'' : Shared} (hk : k < text.length) (x : Sx s₀ s'') (K : Kept2 m m') (sk : SK (σ + 1) s'.heap s''.heap) (hb : S₃.below = S.below) (he : S₃.ends = S.ends)
  (C : Cut w L s₀.heap S₃ 1000 α δ a σ (σ + 1) story (pd ++ [pieceOf (lng S₃ [] ((text.drop k).take 6) (0, 0))]) text (k + max 1 (lng S₃ [] ((text.drop k).take 6) (0, 0)).2) s''.heap m') (st : m "story" = some (.ref σ)) (tr : m "tree" = some vT) (hI : Is (fun b => b ≠ σ ∧ b ≠ σ + 1) s'.heap vT (.list (drawn S 8 [])))
  (hl : pd.length ≤ k) (hf : (text.drop k).length ≤ f) (hp : pd ++ pcsR S f (text.drop k) = pcsR S text.length text) : ∃ j, j < text.length - k ∧ RW w s₀ S S₃ text L a σ vT story j s'' := by
 rw [lng_congr hb he] at C
 have hk1 : 1 ≤ max 1 (lng S [] ((text.drop k).take 6) (0, 0)).2 := Nat.le_max_left ..
 have hne : text.drop k ≠ [] := by
  intro e
  have := congrArg List.length e
  simp at this
  lia
 have hf0 : (text.drop k).length ≠ 0 := fun e => hne (List.length_eq_zero_iff.mp e)
 obtain ⟨f, rfl⟩ : ∃ g, f = g + 1 := ⟨f - 1, by lia⟩
 refine ⟨text.length - (k + max 1 (lng S [] ((text.drop k).take 6) (0, 0)).2), by lia, _, f, _, α, δ, m', rfl, x, C, K.story.trans st, K.tree.trans tr, hI.sk sk fun b hb => hb.2, ?_, ?_, ?_⟩
 ·rw [List.length_append]; simp only [List.length_cons, List.length_nil]; lia
 ·rw [← List.drop_drop, List.length_drop]; lia
 ·rw [← hp, List.append_assoc]
  congr 1
  conv => rhs; rw [pcsR, if_neg hne]
  rw [List.drop_drop]
  rfl
noncomputable def runEnd : List Stmt := (fnBody 68).drop 5
theorem run_end {k : Nat} {S S₃ : St} {vT : Value} {story pd : List PyData} {α δ : Path → Nat} {m : Str → Option Value} {Q : Flow → Shared → Prop} (hA : Ok A 850 820) (x : Sx s₀ s) (C : Cut w L s₀.heap S₃ 1000 α δ a σ (σ + 1) story pd text k s.heap m) (D : Dep S₃) (hdr : drawn S₃ 8 [] = drawn S 8 []) (st : m "story" = some (.ref σ)) (tr : m "tree" = some vT) (hI : Is (fun b => b ≠ σ ∧ b ≠ σ + 1) s.heap vT (.list (drawn S 8 [])))
  (h : ∀ v s', Sx s₀ s' → (∀ b o, s₀.heap.get? b = some o → b ≠ 100 → s'.heap.get? b = some o) → Bs w s'.heap → Tab s'.heap → Is (fun _ => True) s'.heap v (.tuple [.list story, .list (drawn S 8 []), .list pd, .list (drawn S 8 [])]) → Q (.ret v) s') : wpAny (Md w) A (execs runEnd (eRun L)) Q E s := by
 obtain ⟨zs, ⟨n2, e2⟩, hIz⟩ := C.p
 obtain ⟨ys, ⟨n1, e1⟩, hIy⟩ := C.R.st
 refine wpAny_execs_cons (wpAny_Return_some (ev_Tuple ?_))
 refine C.R.V.rd (v := .ref σ) (C.R.V.rd (v := vT) (C.R.V.rd (v := .ref (σ + 1)) (ev_Call (glob (v := .ref 256) C.R.T.bs (cw_callable (C.R.V.rd (v := .ref a) ⟨fnCallable C.R.T.bs (o256p6 w.params) _, ?_⟩ C.root)))) C.pieces) tr) st
 rw [show ([] ++ [Value.ref a] : List Value) = [.ref (α [])] from by rw [C.R.rt]; rfl]
 refine call_listed 8 (by decide) (hA.le (by decide) (by decide)) C.R.T C.R.W.l (C.R.z.le (by rw [sizeLine_eq]; decide)) C.R.W.root (fun q hq _ => by have := D q hq; simp; lia) fun vL s₆ g₆ hIL => ?_
 have up : ∀ b o, s.heap.get? b = some o → (s₆.heap.push (tupO [.ref σ, vT, .ref (σ + 1), vL])).get? b = some o := fun b o e => Heap.get?_push_of_some _ (g₆.keep b o e)
 have R₇ := C.R.grow up
 show Q _ _
 refine h (.ref s₆.heap.objs.size) _ ((x.go g₆.sx).go .of) (fun b o e h1 => (R₇.frm b o e h1).1) R₇.T.bs R₇.T.tab (.tuple trivial (Heap.get?_push_size _ rfl) rfl rfl ?_)
 rw [hdr] at hIL
 exact .cons (.list trivial (up _ _ e1) rfl rfl (hIy.keep (.grow up) fun _ _ => trivial)) (.cons (hI.keep (.grow up) fun _ _ => trivial) (.cons (.list trivial (up _ _ e2) rfl rfl (hIz.keep (.grow up) fun _ _ => trivial)) (.cons (hIL.keep (.grow fun b o e => Heap.get?_push_of_some _ e) fun _ _ => trivial) .nil)))
noncomputable def runWhile : List Stmt := (fnBody 68).drop 4
theorem run_while {S S₃ : St} {vT : Value} {story : List PyData} {α δ : Path → Nat} {m : Str → Option Value} {Q : Flow → Shared → Prop} (hA : Ok A 850 820) (htl : text.length ≤ 1000) (x : Sx s₀ s) (C : Cut w L s₀.heap S₃ 1000 α δ a σ (σ + 1) story [] text 0 s.heap m) (D : Dep S₃) (hb : S₃.below = S.below) (he : S₃.ends = S.ends) (st : m "story" = some (.ref σ)) (tr : m "tree" = some vT) (hI : Is (fun b => b ≠ σ ∧ b ≠ σ + 1) s.heap vT (.list (drawn S 8 [])))
  (h : ∀ v s', Sx s₀ s' → (∀ b o, s₀.heap.get? b = some o → b ≠ 100 → s'.heap.get? b = some o) → Bs w s'.heap → Tab s'.heap → Is (fun _ => True) s'.heap v (.tuple [.list story, .list (drawn S 8 []), .list (pcsR S text.length text), .list (drawn S 8 [])]) → Q (.ret v) s') : wpAny (Md w) A (execs runWhile (eRun L)) Q E s := by
 have hdr : drawn S₃ 8 [] = drawn S 8 [] := drawn_congr 8 [] fun q _ => ⟨by rw [hb], by rw [he]⟩
 refine wpAny_execs_cons (wpAny_While (codeAny_whileLoop (RW w s₀ S S₃ text L a σ vT story) ?_ text.length ⟨0, text.length, [], α, δ, m, rfl, x, C, st, tr, hI, Nat.le_refl _, by simp, by simp⟩))
 rintro nn s₄ ⟨k, f, pd, α₄, δ₄, m₄, rfl, x₄, C₄, hst, htr, hI₄, hpl, hf, hpd⟩
 obtain ⟨tt, htx⟩ := C₄.text
 obtain ⟨u, hku⟩ := C₄.k
 refine wpAny_isTrue_Compare1 (C₄.R.V.rd (v := .int k u) (ev_Call (blt (v := .builtin "len") C₄.R.T.bs (cw_builtin (C₄.R.V.rd (v := .str (toS text) tt) (len_str (by rw [toS_len]; lia) (lt_int (wpAny_truthy_bool ?_))) htx)))) hku)
 rw [toS_len]
 by_cases hk : k < text.length
 ·rw [if_pos (by simpa using hk)]
  refine wpAny_mono (run_piece (s := { s₄ with toks := s₄.toks + 1 + 1 }) hA C₄ C₄.R.z (Nat.le_refl _) hk htl (by lia)) (fun fl s₅ hfl => ?_) fun _ _ e => e
  obtain ⟨rfl, α₅, δ₅, m₅, x₅, C₅, K₅, sk₅⟩ := hfl
  exact RW.next hk (x₄.go x₅) K₅ sk₅ hb he C₅ hst htr hI₄ hpl hf hpd
 ·rw [if_neg (by simpa using hk)]
  have hkl : text.drop k = [] := List.drop_of_length_le (Nat.le_of_not_lt hk)
  have hpd' : pd = pcsR S text.length text := by
   rw [← hpd, hkl]
   cases f <;> simp [pcsR]
  refine wpAny_execs_nil (run_end (S := S) hA (x₄.trans .of) C₄ D hdr hst htr hI₄ ?_)
  rw [hpd']
  exact h
noncomputable def runRest : List Stmt := (fnBody 68).drop 2
theorem run_rest {Q : Flow → Shared → Prop} (hA : Ok A 850 820) (hvs : vs.size = ds.length) (ok : ∀ d ∈ ds, d.ok) (hlen : ds.length ≤ 100) (htl : text.length ≤ 1000) (J : RI w s₀ ds text L a σ vs vs.size s)
  (h : ∀ v s', Sx s₀ s' → (∀ b o, s₀.heap.get? b = some o → b ≠ 100 → s'.heap.get? b = some o) → Bs w s'.heap → Tab s'.heap →
   Is (fun _ => True) s'.heap v (.tuple [.list (runR St0 [] ds).2, .list (drawn (runR St0 [] ds).1 8 []), .list (pcsR (runR St0 [] ds).1 text.length text), .list (drawn (runR St0 [] ds).1 8 [])]) → Q (.ret v) s') : wpAny (Md w) A (execs runRest (eRun L)) Q E s := by
 obtain ⟨α, δ, m, hx, R, hNm, hP, _⟩ := J
 rw [hvs, List.take_of_length_le (Nat.le_refl _)] at R
 have D : Dep (runR St0 [] ds).1 := runR_dep _ St0_dep ok
 generalize (runR St0 [] ds).1 = S at R D h
 generalize (runR St0 [] ds).2 = story at R h
 have hz : Sz 1000 S := R.z.le (by lia)
 have hrt : ([] ++ [Value.ref a] : List Value) = [.ref (α [])] := by rw [R.rt]; rfl
 refine wpAny_execs_cons (wpAny_Assign_Name (ev_Call (glob (v := .ref 256) R.T.bs (cw_callable (R.V.rd (v := .ref a) ⟨fnCallable R.T.bs (o256p6 w.params) _, ?_⟩ hNm.root)))))
 rw [hrt]
 refine call_listed 8 (by decide) (hA.le (by decide) (by decide)) R.T R.W.l (hz.le (by rw [sizeLine_eq]; decide)) R.W.root (fun q hq _ => by have := D q hq; simp; lia) fun vT s₁ g₁ hIT => ?_
 have R₁ := R.grow g₁.keep
 have hσ' : σ < s.heap.objs.size := let ⟨_, ⟨_, hy⟩, _⟩ := R.st; Heap.lt_size hy
 have hπ' : σ + 1 < s.heap.objs.size := let ⟨_, hp⟩ := hP; Heap.lt_size hp
 have hIT₁ : Is (fun b => b ≠ σ ∧ b ≠ σ + 1) s₁.heap vT (.list (drawn S 8 [])) := hIT.within fun b _ hb _ => ⟨Nat.ne_of_gt (Nat.lt_of_lt_of_le hσ' hb), Nat.ne_of_gt (Nat.lt_of_lt_of_le hπ' hb)⟩
 refine R₁.V.sxl (x := "tree") fun s₂ x₂ V₂ k₂ => ?_
 have R₂ := R₁.loc V₂ k₂
 have hIT₂ := hIT₁.sq (R₁.locSQ k₂)
 have hP₂ := seqGet ((SQ.grow g₁.keep).trans (R₁.locSQ k₂)) hP
 have hNm₂ : Nm a σ (σ + 1) text (set m "tree" vT) := hNm.kept ((Kept.refl m).set (by decide))
 have hmT : set m "tree" vT "tree" = some vT := set_self
 have x₂' : Sx s₀ s₂ := (hx.go g₁.sx).go x₂
 generalize set m "tree" vT = m₂ at R₂ hNm₂ hmT
 clear hIT₁ hIT hσ' hπ' V₂ k₂ R₁ R g₁ hNm hP hx x₂
 refine wpAny_execs_cons (wpAny_Expr (ev_Call (glob (v := .ref 251) R₂.T.bs (cw_callable (R₂.V.rd (v := .ref a) ⟨fnCallable R₂.T.bs (o251p6 w.params) _, ?_⟩ hNm₂.root)))))
 rw [hrt]
 refine call_shut 8 (by decide) (hA.le (by decide) (by decide)) R₂.T R₂.W R₂.W.root (fun q hq _ => by have := D q hq; simp; lia) fun h₃ tk₃ S₃ C hshut => ?_
 have kk₃ : ∀ b o, s₂.heap.get? b = some o → b ≠ 100 → Away S α δ b → h₃.get? b = some o := fun b o e h1 aw => C.k b o h1 (fun q hq => (aw q hq).2) e
 have R₃ : RunAt w L s₀.heap {} S₃ 1000 α δ a σ (σ + 1) story h₃ m₂ := R₂.step C.T C.W (fun p bs hm => hz p bs (C.b ▸ hm)) R₂.rt fun b o e h1 aw => ⟨kk₃ b o e h1 aw, fun q hq => aw q (C.b ▸ hq)⟩
 have sq₃ : SQ s₂.heap h₃ := R₂.awaySQ kk₃
 have hg : ∀ x, (gone S₃ [] x).1 = S₃ := fun x => gone_shut (fun q hq => hshut q (C.b ▸ hq) ⟨q, rfl⟩) x [] C.W.root
 exact run_while (s := { s₂ with heap := h₃, toks := tk₃ }) hA htl (x₂'.go .of) ⟨R₃, hNm₂.root, hNm₂.text, hNm₂.k, hNm₂.pieces, ⟨[], seqGet sq₃ hP₂, .nil⟩, hg, Nat.ne_of_lt (Nat.lt_succ_self _), Nat.le_succ_of_le R₃.hσ⟩ (fun q hq => D q (C.b ▸ hq)) C.b C.e hNm₂.story hmT (hIT₂.sq sq₃) h
end
noncomputable def runFor : List Stmt := (fnBody 68).drop 1
theorem run_start {text : Path} {dl : Nat} {t : Tok} {Q : Flow → Shared → Prop} {s₁ : Shared} {m₁ : Str → Option Value} (hA : Ok A 850 820) (B : Bs w s.heap) (hT : Tab s.heap) (x₁ : Sx s s₁) (hk : ∀ b o, s.heap.get? b = some o → s₁.heap.get? b = some o) (V : Vars s₁.heap (eRun s.heap.objs.size) m₁) (hd : m₁ "deeds" = some (.ref dl)) (ht : m₁ "text" = some (.str (toS text) t))
  (h : ∀ s₇ m₇ a d σ, Sx s s₇ → RunAt w s.heap.objs.size s.heap {} St0 0 (fun _ => a) (fun _ => d) a σ (σ + 1) [] s₇.heap m₇ → Nm a σ (σ + 1) text m₇ → s₇.heap.PlainList (σ + 1) #[] → m₇ "deeds" = some (.ref dl) → (∀ b o, s.heap.get? b = some o → s₇.heap.get? b = some o ∧ b ≠ σ ∧ b ≠ σ + 1) → wpAny (Md w) A (execs runFor (eRun s.heap.objs.size)) Q E s₇) :
  wpAny (Md w) A (execs (fnBody 68) (eRun s.heap.objs.size)) Q E s₁ := by
 have hL3 : 303 ≤ s.heap.objs.size := B.n
 have hLh : s.heap.get? s.heap.objs.size = none := by
  cases e : s.heap.get? s.heap.objs.size with
  | none => rfl
  | some o => exact absurd (Heap.lt_size e) (Nat.lt_irrefl _)
 have ne_s : ∀ b o, s.heap.get? b = some o → b ≠ s.heap.objs.size := fun b o e => Nat.ne_of_lt (Heap.lt_size e)
 obtain ⟨oL, hoL⟩ := V.own (.inl rfl)
 have hoL : s₁.heap.get? s.heap.objs.size = some oL := hoL
 have B₁ := B.grow hk
 generalize s.heap.objs.size = L at *
 refine wpAny_execs_cons (Assign_Tuple (ev_Tuple (ev_Call (glob (v := .ref 237) B₁ (cw_callable ⟨fnCallable B₁ (o237p6 w.params) _, wpAny_mono (law_node B₁ (hA.le (by decide) (by decide))) (fun v s₂ hv => ?_) fun _ _ e => e⟩)))))
 obtain ⟨a, d, rfl, g₂, fa, fd, ha, hod⟩ := hv
 have k₂ : ∀ b o, s₁.heap.get? b = some o → s₂.heap.get? b = some o := g₂.keep
 have x₂ : Sx s s₂ := x₁.trans g₂.sx
 have a3 : 303 ≤ a := B₁.new fa
 have d3 : 303 ≤ d := B₁.new fd
 have lt₂ : ∀ b o, s₁.heap.get? b = some o → b < s₂.heap.objs.size := fun b o e => Heap.lt_size (k₂ b o e)
 have aL : a ≠ L ∧ d ≠ L := ⟨fun e => (by rw [e, hoL] at fa; cases fa), fun e => (by rw [e, hoL] at fd; cases fd)⟩
 have hLσ : L < s₂.heap.objs.size := lt₂ _ _ hoL
 refine ev_List0 (ev_List0 (wpAny_Constant_int ?_))
 refine asg4 hA.h (Heap.get?_push_size _ rfl) rfl rfl fun s₃ g₃ => ?_
 have e1 : ∀ o : Obj, (s₂.heap.push o).objs.size = s₂.heap.objs.size + 1 := fun o => Heap.size_push ..
 have hσ₃ : s₃.heap.get? s₂.heap.objs.size = some { cls := .type "list", data := .seq #[] } := g₃.keep _ _ (Heap.get?_push_of_some _ (Heap.get?_push_of_some _ (Heap.get?_push_size _ rfl)))
 have hπ₃ : s₃.heap.get? (s₂.heap.objs.size + 1) = some { cls := .type "list", data := .seq #[] } := by
  refine g₃.keep _ _ (Heap.get?_push_of_some _ ?_)
  rw [← e1 { cls := .type "list", data := .seq #[] }]
  exact Heap.get?_push_size _ rfl
 have k₃ : ∀ b o, s₂.heap.get? b = some o → s₃.heap.get? b = some o := fun b o e => g₃.keep _ _ (Heap.get?_push_of_some _ (Heap.get?_push_of_some _ (Heap.get?_push_of_some _ e)))
 have x₃ : Sx s s₃ := x₂.go g₃.sx
 have eπ : ({ s₂ with heap := s₂.heap.push { cls := .type "list", data := .seq #[] } } : Shared).heap.objs.size = s₂.heap.objs.size + 1 := e1 _
 rw [eπ]
 clear g₃ g₂ eπ e1 x₂
 have k₁₃ : ∀ b o, s₁.heap.get? b = some o → s₃.heap.get? b = some o := fun b o e => k₃ b o (k₂ b o e)
 have ha₃ : ∃ ep, s₃.heap.get? a = some (nodeO #[] ep d) := let ⟨ep, e⟩ := ha; ⟨ep, k₃ _ _ e⟩
 have hd₃ : openDict s₃.heap d := let ⟨ep, e⟩ := hod; ⟨ep, k₃ _ _ e⟩
 show wpAny _ _ (storeName _ "root" _) _ _ s₃
 generalize s₂.heap.objs.size = σ at *
 clear k₃ k₂ ha hod
 have hσL : σ ≠ L := Nat.ne_of_gt hLσ
 have hπL : σ + 1 ≠ L := Nat.ne_of_gt (Nat.lt_succ_of_lt hLσ)
 refine (V.grow k₁₃).sxl (x := "root") fun s₄ x₄ V₄ k₄ => V₄.sx3 (by decide) (by decide) (by decide) fun s₇ m₇ x₇ V₇ mσ mπ mk hm k₇ => ?_
 have mr : m₇ "root" = some (.ref a) := (hm _ (by decide) (by decide) (by decide)).trans set_self
 have md : m₇ "deeds" = some (.ref dl) := (hm _ (by decide) (by decide) (by decide)).trans ((set_ne (by decide)).trans hd)
 have mt : m₇ "text" = some (.str (toS text) t) := (hm _ (by decide) (by decide) (by decide)).trans ((set_ne (by decide)).trans ht)
 have kL : ∀ b o, b ≠ L → s₃.heap.get? b = some o → s₇.heap.get? b = some o := fun b o hb e => k₇ b o (fun h => hb (own_run h)) (k₄ b o hb e)
 have kS : ∀ b o, s.heap.get? b = some o → s₇.heap.get? b = some o := fun b o e => kL b o (ne_s b o e) (k₁₃ b o (hk b o e))
 have hP₇ : s₇.heap.PlainList (σ + 1) #[] := ⟨0, kL _ _ hπL hπ₃⟩
 have T₇ : Tree w s₇.heap St0 (fun _ => a) (fun _ => d) := St0_tree (B.grow kS) (hT.need (fun b o e _ => kS b o e) fun o e => kS _ _ e) (let ⟨ep, e⟩ := ha₃; ⟨ep, kL _ _ aL.1 e⟩) (let ⟨ep, e⟩ := hd₃; ⟨ep, kL _ _ aL.2 e⟩) a3 d3
 refine h s₇ m₇ a d σ ((x₃.go x₄).go x₇) ⟨T₇, St0_wf, St0_sz, V₇, fun p hp => ⟨Ne.symm aL.1, Ne.symm aL.2⟩, hL3, rfl, Nat.le_trans hL3 (Nat.le_of_lt hLσ), ⟨[], ⟨0, kL _ _ hσL hσ₃⟩, .nil⟩, ⟨#[], hP₇⟩, fun b o e _ => ⟨kS b o e, fun p hp => ⟨fun x => ?_, fun x => ?_⟩, ne_s b o e, Nat.ne_of_lt (lt₂ b o (hk b o e)), Nat.ne_of_lt (Nat.lt_succ_of_lt (lt₂ b o (hk b o e)))⟩, fun b o e => ?_⟩ ⟨mr, mσ, mπ, ⟨t, mt⟩, ⟨_, mk⟩⟩ hP₇ md fun b o e => ⟨kS b o e, Nat.ne_of_lt (lt₂ b o (hk b o e)), Nat.ne_of_lt (Nat.lt_succ_of_lt (lt₂ b o (hk b o e)))⟩
 ·have x : b = a := x
  rw [← x, hk b o e] at fa; cases fa
 ·have x : b = d := x
  rw [← x, hk b o e] at fd; cases fd
 ·have : ({} : Heap).get? b = none := by unfold Heap.get?; simp
  rw [this] at e; cases e
theorem call_run {ds : List Deed} {text : Path} {dl : Nat} {t : Tok} {Q : Value → Shared → Prop} (hA : Ok A 840 800) (B : Bs w s.heap) (hT : Tab s.heap) (ok : ∀ d ∈ ds, d.ok) (hlen : ds.length ≤ 100) (htl : text.length ≤ 1000)
  (hd : Is (fun _ => True) s.heap (.ref dl) (.list (ds.map Deed.data)))
  (h : ∀ v s', Sx s s' → (∀ b o, s.heap.get? b = some o → b ≠ 100 → s'.heap.get? b = some o) → Bs w s'.heap → Tab s'.heap →
   Is (fun _ => True) s'.heap v (.tuple [.list (runR St0 [] ds).2, .list (drawn (runR St0 [] ds).1 8 []), .list (pcsR (runR St0 [] ds).1 text.length text), .list (drawn (runR St0 [] ds).1 8 [])]) → Q v s') :
  wpAny (Md w) A (call (.ref 270) [.ref dl, .str (toS text) t]) Q E s := by
 refine enter (fd := fdL 68 "_law_run" 269) (o := o270p6 w.params) (binds := [("deeds", .ref dl), ("text", .str (toS text) t)]) B hA (by lia) fun h₁ tk E' V hk hown => ?_
 have hA' : Ok (A.deeper (eRun s.heap.objs.size)) 850 820 := (hA.deeper (eRun s.heap.objs.size)).le (by decide) (by decide)
 rw [show callEnvC (fdL 68 "_law_run" 269) s.heap.objs.size 270 = eRun s.heap.objs.size from rfl] at V ⊢
 generalize A.deeper (eRun s.heap.objs.size) = A' at hA' ⊢
 refine run_start (s := s) (s₁ := { s with heap := h₁, toks := tk }) hA' B hT ⟨rfl, rfl, rfl⟩ hk V (by rfl) (by rfl) fun s₇ m₇ a d σ x₇ R₇ N₇ hP₇ hdl₇ kS => ?_
 have hL3 := R₇.hL
 refine wpAny_execs_cons (wpAny_For (R₇.V.rd (v := .ref dl) ?_ hdl₇))
 have hd₇ : Is (fun b => b ≠ σ ∧ b ≠ σ + 1) s₇.heap (.ref dl) (.list (ds.map Deed.data)) := (hd.within fun b o _ e => (kS b o e).2).keep (.grow fun b o e => (kS b o e).1) fun _ h => h
 obtain ⟨l, ol, vs, nl, e, hNl, hol, hcl, hdl, hall⟩ := hd₇.itemsL
 cases e
 refine wpAny_pyIter_list ⟨ol, hol, hcl, nl, hdl⟩ ?_
 have hIne : dl ≠ s₇.heap.objs.size := Nat.ne_of_lt (Heap.lt_size hol)
 have hvs : vs.size = ds.length := by
  have := hall.len
  simpa using this
 have kI : ∀ b o, s₇.heap.get? b = some o → (s₇.heap.push { cls := .type "list_iterator", data := .fields #[.ref dl, .int 0 0] }).get? b = some o := fun b o e => Heap.get?_push_of_some _ e
 have hI3 : 303 ≤ s₇.heap.objs.size := R₇.T.bs.n
 have hIfr : s.heap.get? s₇.heap.objs.size = none := by
  cases e : s.heap.get? s₇.heap.objs.size with
  | none => rfl
  | some o => exact absurd (Heap.lt_size (kS _ o e).1) (Nat.lt_irrefl _)
 have hI0 : (s₇.heap.push { cls := .type "list_iterator", data := .fields #[.ref dl, .int 0 0] }).get? s₇.heap.objs.size = some { cls := .type "list_iterator", data := .fields #[.ref dl, .int 0 0] } := Heap.get?_push_size _ rfl
 generalize s₇.heap.objs.size = I at *
 refine for_walksP (Walks.list hA'.h I dl hIne vs) (RI w s ds text s.heap.objs.size a σ vs) ⟨_, _, m₇, x₇.trans ⟨rfl, rfl, rfl⟩, R₇.grow kI, N₇, let ⟨nn, e⟩ := hP₇; ⟨nn, kI _ _ e⟩, hall.keep (.grow kI) fun _ h => h⟩ ⟨⟨_, hI0, rfl, rfl⟩, ⟨ol, kI _ _ hol, hcl, nl, hdl⟩⟩
  (fun i s' h' tk' J St But => J.iter hI3 hIfr St But) (fun i v s' E'' G hi hvi J St g1 _ _ _ => run_step rfl hA' hvs ok hlen hI3 hNl.1 hi hvi J St g1) fun s' J => run_rest hA' hvs ok hlen htl J h
end
end
section
abbrev PD (w : World) (h : Heap) (a : Nat) (kvs : KVs) : Prop := DAt w h a (.type "dict") none #[] kvs
section
variable {w : World} {A : Around} {E : Value → Shared → Prop} {s : Shared} {a : Nat} {kvs : KVs} {x : Str} {t : Tok}
theorem PD.ty (D : PD w s.heap a kvs) : s.TypeIs (.ref a) "dict" := let ⟨_, _, e, _⟩ := D; ⟨_, e, rfl⟩
theorem PD.ty' {s : Shared} {h : Heap} (D : PD w h a kvs) (e : s.heap = h) : s.TypeIs (.ref a) "dict" := let ⟨_, _, e1, _⟩ := D; ⟨_, e ▸ e1, rfl⟩
theorem pd_getItem {v : Value} {Q : Value → Shared → Prop} (D : PD w s.heap a kvs) (hv : valueAt kvs x = some v) (h : Q v { s with toks := s.toks + 1 }) : wpAny (Md w) A (getItem (.ref a) (.str x t)) Q E s := by
 unfold getItem
 refine wpAny_holding (wpAny_bind (wpAny_sequenceKey D.ty (by decide) ?_))
 refine wpAny_bind (wpAny_callSpecial?_slot (name := Str.ofString "__getitem__") D.ty slot_dict_getitem (wpAny_call_entry slot_dict_getitem D.ty entry_dict_getitem ?_ (args_dict_getitem _ _)))
 show wpAny _ _ (dictGet a (.str x t) >>= _) _ _ s
 refine wpAny_bind (dict_get D ?_)
 rw [hv]
 exact wpAny_pure ⟨v, rfl, wpAny_pure h⟩
theorem pd_setItem {v : Value} {Q : Unit → Shared → Prop} (D : PD w s.heap a kvs) (hsz : kvs.length ≤ sizeLine) (h : ∀ s', Sx s s' → PD w s'.heap a (stored kvs x v) → (∀ b o, b ≠ a → s.heap.get? b = some o → s'.heap.get? b = some o) → Q () s') : wpAny (Md w) A (setItem (.ref a) (.str x t) v) Q E s := by
 unfold setItem
 refine wpAny_holding (wpAny_bind (wpAny_sequenceKey D.ty (by decide) ?_))
 refine wpAny_bind (wpAny_callSpecial?_slot (name := Str.ofString "__setitem__") D.ty slot_dict_setitem (wpAny_call_entry slot_dict_setitem D.ty entry_dict_setitem ?_ (args_dict_setitem _ _ _)))
 show wpAny _ _ (Builtin.Dict.notOrdered "__setitem__" ⟨[.ref a, .str x t, v], []⟩ >>= _) _ _ s
 refine wpAny_bind (wpAny_notOrdered_dict D.ty ?_)
 show wpAny _ _ (dictSet a (.str x t) v >>= _) _ _ s
 exact wpAny_bind (dict_set D hsz fun h' D' S' => wpAny_pure ⟨.none, rfl, wpAny_pure (h _ .of D' fun b o hb e => (S'.2 b hb).trans e)⟩)
theorem not_mods' (h : 303 ≤ a) : (a == sysModules) = false := not_mods h
theorem pd_contains {Q : Bool → Shared → Prop} (D : PD w s.heap a kvs) (ha : 303 ≤ a) (h : Q (valueAt kvs x).isSome { s with toks := s.toks + 1 }) : wpAny (Md w) A (contains (.ref a) (.str x t)) Q E s := by
 refine wpAny_contains_slot D.ty slot_dict_contains (wpAny_call_entry slot_dict_contains D.ty entry_dict_contains ?_ (args_dict_contains _ _))
 unfold Builtin.«dict.__contains__»
 refine wpAny_bind (wpAny_of_eq (a := ((a : Addr), Value.str x t)) (by rfl) ?_)
 show wpAny _ _ (dictGet a (.str x t) >>= _) _ _ s
 refine wpAny_bind (dict_get D ?_)
 cases hv : valueAt kvs x with
 | some v =>
  rw [hv] at h
  exact wpAny_pure ⟨_, rfl, wpAny_truthy_bool h⟩
 | none =>
  rw [hv] at h
  show wpAny _ _ (Builtin.Dict.pendingKey? a (.str x t) >>= _) _ _ _
  unfold Builtin.Dict.pendingKey?
  rw [not_mods ha]
  exact wpAny_bind (wpAny_pure (wpAny_pure ⟨_, rfl, wpAny_truthy_bool h⟩))
theorem in_of {op : Bool} {c k : Value} {Q : Value → Shared → Prop} (h : wpAny (Md w) A (contains c k) (fun b s' => Q (.bool b) s') E s) : wpAny (Md w) A (compareOp .In k c) Q E s := by
 show wpAny _ _ (contains c k >>= fun b => pure (Value.bool b)) _ _ _
 exact wpAny_bind (wpAny_mono h (fun b s' hb => wpAny_pure hb) fun _ _ e => e)
theorem notin_of {c k : Value} {Q : Value → Shared → Prop} (h : wpAny (Md w) A (contains c k) (fun b s' => Q (.bool (!b)) s') E s) : wpAny (Md w) A (compareOp .NotIn k c) Q E s := by
 show wpAny _ _ (contains c k >>= fun b => pure (Value.bool (!b))) _ _ _
 exact wpAny_bind (wpAny_mono h (fun b s' hb => wpAny_pure hb) fun _ _ e => e)
theorem pd_getm {pl : Sem Bool} {Q : Value × List Value → Shared → Prop} (D : PD w s.heap a kvs) (h : Q (.builtin "dict.get", [.ref a]) s) : wpAny (Md w) A (getMethod (.ref a) "get" pl) Q E s :=
 getMethod_builtin D.ty PySem.F.plainAttrs_dict PySem.F.slot_dict_get PySem.F.type_dict_get (fun b e => by cases e; exact let ⟨_, _, e1, _⟩ := D; ⟨_, e1, rfl⟩) h
theorem pd_get {y : Value} {Q : Value → Shared → Prop} (D : PD w s.heap a kvs) (ha : 303 ≤ a) (h : Q ((valueAt kvs x).getD y) { s with toks := s.toks + 1 }) : wpAny (Md w) A (call (.builtin "dict.get") [.ref a, .str x t, y]) Q E s := by
 refine wpAny_call_entry PySem.F.slot_dict_get D.ty PySem.F.entry_dict_get ?_ (PySem.F.args_dict_get_3 _ _ _)
 unfold Builtin.«dict.get»
 refine wpAny_bind ?_
 unfold Builtin.Dict.keyAndDefault
 refine wpAny_bind (wpAny_notOrdered_dict D.ty ?_)
 show wpAny _ _ (pure () >>= _) _ _ s
 refine wpAny_bind (wpAny_pure ?_)
 show wpAny _ _ (pure _ >>= _) _ _ s
 refine wpAny_bind (wpAny_pure ?_)
 refine wpAny_bind (wpAny_pure (wpAny_pure ?_))
 refine wpAny_bind (dict_get D ?_)
 cases hv : valueAt kvs x with
 | some v => rw [hv] at h; exact wpAny_pure ⟨_, rfl, h⟩
 | none =>
  rw [hv] at h
  show wpAny _ _ (Builtin.Dict.missed a (.str x t) >>= _) _ _ _
  unfold Builtin.Dict.missed
  rw [not_mods ha]
  exact wpAny_bind (wpAny_pure (wpAny_pure ⟨_, rfl, h⟩))
end
end
section
noncomputable def bkv (l : List (Path × List Path)) (κ : Path → Nat) : KVs := l.map fun kv => (toS kv.1, .ref (κ kv.1))
theorem bkv_at {l : List (Path × List Path)} {κ : Path → Nat} {p : Path} : valueAt (bkv l κ) (toS p) = if has l p = true then some (.ref (κ p)) else none := by
 unfold bkv valueAt
 induction l with
 | nil => rfl
 | cons x r ih =>
  rw [List.map_cons]
  by_cases hx : x.1 = p
  ·rw [List.find?_cons_of_pos (by simp [hx]), if_pos (has_iff.mpr ⟨x.2, by rw [← hx]; exact List.mem_cons_self⟩)]
   show some (Value.ref (κ x.1)) = _
   rw [hx]
  ·rw [List.find?_cons_of_neg (by simpa using fun e => hx (toS_inj e)), ih]
   have : has (x :: r) p = has r p := by
    unfold has
    rw [List.any_cons]
    simp [hx]
   rw [this]
theorem bkv_len {l : List (Path × List Path)} {κ : Path → Nat} : (bkv l κ).length = l.length := by simp [bkv]
structure PB (w : World) (h : Heap) (b : Nat) (l : List (Path × List Path)) (κ : Path → Nat) : Prop where
 d : PD w h b (bkv l κ)
 k : ∀ p bs, (p, bs) ∈ l → ∃ vs, h.PlainList (κ p) vs.toArray ∧ StrsAre vs (bs.map toS)
 inj : ∀ p q, has l p = true → has l q = true → κ p = κ q → p = q
 lo : 303 ≤ b
 lk : ∀ p, has l p = true → 303 ≤ κ p
theorem StrsAre.snoc {vs : List Value} {ys : List Str} (x : StrsAre vs ys) (y : Str) (t : Tok) : StrsAre (vs ++ [.str y t]) (ys ++ [y]) := by
 induction x with
 | nil => exact .cons _ _ .nil
 | cons z t' _ ih => exact .cons _ _ ih
theorem StrsAre.len {vs : List Value} {ys : List Str} (x : StrsAre vs ys) : vs.length = ys.length := by
 induction x with
 | nil => rfl
 | cons z t' _ ih => rw [List.length_cons, List.length_cons, ih]
section
variable {w : World} {h h' : Heap} {b : Nat} {l : List (Path × List Path)} {κ κ' : Path → Nat}
theorem PB.keep (P : PB w h b l κ) (kb : ∀ o, h.get? b = some o → h'.get? b = some o) (kk : ∀ p, has l p = true → ∀ o, h.get? (κ p) = some o → h'.get? (κ p) = some o) : PB w h' b l κ where
 d := P.d.at kb
 k := fun p bs hm => let ⟨vs, ⟨n, e⟩, r⟩ := P.k p bs hm; ⟨vs, ⟨n, kk p (has_iff.mpr ⟨bs, hm⟩) _ e⟩, r⟩
 inj := P.inj
 lo := P.lo
 lk := P.lk
theorem PB.grow (P : PB w h b l κ) (k : ∀ c o, h.get? c = some o → h'.get? c = some o) : PB w h' b l κ := P.keep (fun o e => k _ _ e) fun _ _ o e => k _ _ e
theorem PB.objD (P : PB w h b l κ) : ∃ o es n, h.get? b = some o ∧ o.data = .dict es n := let ⟨es, ep, e, _⟩ := P.d; ⟨_, es, ep, e, rfl⟩
theorem PB.objK (P : PB w h b l κ) {p : Path} (hp : has l p = true) : ∃ o vs n, h.get? (κ p) = some o ∧ o.data = .seq vs n := by
 obtain ⟨bs, hb⟩ := has_iff.mp hp
 obtain ⟨vs, ⟨n, e⟩, _⟩ := P.k p bs hb
 exact ⟨_, _, _, e, rfl⟩
def Off (l : List (Path × List Path)) (κ : Path → Nat) (b c : Nat) : Prop := c ≠ b ∧ ∀ p, has l p = true → c ≠ κ p
theorem PB.off_fields (P : PB w h b l κ) {c : Nat} {o : Obj} {vs : Array Value} (e : h.get? c = some o) (hd : o.data = .fields vs) : Off l κ b c := by
 refine ⟨fun x => ?_, fun p hp x => ?_⟩
 ·obtain ⟨o', es, n, e', hd'⟩ := P.objD
  rw [← x, e] at e'; cases e'; rw [hd] at hd'; cases hd'
 ·obtain ⟨o', vs', n, e', hd'⟩ := P.objK hp
  rw [← x, e] at e'; cases e'; rw [hd] at hd'; cases hd'
theorem PB.off_dict (P : PB w h b l κ) {c : Nat} {o : Obj} {es : Array DictEntry} {n : Nat} (e : h.get? c = some o) (hd : o.data = .dict es n) (hb : c ≠ b) : Off l κ b c := by
 refine ⟨hb, fun p hp x => ?_⟩
 obtain ⟨o', vs', n, e', hd'⟩ := P.objK hp
 rw [← x, e] at e'; cases e'; rw [hd] at hd'; cases hd'
end
theorem PB.add {w : World} {h h₁ h₂ h₃ : Heap} {b : Nat} {S : St} {κ : Path → Nat} {p : Path} {c : Nat} {N : Nat} {vs : List Value} {t : Tok} (P : PB w h b S.below κ) (W : WF S) (hp : has S.below p = true) (hc : ¬ has S.below (p ++ [c]) = true)
  (hv : h.PlainList (κ p) vs.toArray) (hs : StrsAre vs (((look S.below p).getD []).map toS)) (hl : h₁.PlainList (κ p) (vs ++ [Value.str (toS [c]) t]).toArray) (k₁ : ∀ x o, x ≠ κ p → h.get? x = some o → h₁.get? x = some o)
  (k₂ : ∀ x o, h₁.get? x = some o → h₂.get? x = some o) (hN : h₂.PlainList N #[]) (hN0 : h₁.get? N = none) (hN3 : 303 ≤ N) (hD : PD w h₃ b (stored (bkv S.below κ) (toS (p ++ [c])) (.ref N))) (k₃ : ∀ x o, x ≠ b → h₂.get? x = some o → h₃.get? x = some o) :
  PB w h₃ b (S.add p c).below (fun q => if q = p ++ [c] then N else κ q) := by
 have hold : ∀ q, has S.below q = true → q ≠ p ++ [c] := fun q hq e => hc (e ▸ hq)
 have ek : ∀ q, has S.below q = true → (if q = p ++ [c] then N else κ q) = κ q := fun q hq => if_neg (hold q hq)
 obtain ⟨bs, hb⟩ := has_iff.mp hp
 obtain ⟨oD, es, nD, eD, hdD⟩ := P.objD
 have kb : ∀ q, has S.below q = true → κ q ≠ b := fun q hq e => by
  obtain ⟨o', vs', n, e', hd'⟩ := P.objK hq
  rw [e, eD] at e'; cases e'; rw [hdD] at hd'; cases hd'
 obtain ⟨nN, eN⟩ := hN
 have hNb : N ≠ b := fun e => by
  have := k₁ b oD (Ne.symm (kb p hp)) eD
  rw [← e, hN0] at this; cases this
 have hNk : ∀ q, has S.below q = true → N ≠ κ q := fun q hq e => by
  obtain ⟨o', vs', n, e', hd'⟩ := P.objK hq
  by_cases hqp : q = p
  ·subst hqp
   obtain ⟨n1, e1⟩ := hl
   rw [← e, hN0] at e1; cases e1
  ·have := k₁ (κ q) o' (fun x => hqp (P.inj q p hq hp x)) e'
   rw [← e, hN0] at this; cases this
 refine ⟨?_, ?_, ?_, P.lo, fun q hq => ?_⟩
 ·have e1 : stored (bkv S.below κ) (toS (p ++ [c])) (.ref N) = bkv (S.add p c).below (fun q => if q = p ++ [c] then N else κ q) := by
   have hno : ¬ ((bkv S.below κ).any fun kv => decide (kv.1 = toS (p ++ [c]))) = true := by
    rw [any_keys]
    intro h
    obtain ⟨kv, hkv, e⟩ := List.mem_map.mp h
    obtain ⟨x, hx, rfl⟩ := List.mem_map.mp hkv
    have := toS_inj e
    exact hc (has_iff.mpr ⟨x.2, this ▸ hx⟩)
   unfold stored
   rw [if_neg hno]
   show _ = List.map _ (List.map _ S.below ++ [(p ++ [c], [])])
   rw [List.map_append, List.map_map]
   unfold bkv
   congr 1
   ·refine List.map_congr_left fun kv hkv => ?_
    have hk : has S.below kv.1 = true := has_iff.mpr ⟨kv.2, hkv⟩
    simp only [Function.comp]
    split <;> simp [hold kv.1 hk]
   ·simp
  rw [← e1]; exact hD
 ·intro q qs hm
  rcases mem_addB.mp hm with ⟨hq, hm'⟩ | ⟨rfl, b', hm', rfl⟩ | ⟨rfl, rfl⟩
  ·have hq' : has S.below q = true := has_iff.mpr ⟨qs, hm'⟩
   obtain ⟨vs', ⟨n', e'⟩, r⟩ := P.k q qs hm'
   rw [ek q hq']
   exact ⟨vs', ⟨n', k₃ _ _ (kb q hq') (k₂ _ _ (k₁ _ _ (fun x => hq (P.inj q p hq' hp x)) e'))⟩, r⟩
  ·rw [ek _ hp]
   obtain ⟨n1, e1⟩ := hl
   refine ⟨_, ⟨n1, k₃ _ _ (kb _ hp) (k₂ _ _ e1)⟩, ?_⟩
   rw [List.map_append]
   rw [mem_look W.nd hm'] at hs
   exact StrsAre.snoc hs _ t
  ·rw [if_pos rfl]
   exact ⟨[], ⟨nN, k₃ _ _ hNb eN⟩, .nil⟩
 ·intro q r hq hr e
  rcases has_addB.mp hq with hq' | rfl <;> rcases has_addB.mp hr with hr' | rfl
  ·simp only [ek q hq', ek r hr'] at e; exact P.inj q r hq' hr' e
  ·simp only [ek q hq', if_true] at e; exact absurd e.symm (hNk q hq')
  ·simp only [ek r hr', if_true] at e; exact absurd e (hNk r hr')
  ·rfl
 ·show 303 ≤ (if q = p ++ [c] then N else κ q)
  rcases has_addB.mp hq with hq' | rfl
  ·rw [ek q hq']; exact P.lk q hq'
  ·rw [if_pos rfl]; exact hN3
end
section
noncomputable def eGon (L : Nat) : Env := callEnvC (fdL 69 "_law_gone" 276) L 277
theorem psl_to (x : Path) (k : Nat) (h : k ≤ x.length) : psl x none (some (k : Int)) = x.take k := by
 unfold psl clipN
 simp only
 rw [if_neg (show ¬ ((k : Int) < 0) by lia), show (max 0 (min (k : Int) (x.length : Int))).toNat = k from by lia]
 simp
theorem gone_stop {S : St} : ∀ (r a : Path), (gone S [] a).2 = false → gone S [] (a ++ r) = gone S [] a
 | [], a, _ => by simp
 | c :: r, a, h => by
  have e : gone S [] (a ++ [c]) = gone S [] a := by rw [gone_snoc, h]; simp
  have := gone_stop r (a ++ [c]) (by rw [e]; exact h)
  rw [List.append_assoc] at this
  exact this.trans e
section
variable {w : World} {A : Around} {E : Value → Shared → Prop} {s : Shared} {S : St} {κ : Path → Nat} {b sA n : Nat} {path : Path} {t : Tok}
theorem strs_any {ps : List Path} {p : Path} : ((ps.map toS).any (· == toS p)) = decide (p ∈ ps) := by
 induction ps with
 | nil => simp
 | cons q r ih =>
  rw [List.map_cons, List.any_cons, ih]
  by_cases hq : q = p
  ·subst hq; simp
  ·have h1 : (toS q == toS p) = false := by
    rw [beq_eq_false_iff_ne]
    exact fun e => hq (toS_inj e)
   have h2 : ¬ p = q := fun e => hq e.symm
   rw [h1]; simp [h2]
end
theorem own_gon {L b : Nat} (h : OwnA (eGon L) b) : b = L := by
 rcases h with rfl | ⟨y, e⟩
 ·rfl
 ·cases e
structure GnAt (w : World) (h₀ : Heap) (S G : St) (κ κ' : Path → Nat) (b L sA : Nat) (path : Path) (t : Tok) (h : Heap) (m : Str → Option Value) : Prop where
 P : PB w h b G.below κ'
 hκ : ∀ p, has S.below p = true → κ' p = κ p
 od : ∀ p, has S.below p = true → has G.below p = true
 fr : ∀ c o, h₀.get? c = some o → Off S.below κ b c → h.get? c = some o ∧ Off G.below κ' b c
 B : Bs w h
 V : Vars h (eGon L) m
 mb : m "below" = some (.ref b)
 ms : m "shut" = some (.ref sA)
 mp : m "path" = some (.str (toS path) t)
inductive GnI (w : World) (s₀ : Shared) (S : St) (κ : Path → Nat) (b L sA : Nat) (path : Path) (t : Tok) (i : Nat) (s' : Shared) : Prop
 | mk (κ' : Path → Nat) (m : Str → Option Value) (x : Sx s₀ s') (y : GnAt w s₀.heap S (gone S [] (path.take i)).1 κ κ' b L sA path t s'.heap m) (g : (gone S [] (path.take i)).2 = true) (hl : (gone S [] (path.take i)).1.below.length ≤ S.below.length + i) : GnI w s₀ S κ b L sA path t i s'
noncomputable def gnBody : List Stmt := match topS 69 with
 | .FunctionDef _ _ (.For _ _ b _ _ :: _) _ _ _ _ _ _ _ => b
 | _ => []
noncomputable def gnAdd : List Stmt := match gnBody with
 | .If _ b _ _ :: _ => b.drop 1
 | _ => []
section
variable {w : World} {A : Around} {E : Value → Shared → Prop} {s s₀ : Shared} {h₀ : Heap} {S G : St} {κ κ' : Path → Nat} {b L sA n i : Nat} {path : Path} {t : Tok} {m : Str → Option Value}
theorem GnAt.grow {h h' : Heap} (y : GnAt w h₀ S G κ κ' b L sA path t h m) (k : ∀ c o, h.get? c = some o → h'.get? c = some o) : GnAt w h₀ S G κ κ' b L sA path t h' m := ⟨y.P.grow k, y.hκ, y.od, fun c o e f => ⟨k _ _ (y.fr c o e f).1, (y.fr c o e f).2⟩, y.B.grow k, y.V.grow k, y.mb, y.ms, y.mp⟩
theorem GnAt.move {h h' : Heap} {I : Nat} {m' : Str → Option Value} (y : GnAt w h₀ S G κ κ' b L sA path t h m) (off : Off G.below κ' b I) (I3 : 303 ≤ I) (f0 : h₀.get? I = none) (k : ∀ c o, c ≠ I → h.get? c = some o → h'.get? c = some o) (V : Vars h' (eGon L) m') (e1 : m' "below" = m "below") (e2 : m' "shut" = m "shut") (e3 : m' "path" = m "path") : GnAt w h₀ S G κ κ' b L sA path t h' m' :=
 ⟨y.P.keep (fun o e => k _ _ (Ne.symm off.1) e) fun p hp o e => k _ _ (Ne.symm (off.2 p hp)) e, y.hκ, y.od, fun c o e f => ⟨k c o (fun x => by rw [x, f0] at e; cases e) (y.fr c o e f).1, (y.fr c o e f).2⟩,
  y.B.mono (fun c o hc _ e => k c o (Nat.ne_of_lt (Nat.lt_of_lt_of_le hc I3)) e) (let ⟨o, e⟩ := y.B.f 100 (by decide); ⟨o, k _ _ (Nat.ne_of_lt (Nat.lt_of_lt_of_le (by decide) I3)) e⟩), V, e1.trans y.mb, e2.trans y.ms, e3.trans y.mp⟩
theorem gn_add {c : Nat} {u : Tok} {Q : Flow → Shared → Prop} (y : GnAt w h₀ S G κ κ' b L sA path t s.heap m) (hk₃ : m "k" = some (.int (i : Nat) u)) (L3 : 303 ≤ L) (hbL : b ≠ L) (hi : i < path.length) (hpl : path.length ≤ 100000) (hc : path[i]? = some c) (W' : WF G) (there : has G.below (path.take i) = true) (hc' : ¬ has G.below (path.take i ++ [c]) = true) (zg : ∀ bs, (path.take i, bs) ∈ G.below → bs.length ≤ 100000) (hgl : G.below.length ≤ 100000)
  (h : ∀ s' κ'', Sx s s' → GnAt w h₀ S (G.add (path.take i) c) κ κ'' b L sA path t s'.heap m → (∀ c' o, c' ≠ b → c' ≠ κ' (path.take i) → s.heap.get? c' = some o → s'.heap.get? c' = some o) → Q .next s') : wpAny (Md w) A (execs gnAdd (eGon L)) Q E s := by
 have hva : valueAt (bkv G.below κ') (toS (path.take i)) = some (.ref (κ' (path.take i))) := by rw [bkv_at, if_pos there]
 refine wpAny_execs_cons (wpAny_Expr (ev_Method (ev_Sub (y.V.rd (v := .ref b) (ev_slice (y.V.rd (v := .str (toS path) t) (wpAny_pure (y.V.rd (v := .int i u) ⟨path, t, none, some ((i : Int), u), rfl, rfl, rfl, by lia, fun s₆ t₆ g₆ => ?_⟩ hk₃)) y.mp)) y.mb))))
 have y₆ := y.grow g₆.keep
 simp only [Option.map_none, Option.map_some]
 rw [psl_to path i (Nat.le_of_lt hi)]
 refine gip_ty y₆.P.d.ty slot_dict_getitem.lookup ⟨rfl, pd_getItem y₆.P.d hva fun pl => ?_⟩
 obtain ⟨bs, hbs⟩ := has_iff.mp there
 obtain ⟨vs, hvs, hstr⟩ := y₆.P.k _ _ hbs
 refine getm_append hvs (cw_builtin (ev_Sub (y₆.V.rd (v := .str (toS path) t) (y₆.V.rd (v := .int i u) (gip_str ⟨rfl, getItem_str (c := c) (by
  have h1 : ¬ ((i : Int) < -2 ^ 63) := by lia
  have h2 : ¬ ((i : Int) ≥ 2 ^ 63) := by lia
  simp only [h1, h2, decide_false, Bool.or_false]) (by
  rw [toS_len, seqIndex_nat hi]
  simpa [toS] using hc) ?_⟩) hk₃) y₆.mp)))
 have hvl : vs.length ≤ 100000 := by
  rw [StrsAre.len hstr, List.length_map]
  exact zg _ hbs
 refine wpAny_list_append_plain hvs (fun h₇ hl₇ S₇ => ?_) (by rw [List.size_toArray, sizeLine_eq]; lia)
 have k₇ : ∀ c' o, c' ≠ κ' (path.take i) → s₆.heap.get? c' = some o → h₇.get? c' = some o := fun c' o hc' e => (S₇.2 c' hc').trans e
 obtain ⟨ml, ⟨oL, esL, epL, hoL, hdL, _⟩, _⟩ := y₆.V.ns
 have hoL : s₆.heap.get? L = some oL := hoL
 have offL := y₆.P.off_dict hoL hdL (Ne.symm hbL)
 have hbk : b ≠ κ' (path.take i) := fun e => by
  obtain ⟨o', vs', n', e', hd'⟩ := y₆.P.objK there
  obtain ⟨o'', es'', n'', e'', hd''⟩ := y₆.P.objD
  rw [← e, e''] at e'; cases e'; rw [hd''] at hd'; cases hd'
 have V₇ : Vars h₇ (eGon L) m := y₆.V.keep fun c' o hc' e => k₇ c' o (by rw [own_gon hc']; exact offL.2 _ there) e
 have D₇ : PD w h₇ b (bkv G.below κ') := y₆.P.d.at fun o e => k₇ _ _ hbk e
 clear S₇ hdL hva
 refine wpAny_execs_cons (wpAny_Assign_Subscript (ev_List0 ?_))
 have kN : ∀ c' o, h₇.get? c' = some o → (h₇.push { cls := .type "list", data := .seq #[] }).get? c' = some o := fun c' o e => Heap.get?_push_of_some _ e
 have V₈ := V₇.grow kN
 refine V₈.rd (v := .ref b) (ev_slice (V₈.rd (v := .str (toS path) t) (wpAny_pure (wpAny_BinOp (V₈.rd (v := .int i u) (wpAny_Constant_int (add_int ⟨path, t, none, some ((i : Int) + 1, _), rfl, rfl, rfl, by lia, fun s₉ t₉ g₉ => ?_⟩)) hk₃))) y.mp)) y.mb
 have k₉ : ∀ c' o, (h₇.push { cls := .type "list", data := .seq #[] }).get? c' = some o → s₉.heap.get? c' = some o := g₉.keep
 simp only [Option.map_none, Option.map_some]
 rw [show psl path none (some ((i : Int) + 1)) = path.take i ++ [c] from (psl_to path (i + 1) hi).trans (by rw [List.take_add_one, hc]; rfl)]
 have k₇₉ : ∀ c' o, h₇.get? c' = some o → s₉.heap.get? c' = some o := fun c' o e => k₉ _ _ (kN _ _ e)
 refine pd_setItem (D₇.at fun o e => k₇₉ _ _ e) (by rw [bkv_len, sizeLine_eq]; lia) fun s₁₀ x₁₀ D₁₀ k₁₀ => ?_
 have e1 : ∀ tk, vs.toArray.push (Value.str ⟨#[c]⟩ tk) = (vs ++ [Value.str (toS [c]) tk]).toArray := fun tk => by simp [toS]
 rw [e1] at hl₇
 have P₁₀ := y₆.P.add (c := c) (N := h₇.objs.size) W' there hc' hvs (by rw [mem_look W'.nd hbs]; exact hstr) hl₇ k₇ k₇₉ ⟨0, k₉ _ _ (Heap.get?_push_size _ rfl)⟩ (by
  cases e : h₇.get? h₇.objs.size with
  | none => rfl
  | some o => exact absurd (Heap.lt_size e) (Nat.lt_irrefl _)) (Nat.le_trans L3 (Nat.le_of_lt (Heap.lt_size (k₇ _ _ (offL.2 _ there) hoL)))) D₁₀ k₁₀
 have hold : ∀ q, has G.below q = true → q ≠ path.take i ++ [c] := fun q hq e => hc' (e ▸ hq)
 have kall : ∀ c' o, c' ≠ b → c' ≠ κ' (path.take i) → s₆.heap.get? c' = some o → s₁₀.heap.get? c' = some o := fun c' o h1 h2 e => k₁₀ _ _ h1 (k₇₉ _ _ (k₇ _ _ h2 e))
 have x₁₀' : Sx s s₁₀ := (((Sx.refl s).go g₆.sx).go g₉.sx).go x₁₀
 refine wpAny_execs_nil (h s₁₀ (fun q => if q = path.take i ++ [c] then h₇.objs.size else κ' q) x₁₀' ⟨P₁₀, fun p hp => ?_, fun p hp => has_addB.mpr (.inl (y.od p hp)), fun c' o e off => ?_, ?_, ?_, y.mb, y.ms, y.mp⟩ fun c' o h1 h2 e => kall c' o h1 h2 (g₆.keep _ _ e))
 ·show (if p = path.take i ++ [c] then _ else κ' p) = _
  rw [if_neg (hold p (y.od p hp))]
  exact y.hκ p hp
 ·have f := y₆.fr c' o e off
  refine ⟨kall _ _ f.2.1 (f.2.2 _ there) f.1, f.2.1, fun q hq => ?_⟩
  show c' ≠ (if q = path.take i ++ [c] then h₇.objs.size else κ' q)
  rcases has_addB.mp hq with hq' | rfl
  ·rw [if_neg (hold q hq')]; exact f.2.2 q hq'
  ·rw [if_pos rfl]
   exact Nat.ne_of_lt (Heap.lt_size (k₇ _ _ (f.2.2 _ there) f.1))
 ·have b3 : 303 ≤ b := y₆.P.lo
  have k3 := y₆.P.lk _ there
  exact y₆.B.mono (fun c' o hc _ e => kall c' o (Nat.ne_of_lt (Nat.lt_of_lt_of_le hc b3)) (Nat.ne_of_lt (Nat.lt_of_lt_of_le hc k3)) e) (let ⟨o, e⟩ := y₆.B.f 100 (by decide); ⟨o, kall _ _ (Nat.ne_of_lt (Nat.lt_of_lt_of_le (by decide) b3)) (Nat.ne_of_lt (Nat.lt_of_lt_of_le (by decide) k3)) e⟩)
 ·exact y₆.V.keep fun c' o hc' e => kall _ _ (by rw [own_gon hc']; exact offL.1) (by rw [own_gon hc']; exact offL.2 _ there) e
theorem gn_step {zs : List Value} {ps : List Path} {v : Value} {I : Nat} {Gp : Flow → Shared → Prop} {tg : Expr} {p1 : Pos} (tge : tg = .Name "k" p1) (W : WF S) (hz : s₀.heap.PlainList sA zs.toArray) (hzs : StrsAre zs (ps.map toS)) (hps : ∀ p, p ∈ ps ↔ p ∈ S.shut) (hsA : Off S.below κ b sA) (z : Sz n S) (hn : n + path.length ≤ 100000) (hbl : S.below.length + path.length ≤ 100000)
  (L3 : 303 ≤ L) (hbL : b ≠ L) (hLI : L < I) (fL : s₀.heap.get? L = none) (hi : i < path.length) (hv : ∃ u, v = .int ((0 : Int) + (i : Int) * 1) u) (J : GnI w s₀ S κ b L sA path t i s)
  (hSt : IsRangeIter s.heap I (0 + ((i + 1 : Nat) : Int) * 1) ((path.length : Int) - ((i + 1 : Nat) : Int)) 1)
  (g1 : ∀ s', GnI w s₀ S κ b L sA path t (i + 1) s' → IsRangeIter s'.heap I (0 + ((i + 1 : Nat) : Int) * 1) ((path.length : Int) - ((i + 1 : Nat) : Int)) 1 → Gp .next s')
  (g0 : ∀ s' κ' m tk, Sx s₀ s' → GnAt w s₀.heap S (gone S [] path).1 κ κ' b L sA path t s'.heap m → (gone S [] path).2 = false → Gp (.ret (.bool false)) { s' with toks := tk }) :
  wpAny (Md w) A (letOwnedTupleGo tg (.ref I) v) (fun _ s₁ => wpAny (Md w) A (assign tg (eGon L) v) (fun _ s₂ => wpAny (Md w) A (execs gnBody (eGon L)) Gp E s₂) E s₁) E s := by
 subst tge
 obtain ⟨u, rfl⟩ := hv
 obtain ⟨κ', m, hx, y, hg, hl⟩ := J
 rw [show (0 : Int) + (i : Int) * 1 = i from by lia]
 obtain ⟨c, hc⟩ : ∃ c, path[i]? = some c := ⟨_, List.getElem?_eq_getElem hi⟩
 have htake : path.take (i + 1) = path.take i ++ [c] := by rw [List.take_add_one, hc]; rfl
 have W' := gone_wf (path.take i) S [] W W.root
 have there : has (gone S [] (path.take i)).1.below (path.take i) = true := by simpa using gone_there (path.take i) S [] W.root hg
 have esnoc : gone S [] (path.take (i + 1)) = gone (gone S [] (path.take i)).1 (path.take i) [c] := by
  have := gone_snoc S [] (path.take i) c
  rw [if_pos hg, List.nil_append] at this
  rw [htake]; exact this
 have zg : ∀ bs, (path.take i, bs) ∈ (gone S [] (path.take i)).1.below → bs.length ≤ 100000 := fun bs hbs => Nat.le_trans (gone_sz (path.take i) S [] n z _ _ hbs) (by rw [List.length_take]; lia)
 have hsh := (gone_ends (path.take i) S []).2
 refine wpAny_of_eq (a := ()) (by rfl) ?_
 refine wpAny_assign_Name (y.V.sxl (x := "k") fun s₃ x₃ V₃ k₃ => ?_)
 obtain ⟨ml, ⟨oL, esL, epL, hoL, hdL, _⟩, _⟩ := y.V.ns
 have y₃ := y.move (y.P.off_dict hoL hdL (Ne.symm hbL)) L3 fL k₃ V₃ (set_ne (by decide)) (set_ne (by decide)) (set_ne (by decide))
 have hSt₃ := k₃ _ _ (Nat.ne_of_gt hLI) hSt
 have hk₃ : set m "k" (.int i u) "k" = some (.int i u) := set_self
 have hx₃ : Sx s₀ s₃ := hx.go x₃
 generalize set m "k" (.int i u) = m₃ at *
 clear x₃ k₃ y V₃ hoL hdL hx hSt z
 generalize (gone S [] (path.take i)).1 = G at *
 refine wpAny_execs_cons (wpAny_If (wpAny_isTrue_Compare1 (ev_slice (y₃.V.rd (v := .str (toS path) t) (wpAny_pure (wpAny_BinOp (y₃.V.rd (v := .int i u) (wpAny_Constant_int (add_int ⟨path, t, none, some ((i : Int) + 1, _), rfl, rfl, rfl, by lia, fun s₄ t₄ g₄ => ?_⟩)) hk₃))) y₃.mp))))
 simp only [Option.map_none, Option.map_some]
 rw [show psl path none (some ((i : Int) + 1)) = path.take (i + 1) from psl_to path (i + 1) hi]
 have y₄ := y₃.grow g₄.keep
 have x₄ : Sx s₀ s₄ := hx₃.go g₄.sx
 have hSt₄ := g₄.keep _ _ hSt₃
 clear y₃ hSt₃ hx₃ g₄
 refine y₄.V.rd (v := .ref b) (notin_of (pd_contains y₄.P.d y₄.P.lo (wpAny_truthy_bool ?_))) y₄.mb
 rw [bkv_at, htake]
 by_cases hc' : has G.below (path.take i ++ [c]) = true
 ·rw [if_pos hc', if_neg (by simp)]
  rw [gone_one, if_pos hc'] at esnoc
  refine wpAny_execs_nil (wpAny_execs_nil (g1 _ ⟨κ', m₃, x₄.go (Sx.refl _), ?_, ?_, ?_⟩ hSt₄))
  ·rw [esnoc]; exact y₄
  ·rw [esnoc]
  ·rw [esnoc]; exact Nat.le_succ_of_le hl
 rw [if_neg hc', if_pos (by simp)]
 rw [gone_one, if_neg hc'] at esnoc
 refine wpAny_execs_cons (wpAny_If (wpAny_isTrue_Compare1 (ev_slice (y₄.V.rd (v := .str (toS path) t) (wpAny_pure (y₄.V.rd (v := .int i u) ⟨path, t, none, some ((i : Int), u), rfl, rfl, rfl, by lia, fun s₅ t₅ g₅ => ?_⟩ hk₃)) y₄.mp))))
 simp only [Option.map_none, Option.map_some]
 rw [psl_to path i (Nat.le_of_lt hi)]
 have y₅ := y₄.grow g₅.keep
 have x₅ : Sx s₀ s₅ := x₄.go g₅.sx
 have hSt₅ := g₅.keep _ _ hSt₄
 clear y₄ hSt₄ x₄ g₅
 obtain ⟨nz, ez⟩ := hz
 have ez₅ : s₅.heap.IsList sA zs.toArray := ⟨_, (y₅.fr sA _ ez hsA).1, rfl, nz, rfl⟩
 refine y₅.V.rd (v := .ref sA) (in_list_strs ez₅ hzs (wpAny_truthy_bool ?_)) y₅.ms
 rw [strs_any]
 by_cases hs : path.take i ∈ G.shut
 ·rw [if_pos (by simpa using (hps _).mpr (hsh ▸ hs))]
  rw [if_pos hs] at esnoc
  have e2 : gone S [] path = (G, false) := by
   have := gone_stop (path.drop (i + 1)) (path.take (i + 1)) (by rw [esnoc])
   rw [List.take_append_drop] at this
   rw [this, esnoc]
  exact wpAny_execs_cons (wpAny_Return_some (wpAny_Constant_bool (g0 s₅ κ' m₃ _ x₅ (by rw [e2]; exact y₅) (by rw [e2]))))
 ·rw [if_neg (by simpa using fun h' => hs (hsh ▸ (hps _).mp h'))]
  rw [if_neg hs] at esnoc
  refine wpAny_execs_nil ?_
  refine gn_add y₅ hk₃ L3 hbL hi (by lia) hc W' there hc' zg (by lia) fun s₆ κ'' x₆ y₆ kall => wpAny_execs_nil (g1 _ ⟨κ'', m₃, x₅.go x₆, ?_, ?_, ?_⟩ (kall _ _ (y₅.P.off_fields hSt₅ rfl).1 ((y₅.P.off_fields hSt₅ rfl).2 _ there) hSt₅))
  ·rw [esnoc]; exact y₆
  ·rw [esnoc]
  ·rw [esnoc]
   show (addB G.below (path.take i) c).length ≤ _
   have : (addB G.below (path.take i) c).length = G.below.length + 1 := by unfold addB; simp
   lia
theorem call_gone {zs : List Value} {ps : List Path} {Q : Value → Shared → Prop} (hA : Ok A 850 850) (B : Bs w s.heap) (P : PB w s.heap b S.below κ) (W : WF S) (hz : s.heap.PlainList sA zs.toArray) (hzs : StrsAre zs (ps.map toS)) (hps : ∀ p, p ∈ ps ↔ p ∈ S.shut) (hsA : Off S.below κ b sA)
  (z : Sz n S) (hn : n + path.length ≤ 100000) (hbl : S.below.length + path.length ≤ 100000)
  (h : ∀ s' κ', Sx s s' → PB w s'.heap b (gone S [] path).1.below κ' → (∀ p, has S.below p = true → κ' p = κ p) → (∀ c o, s.heap.get? c = some o → Off S.below κ b c → s'.heap.get? c = some o ∧ Off (gone S [] path).1.below κ' b c) → Q (.bool (gone S [] path).2) s') :
  wpAny (Md w) A (call (.ref 277) [.ref b, .ref sA, .str (toS path) t]) Q E s := by
 refine enter (fd := fdL 69 "_law_gone" 276) (o := o277p6 w.params) (binds := [("below", .ref b), ("shut", .ref sA), ("path", .str (toS path) t)]) B hA (by lia) fun h₁ tk E' V hk hown => ?_
 have hA' := hA.deeper (eGon s.heap.objs.size)
 rw [show callEnvC (fdL 69 "_law_gone" 276) s.heap.objs.size 277 = eGon s.heap.objs.size from rfl] at V ⊢
 generalize A.deeper (eGon s.heap.objs.size) = A' at hA' ⊢
 obtain ⟨m₁, mb, ms, mp, V⟩ : ∃ m₁, m₁ "below" = some (.ref b) ∧ m₁ "shut" = some (.ref sA) ∧ m₁ "path" = some (.str (toS path) t) ∧ Vars h₁ (eGon s.heap.objs.size) m₁ := ⟨_, by rfl, by rfl, by rfl, V⟩
 have B₁ := B.grow hk
 have hbL : b ≠ s.heap.objs.size := let ⟨o, _, _, e, _⟩ := P.objD; Nat.ne_of_lt (Heap.lt_size e)
 have hLlt : s.heap.objs.size < h₁.objs.size := let ⟨_, ho⟩ := V.own (.inl rfl); Heap.lt_size ho
 have L3 : 303 ≤ s.heap.objs.size := B.n
 have fr : ∀ c, s.heap.objs.size ≤ c → s.heap.get? c = none := fun c hc => by
  cases e : s.heap.get? c with
  | none => rfl
  | some o => exact absurd (Heap.lt_size e) (Nat.not_lt.mpr hc)
 refine wpAny_execs_cons (wpAny_For (ev_Call (blt (v := .type "range") B₁ (cw_type (ev_Call (blt (v := .builtin "len") B₁ (cw_builtin (V.nm (v := .str (toS path) t) (len_str (by rw [toS_len]; lia) ?_) mp))))))))
 rw [toS_len]
 refine range_iter (by lia) fun I s₂ g₂ hI hit => ?_
 have hI : h₁.objs.size ≤ I := hI
 have hLI : s.heap.objs.size < I := Nat.lt_of_lt_of_le hLlt hI
 have fI := fr I (Nat.le_of_lt hLI)
 have kS : ∀ c o, s.heap.get? c = some o → s₂.heap.get? c = some o := fun c o e => g₂.keep c o (hk c o e)
 refine for_walksP (Walks.range hA'.h I 0 1 path.length) (GnI w s S κ b s.heap.objs.size sA path t)
  ⟨κ, m₁, Sx.trans (by exact ⟨rfl, rfl, rfl⟩) g₂.sx, ⟨P.grow kS, fun _ _ => rfl, fun _ h => h, fun c o e off => ⟨kS c o e, off⟩, B₁.grow g₂.keep, V.grow g₂.keep, mb, ms, mp⟩, rfl, Nat.le_refl _⟩ (by simpa using hit) ?_
  (fun i v s' E'' G hi hv J St g1 _ _ gR => gn_step rfl W hz hzs hps hsA z hn hbl L3 hbL hLI (fr _ (Nat.le_refl _)) hi hv J St g1 fun s₃ κ' m tk x' y' e2 => gR _ _ ?_) fun s₃ J => ?_
 ·rintro i s' h' tk' ⟨κ', m, hx, y, hg, hl⟩ hSt hBut
  have kB : ∀ c o, c ≠ I → s'.heap.get? c = some o → h'.get? c = some o := fun c o hc e => hBut c o (by simpa using hc) e
  exact ⟨κ', m, hx.trans .of, y.move (y.P.off_fields hSt rfl) (Nat.le_trans L3 (Nat.le_of_lt hLI)) fI kB (y.V.keep fun c o hc e => kB c o (by rw [own_gon hc]; exact Nat.ne_of_lt hLI) e) rfl rfl rfl, hg, hl⟩
 ·have := h { s₃ with toks := tk } κ' (x'.trans ⟨rfl, rfl, rfl⟩) y'.P y'.hκ y'.fr
  rw [e2] at this
  exact this
 ·obtain ⟨κ', m, hx, y, hg, hl⟩ := J
  rw [List.take_of_length_le (Nat.le_refl _)] at y hg
  refine wpAny_execs_cons (wpAny_Return_some (wpAny_Constant_bool ?_))
  show Q _ _
  rw [← hg]
  exact h s₃ κ' hx y.P y.hκ y.fr
end
end
section
theorem strs_at {vs : List Value} {ys : List Str} (x : StrsAre vs ys) : ∀ {i : Nat} {v : Value}, vs[i]? = some v → ∃ y tg, ys[i]? = some y ∧ v = Value.str y tg := by
 induction x with
 | nil => intro i v h; simp at h
 | cons y tg _ ih =>
  intro i v h
  cases i with
  | zero => simp at h; exact ⟨y, tg, rfl, h.symm⟩
  | succ i => simp at h; simpa using ih h
noncomputable def eDrw (L : Nat) : Env := callEnvC (fdL 70 "_law_drawn" 281) L 282
inductive EK : List (Path × Int) → KVs → Prop
 | nil : EK [] []
 | cons {p k t l kvs} : EK l kvs → EK ((p, k) :: l) ((toS p, .int k t) :: kvs)
theorem EK.at {l : List (Path × Int)} {kvs : KVs} (x : EK l kvs) {p : Path} : (∃ k t, look l p = some k ∧ valueAt kvs (toS p) = some (.int k t)) ∨ (look l p = none ∧ valueAt kvs (toS p) = none) := by
 induction x with
 | nil => exact .inr ⟨rfl, rfl⟩
 | @cons q k t l kvs _ ih =>
  by_cases hq : q = p
  ·subst hq
   exact .inl ⟨k, t, by simp [look], by simp [valueAt]⟩
  ·have h1 : look ((q, k) :: l) p = look l p := by
    unfold look
    rw [List.find?_cons_of_neg (by simpa using hq)]
   have h2 : valueAt ((toS q, Value.int k t) :: kvs) (toS p) = valueAt kvs (toS p) := by
    unfold valueAt
    rw [List.find?_cons_of_neg (by simpa using fun e => hq (toS_inj e))]
   rw [h1, h2]; exact ih
theorem EK.keys {l : List (Path × Int)} {kvs : KVs} (x : EK l kvs) : kvs.map (·.1) = l.map fun kv => toS kv.1 := by
 induction x with
 | nil => rfl
 | cons _ ih => rw [List.map_cons, List.map_cons, ih]
structure PE (w : World) (h : Heap) (e : Nat) (l : List (Path × Int)) : Prop where
 d : ∃ kvs, PD w h e kvs ∧ EK l kvs
 lo : 303 ≤ e
theorem PE.at' {w : World} {h h' : Heap} {e : Nat} {l : List (Path × Int)} (P : PE w h e l) (k : ∀ o, h.get? e = some o → h'.get? e = some o) : PE w h' e l := let ⟨kvs, d, r⟩ := P.d; ⟨⟨kvs, d.at k, r⟩, P.lo⟩
section
variable {w : World} {κ : Path → Nat} {b e : Nat} {S : St}
theorem call_drawn : ∀ (f : Nat) {A : Around} {E : Value → Shared → Prop} {s : Shared} {p : Path} {t : Tok} {Q : Value → Shared → Prop}, f ≤ 100 → 1 ≤ f → Ok A (860 - f) (860 - 4 * f) → Bs w s.heap → PB w s.heap b S.below κ → PE w s.heap e S.ends → WFl S → Sz 100000 S → p.length + f ≤ 100 →
  (∀ q, has S.below q = true → p <+: q → q.length < p.length + f) →
  (∀ v s', Grow s s' → Is (fun b => s.heap.objs.size ≤ b) s'.heap v (.list (drawn S f p)) → Q v s') → wpAny (Md w) A (call (.ref 282) [.ref b, .ref e, .str (toS p) t]) Q E s := by
 intro f
 induction f using Nat.strongRecOn with
 | ind f ih =>
 intro A E s p t Q hf hf1 hA B P Pe W z hpl hl h
 refine enter (fd := fdL 70 "_law_drawn" 281) (o := o282p6 w.params) (binds := [("below", .ref b), ("ends", .ref e), ("path", .str (toS p) t)]) B hA (by lia) fun h₁ tk E' V hk hown => ?_
 have hA' := hA.deeper (eDrw s.heap.objs.size)
 rw [show callEnvC (fdL 70 "_law_drawn" 281) s.heap.objs.size 282 = eDrw s.heap.objs.size from rfl] at V ⊢
 obtain ⟨m₁, ⟨mb, me, mp⟩, V⟩ : ∃ m₁, (m₁ "below" = some (.ref b) ∧ m₁ "ends" = some (.ref e) ∧ m₁ "path" = some (.str (toS p) t)) ∧ Vars h₁ (eDrw s.heap.objs.size) m₁ := ⟨_, ⟨by rfl, by rfl, by rfl⟩, V⟩
 refine entered (P := fun s₁ => wpAny _ _ _ _ _ s₁) hk V (Nat.le_refl _) fun s₁ g₁ V₁ hz₁ => ?_
 clear V hk hown
 have B₁ := B.grow g₁.keep
 have P₁ := P.grow g₁.keep
 have Pe₁ := Pe.at' fun o ee => g₁.keep _ _ ee
 have hdr0 : ∀ f, drawn S (f + 1) p = ((look S.below p).getD []).map fun g => .tuple [.str (toS g), if g = [] then .int ((look S.ends p).getD 0) else .list (drawn S f (p ++ g))] := fun f => rfl
 obtain ⟨f, rfl⟩ : ∃ g, f = g + 1 := ⟨f - 1, by lia⟩
 have hkl : ((look S.below p).getD []).length ≤ 100000 := kids_len z p
 refine wpAny_execs_cons (wpAny_Return_some (lcompL (s₀ := s₁) (cl := [("path", s.heap.objs.size + 3), ("ends", s.heap.objs.size + 2), ("below", s.heap.objs.size + 1)]) V₁ (by
  intro q hq; simp at hq
  rcases hq with rfl | rfl | rfl
  all_goals exact ⟨rfl, fun e0 => absurd (show some NameKind.cell = some .local from e0) (by decide)⟩) (ev_Method (V₁.rd (v := .ref b) (fun pl => pd_getm P₁.d (cw_builtin (V₁.rd (v := .str (toS p) t) (ev_List0 (pd_get (P₁.d.at fun o ee => Heap.get?_push_of_some _ ee) P₁.lo ?_)) mp))) mb))))
 rw [bkv_at]
 have kH : ∀ c o, s₁.heap.get? c = some o → (s₁.heap.push { cls := .type "list", data := .seq #[] }).get? c = some o := fun c o ee => Heap.get?_push_of_some _ ee
 obtain ⟨lst, vs, ev, hlst, hstr⟩ : ∃ lst vs, (if has S.below p = true then some (Value.ref (κ p)) else none).getD (.ref s₁.heap.objs.size) = .ref lst ∧ (s₁.heap.push { cls := .type "list", data := .seq #[] }).IsList lst vs.toArray ∧ StrsAre vs (((look S.below p).getD []).map toS) := by
  by_cases hp : has S.below p = true
  ·obtain ⟨bs, hb⟩ := has_iff.mp hp
   obtain ⟨vs, ⟨nv, ee⟩, r⟩ := P₁.k p bs hb
   exact ⟨κ p, vs, by rw [if_pos hp]; rfl, ⟨_, kH _ _ ee, rfl, nv, rfl⟩, by rw [mem_look W.nd hb]; exact r⟩
  ·refine ⟨s₁.heap.objs.size, [], by rw [if_neg hp]; rfl, ⟨_, Heap.get?_push_size _ rfl, rfl, 0, rfl⟩, ?_⟩
   rw [show look S.below p = none from look_none.mpr (by simpa using hp)]
   exact .nil
 have hvl : vs.length = ((look S.below p).getD []).length := by rw [StrsAre.len hstr, List.length_map]
 show wpAny _ _ (pyIter ((if has S.below p = true then some (Value.ref (κ p)) else none).getD (.ref s₁.heap.objs.size))) _ _ _
 rw [ev]
 refine comp_list (ds := (drawn S (f + 1) p).map some) hA'.h ⟨rfl, rfl, rfl⟩ kH (by show _ ≤ (s₁.heap.push _).objs.size; rw [Heap.size_push]; exact Nat.le_succ _) hlst (by rw [List.size_toArray, hvl]; exact hkl) (by rw [hdr0, List.length_map, List.length_map, List.size_toArray, hvl]) ?_ ?_
 ·intro C cenv hcenv hsC it i v od s' m' E' hvi hod hit V' hm' k'
  have hloc : cenv.locals = C := by rw [hcenv]; rfl
  have vok : varOk cenv "below" = true ∧ varOk cenv "ends" = true ∧ varOk cenv "path" = true ∧ varOk cenv "sign" = true := by rw [hcenv]; exact ⟨rfl, rfl, rfl, rfl⟩
  have hkl' : cenv.kindOf "sign" = some .local ∧ cenv.scope.kind = .function ∧ cenv.kindOf "_law_drawn" = some .globalImplicit ∧ cenv.globals = 3 := by rw [hcenv]; exact ⟨rfl, rfl, rfl, rfl⟩
  obtain ⟨g', hg', tg, rfl⟩ : ∃ g', ((look S.below p).getD [])[i]? = some g' ∧ ∃ tg, v = .str (toS g') tg := by
   obtain ⟨y, tg, hy, rfl⟩ := strs_at hstr (i := i) (v := v) (by simpa using hvi)
   rw [List.getElem?_map] at hy
   obtain ⟨g', h1, h2⟩ := Option.map_eq_some_iff.mp hy
   exact ⟨g', h1, tg, by rw [h2]⟩
  have hod' : od = some (.tuple [.str (toS g'), if g' = [] then .int ((look S.ends p).getD 0) else .list (drawn S f (p ++ g'))]) := by
   rw [hdr0, List.map_map, List.getElem?_map, hg'] at hod
   exact (Option.some.inj hod).symm
  subst hod'
  have hp : has S.below p = true := by
   cases e2 : has S.below p with
   | true => rfl
   | false => rw [show look S.below p = none from look_none.mpr e2] at hg'; simp at hg'
  obtain ⟨bs, hb⟩ := has_iff.mp hp
  rw [mem_look W.nd hb] at hg'
  have hmem : g' ∈ bs := List.mem_of_getElem? hg'
  clear hod hvi hit hg' hdr0 ev hlst hstr hvl
  refine turn_name hloc hkl'.1 (fun y hy => by
   simp only [List.lookup] at hy
   split at hy
   ·rename_i h2; rw [beq_iff_eq.mp h2]; decide
   ·split at hy
    ·rename_i h2; rw [beq_iff_eq.mp h2]; decide
    ·split at hy
     ·rename_i h2; rw [beq_iff_eq.mp h2]; decide
     ·cases hy) V' hm' hsC k' fun s₃ m₃ G1 G0 V₃ hx₃ hm₃ k₃ hC₃ g1 g0 => wpAny_tests_nil ?_
  rw [if_pos rfl]
  have nb₃ : m₃ "below" = some (.ref b) := (hm₃ "below" rfl).trans mb
  have ne₃ : m₃ "ends" = some (.ref e) := (hm₃ "ends" rfl).trans me
  have np₃ : m₃ "path" = some (.str (toS p) t) := (hm₃ "path" rfl).trans mp
  have B₃ := B₁.grow k₃
  have P₃ := P₁.grow k₃
  have Pe₃ := Pe₁.at' fun o ee => k₃ _ _ ee
  clear V' hm' k' hm₃
  have turn : ∀ (y : Value) (d : PyData) (s₄ : Shared), Grow s₃ s₄ → (C < s₄.heap.objs.size → Is (fun b => C < b) s₄.heap y d) → (if g' = [] then PyData.int ((look S.ends p).getD 0) else .list (drawn S f (p ++ g'))) = d → G1 (.ref s₄.heap.objs.size) { s₄ with heap := s₄.heap.push (tupO [.str (toS g') tg, y]) } := by
   intro y d s₄ g₄ hy ed
   have hC₄ : C < s₄.heap.objs.size := by
    obtain ⟨o, ho⟩ := (V₃.grow g₄.keep).own (.inl rfl)
    rw [hloc] at ho
    exact Heap.lt_size ho
   refine g1 _ _ _ rfl (g₄.trans ⟨_, _, rfl, fun b o ee => Heap.get?_push_of_some _ ee⟩) ?_
   rw [ed]
   exact .tuple hC₄ (Heap.get?_push_size _ rfl) rfl rfl (.cons (.str _ _) (.cons ((hy hC₄).keep (.grow fun b o ee => Heap.get?_push_of_some _ ee) fun _ h => h) .nil))
  clear g1 g0
  refine ev_Tuple (V₃.rd (v := .str (toS g') tg) (ev_IfExp (wpAny_isTrue_Compare1 (V₃.rd (v := .str (toS g') tg) (Constant_str (PyProof.Rows.eq_str (wpAny_truthy_bool ?_))) hx₃ rfl vok.2.2.2))) hx₃ rfl vok.2.2.2)
  rcases W.kids p bs hb g' hmem with ⟨rfl, hend⟩ | ⟨c, rfl, hc⟩
  ·rw [if_pos (show (toS [] == Str.ofString "") = true from by decide)]
   obtain ⟨ekvs, De, EKe⟩ := Pe₃.d
   rcases EKe.at (p := p) with ⟨k, t', hk', hv⟩ | ⟨hk', _⟩
   ·refine ev_Sub (V₃.rd (v := .ref e) (V₃.rd (v := .str (toS p) t) (gip_ty (De.ty' rfl) slot_dict_getitem.lookup ⟨rfl, pd_getItem De hv ?_⟩) np₃ rfl vok.2.2.1) ne₃ rfl vok.2.1)
    exact turn (.int k t') (.int k) _ (Grow.of fun _ _ ee => ee) (fun _ => .int _ _) (by rw [if_pos rfl, hk']; rfl)
   ·rw [look_none.mp hk'] at hend; cases hend
  ·have hne0 : toS [c] ≠ Str.ofString "" := fun ee => by
    have h1 : (toS [c]).cps.size = (Str.ofString "").cps.size := congrArg (fun x : Str => x.cps.size) ee
    exact absurd h1 (show (1 : Nat) ≠ 0 by decide)
   rw [if_neg (by simpa using hne0)]
   refine ev_Call (glob (v := .ref 282) B₃ (cw_callable (V₃.rd (v := .ref b) (V₃.rd (v := .ref e) (wpAny_BinOp (V₃.rd (v := .str (toS p) t) (V₃.rd (v := .str (toS [c]) tg) (add_str (fun t5 k5 => ?_) (by rw [toS_len, toS_len, sizeLine_eq]; simp; lia)) hx₃ rfl vok.2.2.2) np₃ rfl vok.2.2.1)) ne₃ rfl vok.2.1) nb₃ rfl vok.1)) (by kernel_rfl) hkl'.2.1 hkl'.2.2.1 hkl'.2.2.2)
   rw [toS_app]
   refine ⟨fnCallable B₃ (o282p6 w.params) _, ?_⟩
   have hlc := hl (p ++ [c]) hc ⟨[c], rfl⟩
   simp at hlc
   refine ih f (by lia) (by lia) (by lia) (hA'.le (by lia) (by lia)) B₃ P₃ Pe₃ W z (by simp; lia) (fun q hq hpq => ?_) fun v s' g hI' => ?_
   ·have := hl q hq (List.IsPrefix.trans ⟨[c], rfl⟩ hpq)
    simp
    lia
   ·exact turn v (.list (drawn S f (p ++ [c]))) s' ((Grow.of fun _ _ ee => ee).trans g) (fun _ => (hI'.keep (.grow fun _ _ ee => ee) fun _ h => h).within fun b o hb _ => Nat.lt_of_lt_of_le hC₃ hb) (if_neg (by simp))
 ·rw [fmap_some]
  intro D s' ys g hD hP hI
  exact h (.ref D) s' (g₁.trans g) (.list (Nat.le_trans (Nat.le_of_lt hz₁) hD) hP.choose_spec rfl rfl (hI.within fun b o hb _ => Nat.le_trans (Nat.le_of_lt hz₁) hb))
end
end
section
noncomputable def eBst (L : Nat) : Env := callEnvC (fdL 71 "_law_best" 286) L 287
noncomputable def lens (l : List (Path × Int)) (t : Path) : List Nat := (l.filter fun kv => decide (t.take kv.1.length = kv.1)).map fun kv => kv.1.length
noncomputable def bestN (l : List (Path × Int)) (t : Path) : Nat := (lens l t).foldl max 0
noncomputable def best (l : List (Path × Int)) (t : Path) : Int × Nat := ((look l (t.take (bestN l t))).getD 0, bestN l t)
theorem le_foldl : ∀ (ns : List Nat) (z a : Nat), (a = z ∨ a ∈ ns) → a ≤ ns.foldl max z
 | [], z, a, h => by rcases h with h | h; exact Nat.le_of_eq h; cases h
 | n :: r, z, a, h => by
  rw [List.foldl_cons]
  rcases h with rfl | h
  ·exact Nat.le_trans (Nat.le_max_left _ n) (le_foldl r _ _ (.inl rfl))
  ·rcases List.mem_cons.mp h with rfl | h
   ·exact Nat.le_trans (Nat.le_max_right z _) (le_foldl r _ _ (.inl rfl))
   ·exact le_foldl r _ _ (.inr h)
theorem foldl_mem : ∀ (ns : List Nat) (z : Nat), ns.foldl max z ∈ z :: ns
 | [], z => List.mem_cons_self
 | n :: r, z => by
  rw [List.foldl_cons]
  rcases List.mem_cons.mp (foldl_mem r (max z n)) with e | h
  ·rcases Nat.le_total z n with hzn | hzn
   ·rw [e, Nat.max_eq_right hzn]; exact List.mem_cons_of_mem _ List.mem_cons_self
   ·rw [e, Nat.max_eq_left hzn]; exact List.mem_cons_self
  ·exact List.mem_cons_of_mem _ (List.mem_cons_of_mem _ h)
inductive NAre : List Value → List Nat → Prop
 | nil : NAre [] []
 | cons (n : Nat) (t : Tok) {vs ns} : NAre vs ns → NAre (.int (n : Int) t :: vs) (n :: ns)
theorem NAre.snoc {vs : List Value} {ns : List Nat} (x : NAre vs ns) (n : Nat) (t : Tok) : NAre (vs ++ [.int (n : Int) t]) (ns ++ [n]) := by
 induction x with
 | nil => exact .cons _ _ .nil
 | cons z t' _ ih => exact .cons _ _ ih
theorem NAre.items {vs : List Value} {ns : List Nat} (x : NAre vs ns) : ∃ xs : List (Int × Tok), vs.toArray = intItems xs.toArray ∧ xs.map (·.1) = ns.map fun n : Nat => (n : Int) := by
 induction x with
 | nil => exact ⟨[], by simp [intItems], rfl⟩
 | @cons n t vs ns _ ih =>
  obtain ⟨xs, h1, h2⟩ := ih
  refine ⟨((n : Int), t) :: xs, ?_, by rw [List.map_cons, List.map_cons, h2]⟩
  have h3 : vs = xs.map fun p => .int p.1 p.2 := by simpa [intItems] using h1
  simp [intItems, h3]
theorem EK.get {l : List (Path × Int)} {kvs : KVs} (x : EK l kvs) : ∀ {i : Nat} {k : Str} {u : Value}, kvs[i]? = some (k, u) → ∃ p n t, l[i]? = some (p, n) ∧ k = toS p ∧ u = .int n t := by
 induction x with
 | nil => intro i k u h; simp at h
 | @cons p n t l kvs _ ih =>
  intro i k u h
  cases i with
  | zero => simp at h; exact ⟨p, n, t, rfl, h.1.symm, h.2.symm⟩
  | succ i => simp at h; simpa using ih h
theorem EK.len {l : List (Path × Int)} {kvs : KVs} (x : EK l kvs) : kvs.length = l.length := by
 induction x with
 | nil => rfl
 | cons _ ih => rw [List.length_cons, List.length_cons, ih]
theorem psl_to' (x : Path) (k : Nat) : psl x none (some (k : Int)) = x.take k := by
 unfold psl clipN
 simp only
 rw [if_neg (show ¬ ((k : Int) < 0) by lia), show (max 0 (min (k : Int) (x.length : Int))).toNat = min k x.length from by lia]
 rw [Nat.sub_zero, List.drop_zero, ← List.take_take, List.take_length]
theorem nare_of {N : Nat → Prop} {h : Heap} : ∀ {vs : List Value} {ns : List Nat}, IsAll N h vs (ns.map fun n => PyData.int (n : Nat)) → NAre vs ns
 | [], [], _ => .nil
 | v :: vs, n :: ns, x => by
  cases x with
  | cons a b =>
   obtain ⟨t, rfl⟩ := a.asInt
   exact .cons n t (nare_of b)
 | [], n :: ns, x => nomatch x
 | v :: vs, [], x => nomatch x
theorem strs_of {N : Nat → Prop} {h : Heap} : ∀ {vs : List Value} {ps : List Path}, IsAll N h vs (ps.map fun p => PyData.str (toS p)) → StrsAre vs (ps.map toS)
 | [], [], _ => .nil
 | v :: vs, p :: ps, x => by
  cases x with
  | cons a b =>
   obtain ⟨t, rfl⟩ := a.asStr
   exact .cons _ t (strs_of b)
 | [], p :: ps, x => nomatch x
 | v :: vs, [], x => nomatch x
theorem filt_eq {α : Type} (l : List α) (p : α → Bool) (f : α → PyData) : (l.map fun a => if p a = true then some (f a) else none).filterMap id = (l.filter p).map f := by
 induction l with
 | nil => rfl
 | cons a r ih =>
  rw [List.map_cons]
  cases hp : p a with
  | true => rw [if_pos rfl, List.filterMap_cons_some (by rfl), List.filter_cons_of_pos hp, List.map_cons, ih]
  | false => rw [if_neg (by simp), List.filterMap_cons_none (by rfl), List.filter_cons_of_neg (by simp [hp]), ih]
section
variable {w : World} {A : Around} {E : Value → Shared → Prop} {s : Shared}
theorem max_nats {l n : Nat} {vs : List Value} {ns : List Nat} {Q : Value → Shared → Prop} (hh : A.handled = none) (hl : s.heap.PlainList l (Value.int ((n : Nat) : Int) t0 :: vs).toArray) (hv : NAre vs ns)
  (h : ∀ s' t, Grow s s' → Q (.int ((ns.foldl max n : Nat) : Int) t) s') : wpAny (Md w) A (call (.builtin "max") [.ref l]) Q E s := by
 obtain ⟨xs, h1, h2⟩ := (NAre.cons n t0 hv).items
 rw [h1] at hl
 have hlen : xs.length = ns.length + 1 := by
  have := congrArg List.length h2
  simpa using this
 refine max_intList hh hl.isList (by simp [hlen]) fun v h' tk hv' hk => ?_
 obtain ⟨t, rfl⟩ := intItems_at hv'
 obtain ⟨a1, a2⟩ := argBest_gt (numAt xs.toArray) (xs.toArray.size - 1)
 have at_ : ∀ j, numAt xs.toArray j = ((n :: ns).getD j 0 : Nat) := fun j => by
  rw [numAt_eq, List.toList_toArray, h2, List.getD_eq_getElem?_getD, List.getD_eq_getElem?_getD, List.getElem?_map]
  cases (n :: ns)[j]? <;> rfl
 generalize hJ : argBest (fun i j => decide (numAt xs.toArray i > numAt xs.toArray j)) (xs.toArray.size - 1) = J at *
 have hJlt : J < (n :: ns).length := by
  rw [List.size_toArray, hlen] at a1
  simp; lia
 have key : numAt xs.toArray J = ((ns.foldl max n : Nat) : Int) := by
  rw [at_]
  congr 1
  refine Nat.le_antisymm ?_ ?_
  ·refine le_foldl ns n _ (List.mem_cons.mp ?_)
   rw [List.getD_eq_getElem?_getD, List.getElem?_eq_getElem hJlt]
   exact List.getElem_mem _
  ·obtain ⟨j, hj, e⟩ := List.getElem_of_mem (foldl_mem ns n)
   have h3 := a2 j (by rw [List.size_toArray, hlen]; simp at hj; lia)
   rw [at_ j, at_ J] at h3
   have h4 : (n :: ns).getD j 0 = ns.foldl max n := by rw [List.getD_eq_getElem?_getD, List.getElem?_eq_getElem hj]; exact e
   rw [h4] at h3
   exact Int.ofNat_le.mp h3
 rw [key]
 exact h _ t ⟨h', tk, rfl, hk⟩
theorem call_best {e : Nat} {l : List (Path × Int)} {x : Path} {t : Tok} {Q : Value → Shared → Prop} (hA : Ok A 850 850) (B : Bs w s.heap) (P : PE w s.heap e l) (hx : x.length ≤ 100000) (hl : l.length ≤ 100000) (hp : ∀ kv ∈ l, kv.1.length ≤ 100000)
  (h : ∀ r s' t1 t2, Grow s s' → s.heap.objs.size ≤ r → s'.heap.get? r = some (tupO [.int (best l x).1 t1, .int ((best l x).2 : Nat) t2]) → Q (.ref r) s') :
  wpAny (Md w) A (call (.ref 287) [.ref e, .str (toS x) t]) Q E s := by
 refine enter (fd := fdL 71 "_law_best" 286) (o := o287p6 w.params) (binds := [("ends", .ref e), ("text", .str (toS x) t)]) B hA (by lia) fun h₁ tk E' V hk hown => ?_
 have hA' := hA.deeper (eBst s.heap.objs.size)
 rw [show callEnvC (fdL 71 "_law_best" 286) s.heap.objs.size 287 = eBst s.heap.objs.size from rfl] at V ⊢
 obtain ⟨m₁, hm₁, V⟩ : ∃ m₁, (m₁ "ends" = some (.ref e) ∧ m₁ "text" = some (.str (toS x) t)) ∧ Vars h₁ (eBst s.heap.objs.size) m₁ := ⟨_, ⟨by rfl, by rfl⟩, V⟩
 have B₁ := B.grow hk
 have P₁ : PE w h₁ e l := P.at' fun o ee => hk _ _ ee
 have hLlt : s.heap.objs.size < h₁.objs.size := let ⟨_, ho⟩ := V.own (.inl rfl); Heap.lt_size ho
 refine wpAny_execs_cons (wpAny_Assign_Name (ev_Call (blt (v := .builtin "max") B₁ (cw_builtin (wpAny_BinOp (ev_List (wpAny_Constant_int ?_)))))))
 generalize hz : tk = tz
 refine fgtW s (h₁.push (lstO [.int 0 tz])) (by rw [← hz]) ⟨rfl, rfl, rfl⟩ fun s₀ x₀ e₀ => ?_
 have k₀ : ∀ c o, h₁.get? c = some o → s₀.heap.get? c = some o := fun c o ee => by rw [e₀]; exact Heap.get?_push_of_some _ ee
 have hZ : s₀.heap.PlainList h₁.objs.size #[.int 0 tz] := ⟨0, by rw [e₀]; exact Heap.get?_push_size _ rfl⟩
 have V₀ := V.grow k₀
 have P₀ : PE w s₀.heap e l := P₁.at' fun o ee => k₀ _ _ ee
 have kS : ∀ c o, s.heap.get? c = some o → s₀.heap.get? c = some o := fun c o ee => k₀ _ _ (hk _ _ ee)
 obtain ⟨kvs, D₀, K₀⟩ := P₀.d
 obtain ⟨ep, es, he, hdk⟩ := DAt.dep D₀
 have hZlt : h₁.objs.size < s₀.heap.objs.size := let ⟨_, ho⟩ := hZ; Heap.lt_size ho
 clear V hz e₀
 generalize h₁.objs.size = Z at *
 have hlow := P.lo
 refine lcompL (s₀ := s₀) (cl := [("text", s.heap.objs.size + 1)]) V₀ (by intro p hp; simp at hp; subst hp; exact ⟨rfl, fun e0 => absurd (show some NameKind.cell = some .local from e0) (by decide)⟩)
  (V₀.rd (v := .ref e) (wpAny_pyIter_dict (knd := sk w) (by simpa [sysModules] using (show e ≠ 1 by lia)) (kvs := kvs) (ep := ep) ⟨_, es, he, ⟨rfl, rfl, rfl⟩, rfl, hdk.keys, hdk.pairs, hdk.nodup⟩
   (comp_keys (c := .type "dict") (dd := none) (sl := #[]) (ds := l.map fun kv => if decide (x.take kv.1.length = kv.1) = true then some (PyData.int (kv.1.length : Nat)) else none) hA'.h (.refl _) (fun _ _ ee => ee) (Nat.le_refl _) ⟨es, he, hdk⟩ (by rw [K₀.len, sizeLine_eq]; lia) (by rw [List.length_map, K₀.len]) ?_ ?_)) hm₁.1)
 ·intro C cenv hcenv hsC it i g u tv od s' m' E'' hkv hod V' hm' k'
  have hloc : cenv.locals = C := by rw [hcenv]; rfl
  have vok : varOk cenv "text" = true ∧ varOk cenv "path" = true ∧ cenv.kindOf "path" = some .local := by rw [hcenv]; exact ⟨rfl, rfl, rfl⟩
  have hkl : cenv.scope.kind = .function ∧ cenv.kindOf "len" = some .globalImplicit ∧ cenv.globals = 3 ∧ cenv.builtins = 0 := by rw [hcenv]; exact ⟨rfl, rfl, rfl, rfl⟩
  obtain ⟨q, n, tn, hq, rfl, rfl⟩ := K₀.get hkv
  have hqs : q.length ≤ 100000 := hp _ (List.mem_of_getElem? hq)
  have hod' : od = if decide (x.take q.length = q) = true then some (PyData.int (q.length : Nat)) else none := by
   rw [List.getElem?_map, hq] at hod
   exact (Option.some.inj hod).symm
  clear hod hkv hq
  refine turn_name hloc vok.2.2 (fun y hy => by
   simp only [List.lookup] at hy
   split at hy
   ·rename_i h2; rw [beq_iff_eq.mp h2]; decide
   ·cases hy) V' hm' hsC k' fun s₃ m₃ G1 G0 V₃ hx₃ hm₃ k₃ hC₃ g1 g0 => ?_
  have htx₃ : m₃ "text" = some (.str (toS x) t) := (hm₃ "text" rfl).trans hm₁.2
  have Bs₃ : Bs w s₃.heap := B.grow fun b o ee => k₃ b o (kS b o ee)
  clear V' hm' k' hm₃
  refine wpAny_tests_one (wpAny_isTrue_Compare1 (ev_slice (V₃.rd (v := .str (toS x) t) (wpAny_pure (ev_Call (blt (v := .builtin "len") Bs₃ (cw_builtin (V₃.rd (v := .str (toS q) tv) (len_str (by rw [toS_len]; lia) ?_) hx₃ rfl vok.2.1)) (by kernel_rfl) (by kernel_rfl) hkl.1 hkl.2.1 hkl.2.2.1 hkl.2.2.2))) htx₃ rfl vok.1)))
  rw [toS_len]
  refine ⟨x, t, none, some ((q.length : Int), _), rfl, rfl, rfl, hx, fun s₄ t₄ g₄ => ?_⟩
  simp only [Option.map_none, Option.map_some]
  rw [psl_to']
  have g₄' : Grow s₃ s₄ := Grow.trans ⟨_, _, rfl, fun _ _ ee => ee⟩ g₄
  have V₄ := V₃.grow g₄'.keep
  refine V₄.rd (v := .str (toS q) tv) (PyProof.Rows.eq_str (wpAny_truthy_bool ?_)) hx₃ rfl vok.2.1
  by_cases hyes : x.take q.length = q
  ·rw [if_pos (show (toS (x.take q.length) == toS q) = true by rw [hyes]; simp)]
   rw [if_pos (decide_eq_true hyes)] at hod'
   refine ev_Call (blt (v := .builtin "len") (Bs₃.grow g₄'.keep) (cw_builtin (V₄.rd (v := .str (toS q) tv) (len_str (by rw [toS_len]; lia) ?_) hx₃ rfl vok.2.1)) (by kernel_rfl) (by kernel_rfl) hkl.1 hkl.2.1 hkl.2.2.1 hkl.2.2.2)
   rw [toS_len]
   exact g1 _ _ _ hod' (g₄'.trans ⟨_, _, rfl, fun _ _ ee => ee⟩) (.int _ _)
  ·have hf : (toS (x.take q.length) == toS q) = false := by
    rw [beq_eq_false_iff_ne]
    exact fun ee => hyes (toS_inj ee)
   rw [hf, if_neg (by simp)]
   rw [if_neg (by simpa using hyes)] at hod'
   exact g0 _ hod' g₄'
 ·rw [filt_eq]
  intro D s' ys gg hD hP hI
  have hI : NAre ys (lens l x) := nare_of (by unfold lens; rw [List.map_map]; exact hI)
  have x' := gg.sx
  have k' := gg.keep
  have hZ' := hZ.at fun o ee => k' _ _ ee
  obtain ⟨nZ, eZ⟩ := hZ'
  obtain ⟨nP, eP⟩ := hP
  have hlen : ys.length ≤ l.length := by
   have : ∀ {vs : List Value} {ns : List Nat}, NAre vs ns → vs.length = ns.length := fun y => by
    induction y with
    | nil => rfl
    | cons _ _ _ ih => rw [List.length_cons, List.length_cons, ih]
   rw [this hI]
   unfold lens
   rw [List.length_map]
   exact List.length_filter_le _ _
  refine PySem.P.add_list eZ eP ?_ (by rw [List.size_toArray, sizeLine_eq]; simp; lia)
  have hpl : (s'.heap.push { cls := .type "list", data := .seq (#[Value.int 0 tz] ++ ys.toArray) }).PlainList s'.heap.objs.size (Value.int ((0 : Nat) : Int) tz :: ys).toArray := ⟨0, by
   rw [show (Value.int ((0 : Nat) : Int) tz :: ys).toArray = #[Value.int 0 tz] ++ ys.toArray from by simp]
   exact Heap.get?_push_size _ rfl⟩
  refine max_nats (n := 0) (t0 := tz) (vs := ys) (ns := lens l x) hA'.h (hpl) hI fun s₅ t₅ g₅ => ?_
  have k₅ : ∀ b o, s₀.heap.get? b = some o → s₅.heap.get? b = some o := fun b o ee => g₅.keep _ _ (Heap.get?_push_of_some _ (k' b o ee))
  have V₅ := V₀.grow k₅
  refine V₅.sxl (x := "size") (fun s₆ x₆ V₆ k₆ => ?_)
  have hloc : (eBst s.heap.objs.size).locals = s.heap.objs.size := rfl
  rw [hloc] at k₆
  have neL : ∀ c o, s.heap.get? c = some o → c ≠ s.heap.objs.size := fun c o ee => Nat.ne_of_lt (Heap.lt_size ee)
  have kS₆ : ∀ b o, s.heap.get? b = some o → s₆.heap.get? b = some o := fun b o ee => k₆ b o (neL b o ee) (k₅ b o (kS b o ee))
  have P₆ : PE w s₆.heap e l := P.at' fun o ee => kS₆ _ _ ee
  have hm₆ : set m₁ "size" (.int ((lens l x).foldl max 0 : Nat) t₅) "ends" = some (.ref e) ∧ set m₁ "size" (.int ((lens l x).foldl max 0 : Nat) t₅) "text" = some (.str (toS x) t) := ⟨(set_ne (by decide)).trans hm₁.1, (set_ne (by decide)).trans hm₁.2⟩
  have hsz₆ : set m₁ "size" (.int ((lens l x).foldl max 0 : Nat) t₅) "size" = some (.int ((lens l x).foldl max 0 : Nat) t₅) := set_self
  generalize set m₁ "size" (.int ((lens l x).foldl max 0 : Nat) t₅) = m₆ at *
  obtain ⟨kvs₆, D₆, K₆⟩ := P₆.d
  rw [show (lens l x).foldl max 0 = bestN l x from rfl] at hsz₆
  refine wpAny_execs_cons (wpAny_Return_some (ev_Tuple (ev_Method (V₆.rd (v := .ref e) (fun pl => pd_getm D₆ (cw_builtin (ev_slice (V₆.rd (v := .str (toS x) t) (wpAny_pure (V₆.rd (v := .int (bestN l x : Nat) t₅) ⟨x, t, none, some ((bestN l x : Nat), t₅), rfl, rfl, rfl, hx, fun s₇ t₇ g₇ => ?_⟩ hsz₆)) hm₆.2)))) hm₆.1))))
  simp only [Option.map_none, Option.map_some]
  rw [psl_to']
  have k₇ : ∀ c o, s₆.heap.get? c = some o → s₇.heap.get? c = some o := g₇.keep
  refine wpAny_Constant_int (pd_get (D₆.at fun o ee => k₇ _ _ ee) P.lo ?_)
  obtain ⟨n, tn, hn, hv⟩ : ∃ n tn, (look l (x.take (bestN l x))).getD 0 = n ∧ (valueAt kvs₆ (toS (x.take (bestN l x)))).getD (.int 0 s₇.toks) = .int n tn := by
   rcases K₆.at (p := x.take (bestN l x)) with ⟨n, tn, h1, h2⟩ | ⟨h1, h2⟩
   ·exact ⟨n, tn, by rw [h1]; rfl, by rw [h2]; rfl⟩
   ·exact ⟨0, s₇.toks, by rw [h1]; rfl, by rw [h2]; rfl⟩
  rw [hv]
  refine (V₆.grow k₇).rd (v := .int (bestN l x : Nat) t₅) ?_ hsz₆
  refine h s₇.heap.objs.size _ tn t₅ (Sx.grow ?_ fun b o ee => Heap.get?_push_of_some _ (k₇ _ _ (kS₆ _ _ ee))) ?_ ?_
  ·exact ((x₀.trans x').trans (Sx.trans (s' := { s' with heap := s'.heap.push { cls := .type "list", data := .seq (#[Value.int 0 tz] ++ ys.toArray) } }) ⟨rfl, rfl, rfl⟩ g₅.sx)).trans (x₆.trans (g₇.sx.trans ⟨rfl, rfl, rfl⟩))
  ·obtain ⟨o, ho⟩ := V₆.own (.inl rfl)
   exact Nat.le_of_lt (Heap.lt_size (k₇ _ _ ho))
  ·rw [show (best l x).1 = n from hn]
   exact Heap.get?_push_size _ rfl
end
end
section
noncomputable abbrev celO : Obj := { cls := .type "cell", data := .cell none }
noncomputable def addN (nx : Option Str) (n : Nat) (cl : List (Str × Addr)) : List (Str × Addr) := match nx with
 | none => cl
 | some x => (x, n) :: cl
noncomputable def pushN (nx : Option Str) (h : Heap) : Heap := match nx with
 | none => h
 | some _ => h.push celO
noncomputable def cntN (nx : Option Str) : Nat := match nx with
 | none => 0
 | some _ => 1
theorem nfe_cells {M : Model} {A : Around} {E : Value → Shared → Prop} {s : Shared} {scope : Scope} {globals : Addr} {cl : List (Str × Addr)} {qual : Str} {env : Env} {Q : Env → Shared → Prop}
  (hQ : Q { scope, locals := s.heap.objs.size, globals, cells := cellsFrom (s.heap.objs.size + 1) scope.names cl, qual, func := none, code := env.code, frame := env.frame, builtins := env.builtins } { s with heap := pushCells (s.heap.push { cls := .type "dict", data := .dict #[] }) scope.names }) :
  wpAny M A (newFunctionEnv scope globals cl [] qual none .none (some env)) Q E s := by
 simp only [newFunctionEnv, Option.isSome_some, if_true]
 refine wpAny_bind (wpAny_alloc ?_)
 refine wpAny_bind (wpAny_layCells _ (fun name kind cells => by cases hkc : kind == NameKind.cell <;> simp [hkc]) _ _ _ _ ?_)
 rw [show ({ s with heap := s.heap.push { cls := .type "dict", data := .dict #[] } } : Shared).heap.objs.size = s.heap.objs.size + 1 from Heap.size_push ..]
 refine wpAny_bind ?_
 rw [List.forIn_nil]
 exact wpAny_pure (wpAny_pure hQ)
section
variable {w : World} {A : Around} {E : Value → Shared → Prop} {s : Shared} {env : Env}
def LeftD (C lo : Nat) (s' s₄ : Shared) : Prop := ∀ b o, ¬ (C ≤ b ∧ b < lo) → s'.heap.get? b = some o → s₄.heap.get? b = some o
inductive DcI (w : World) (A : Around) (cl : List (Str × Addr)) (kx vx target : Expr) (ifs : List Expr) (m : Str → Option Value) (s₀ : Shared) (n : Nat) (P : Nat → Value → Prop) (Q : Value → Shared → Prop) (D C lo : Nat) (cenv : Env) : Prop
 | mk (I : Nat → KVs → Heap → Prop) (stab : ∀ i kvs h h', I i kvs h → (∀ b o, lo ≤ b → h.get? b = some o → h'.get? b = some o) → I i kvs h') (I0 : ∀ h, I 0 [] h)
  (step : ∀ i v kvs s' E' (G1 : Value → Value → Shared → Prop) (G0 : Shared → Prop), i < n → P i v → Comp s₀ cl cenv m lo s' → I i kvs s'.heap → kvs.length ≤ i →
   (∀ k t y s₅, LeftD C lo s' s₅ → Comp s₀ cl cenv m lo s₅ → I (i + 1) (stored kvs k y) s₅.heap → G1 (.str k t) y s₅) → (∀ s₃, LeftD C lo s' s₃ → Comp s₀ cl cenv m lo s₃ → I (i + 1) kvs s₃.heap → G0 s₃) →
   wpAny (Md w) A (assign target cenv v) (fun _ s₂ => wpAny (Md w) A (testsOf ifs cenv) (fun ok s₃ => if ok = true then wpAny (Md w) A (eval kx cenv) (fun kv s₄ => wpAny (Md w) A (eval vx cenv) (G1 kv) E' s₄) E' s₃ else G0 s₃) E' s₂) E' s')
  (fin : ∀ kvs s', Grow s₀ s' → I n kvs s'.heap → PD w s'.heap D kvs → Q (.ref D) s') : DcI w A cl kx vx target ifs m s₀ n P Q D C lo cenv
inductive DcIt (w : World) (A : Around) (env : Env) (scope : Scope) (cl : List (Str × Addr)) (nx : Option Str) (kx vx target : Expr) (ifs : List Expr) (m : Str → Option Value) (s₀ : Shared) (Q : Value → Shared → Prop) (itv : Value) (s₂ : Shared) : Prop
 | mk (it : Addr) (fp wr : List Addr) (n : Nat) (P : Nat → Value → Prop) (St : Nat → Heap → Prop) (e : itv = .ref it) (W : Walks pw w A it fp wr n P St) (hn : n ≤ sizeLine) (hst : St 0 s₂.heap) (hfp : ∀ b ∈ fp, b < s₂.heap.objs.size) (x₂ : Sx s₀ s₂)
  (k₂ : ∀ b o, s₀.heap.get? b = some o → s₂.heap.get? b = some o) (hwr : ∀ b ∈ wr, s₀.heap.objs.size ≤ b) (hz : s₀.heap.objs.size ≤ s₂.heap.objs.size)
  (go : ∀ D C lo cenv, cenv = { compEnvC scope cl C env with cells := addN nx (C + 1) cl } → s₀.heap.objs.size ≤ D → lo = C + 1 + cntN nx → s₀.heap.objs.size ≤ C → DcI w A cl kx vx target ifs m s₀ n P Q D C lo cenv) : DcIt w A env scope cl nx kx vx target ifs m s₀ Q itv s₂
inductive DcInv (w : World) (s₀ : Shared) (cl : List (Str × Addr)) (cenv : Env) (m : Str → Option Value) (lo D n : Nat) (I : Nat → KVs → Heap → Prop) (St : Nat → Heap → Prop) (k : Nat) (s' : Shared) : Prop
 | mk (i : Nat) (kvs : KVs) (hi : i ≤ n) (e : k = n - i) (hl : kvs.length ≤ i) (c : Comp s₀ cl cenv m lo s') (hI : I i kvs s'.heap) (st : St i s'.heap) (p : PD w s'.heap D kvs) : DcInv w s₀ cl cenv m lo D n I St k s'
theorem Comp.mv {s₀ s' : Shared} {cl : List (Str × Addr)} {cenv : Env} {m : Str → Option Value} {lo : Nat} {X : Nat → Prop} (c : Comp s₀ cl cenv m lo s') (h' : Heap) (tk : Nat) (szC : ∀ {h' : Heap} {m' : Str → Option Value}, Vars h' cenv m' → lo ≤ h'.objs.size) (kB : ∀ b o, ¬ X b → s'.heap.get? b = some o → h'.get? b = some o) (old : ∀ b o, s₀.heap.get? b = some o → ¬ X b) (hOwn : ∀ b, OwnA cenv b → ¬ X b) : Comp s₀ cl cenv m lo { s' with heap := h', toks := tk } :=
 let ⟨m', V', hm'⟩ := c.v
 have V'' : Vars h' cenv m' := V'.keep fun b o hb e => kB b o (hOwn b hb) e
 ⟨c.x.trans .of, fun b o e => kB b o (old b o e) (c.k b o e), ⟨m', V'', hm'⟩, szC V''⟩
theorem dcompV {kx vx target iter : Expr} {ifs : List Expr} {scope : Scope} {pos : Pos} {cl : List (Str × Addr)} {m : Str → Option Value} {s₀ : Shared} {Q : Value → Shared → Prop} (nx : Option Str) (V : Vars s₀.heap env m)
  (hcl : ∀ p ∈ cl, env.cells.lookup p.1 = some p.2 ∧ (relabel scope env).names.lookup p.1 ≠ some .local)
  (hnx : ∀ x, nx = some x → cl.lookup x = none ∧ (relabel scope env).names.lookup x ≠ some .local)
  (h : wpAny (Md w) A (eval iter env) (fun xv s₁ => wpAny (Md w) A (pyIter xv) (DcIt w A env scope cl nx kx vx target ifs m s₀ Q) E s₁) E s)
  (hcf : ∀ n, cellsFrom n scope.names cl = addN nx n cl := by intro _; rfl) (hpc : ∀ h, pushCells h scope.names = pushN nx h := by intro _; rfl)
  (hclos : closureFor scope env = pure cl := by kernel_rfl) (hs : ∀ x, foldedSetIterable iter env x = pure x := by intro _; rfl) (hkind : scope.kind = .function := by rfl) (ht : ∀ it v, letOwnedTupleGo target it v = pure () := by intro _ _; rfl)
  (hnames : (scope.names.all fun x => x.2 != .local || scope.names.lookup x.1 == some .local) = true := by rfl) :
  wpAny (Md w) A (eval (.DictComp kx vx [⟨target, iter, ifs, 0⟩] scope pos) env) Q E s := by
 rw [arm_eval_DictComp]
 refine wpAny_comprehension_free (use := none) rfl hs hclos hkind (fun x hx hl => ?_) (wpAny_mono h (fun xv s₁ h₁ => wpAny_mono h₁ (fun itv s₂ h₂ => ?_) fun _ _ e => e) fun _ _ e => e)
 ·have := List.all_eq_true.mp hnames x hx
  rw [hl] at this
  simpa using this
 obtain ⟨it, fp, wr, n, P, St, rfl, W, hn, hst, hfp, x₂, k₂, hwr, hs₂, go⟩ := h₂
 show wpAny _ _ (newDict) _ _ s₂
 refine wpAny_newObj_type (nfe_cells ?_)
 rw [hcf, hpc, show (s₂.heap.push { cls := .type "dict", dict := none, data := .dict #[] }).objs.size = s₂.heap.objs.size + 1 from Heap.size_push ..]
 have szp : ∀ (h : Heap) (o : Obj), (h.push o).objs.size = h.objs.size + 1 := fun h o => Heap.size_push ..
 have facts : ∃ h₀, pushN nx ((s₂.heap.push { cls := .type "dict", dict := none, data := .dict #[] }).push { cls := .type "dict", data := .dict #[] }) = h₀ ∧ h₀.objs.size = s₂.heap.objs.size + 1 + 1 + cntN nx ∧ (∀ b o, s₂.heap.get? b = some o → h₀.get? b = some o) ∧ PD w h₀ s₂.heap.objs.size [] ∧ h₀.Ns (s₂.heap.objs.size + 1) (fun _ => none) ∧ ∀ x, nx = some x → h₀.IsCell (s₂.heap.objs.size + 1 + 1) none := by
  refine ⟨_, rfl, ?_, ?_, ?_, ?_, ?_⟩
  ·cases nx <;> simp only [pushN, cntN, szp]
  ·intro b o e
   cases nx <;> simp only [pushN]
   ·exact Heap.get?_push_of_some _ (Heap.get?_push_of_some _ e)
   ·exact Heap.get?_push_of_some _ (Heap.get?_push_of_some _ (Heap.get?_push_of_some _ e))
  ·refine ⟨#[], 0, ?_, DK.nil w⟩
   cases nx <;> simp only [pushN]
   ·exact Heap.get?_push_of_some _ (Heap.get?_push_size _ rfl)
   ·exact Heap.get?_push_of_some _ (Heap.get?_push_of_some _ (Heap.get?_push_size _ rfl))
  ·have := Heap.Ns.new (s₂.heap.push { cls := .type "dict", dict := none, data := .dict #[] }) (.type "dict")
   rw [szp] at this
   cases nx <;> simp only [pushN]
   ·exact this
   ·exact this.keeps fun b o e => Heap.get?_push_of_some _ e
  ·rintro x rfl
   refine ⟨celO, ?_, rfl⟩
   have := Heap.get?_push_size ((s₂.heap.push { cls := .type "dict", dict := none, data := .dict #[] }).push { cls := .type "dict", data := .dict #[] }) (o := celO) rfl
   rw [szp, szp] at this
   exact this
 obtain ⟨h₀, eh, hsz, hk₀, hDo, hCo, hcell⟩ := facts
 rw [eh]
 clear eh szp
 generalize s₂.heap.objs.size = D at *
 have hDC : D < D + 1 := Nat.lt_succ_self _
 generalize D + 1 = C at *
 have hC' : s₀.heap.objs.size ≤ C := Nat.le_trans hs₂ (Nat.le_of_lt hDC)
 have hClo : C < C + 1 + cntN nx := Nat.lt_of_lt_of_le (Nat.lt_succ_self _) (Nat.le_add_right _ _)
 have henv : ({ ({ scope, locals := C, globals := env.globals, cells := addN nx (C + 1) cl, qual := env.qual, func := none, code := env.code, frame := env.frame, builtins := env.builtins } : Env) with scope := relabel scope env } : Env) = { compEnvC scope cl C env with cells := addN nx (C + 1) cl } := rfl
 obtain ⟨I, stab, I0, step, fin⟩ := go D C _ _ rfl hs₂ rfl hC'
 show codeAny _ _ (.compStart _ 0 _ _ ({ ({ scope, locals := C, globals := env.globals, cells := addN nx (C + 1) cl, qual := env.qual, func := none, code := env.code, frame := env.frame, builtins := env.builtins } : Env) with scope := relabel scope env } : Env)) (compPost (Md w) A E none Q (.ref D) C) _
 rw [henv]
 clear henv
 have hloc : ({ compEnvC scope cl C env with cells := addN nx (C + 1) cl } : Env).locals = C := rfl
 have hcells : ({ compEnvC scope cl C env with cells := addN nx (C + 1) cl } : Env).cells = addN nx (C + 1) cl := rfl
 have hkO : ∀ y, ({ compEnvC scope cl C env with cells := addN nx (C + 1) cl } : Env).kindOf y = (relabel scope env).names.lookup y := fun y => rfl
 have hkd : ({ compEnvC scope cl C env with cells := addN nx (C + 1) cl } : Env).scope.kind = .function := hkind
 generalize ({ compEnvC scope cl C env with cells := addN nx (C + 1) cl } : Env) = cenv at *
 have old : ∀ b o, s₀.heap.get? b = some o → b < s₀.heap.objs.size := fun b o e => Heap.lt_size e
 have oldD : ∀ b o, s₀.heap.get? b = some o → ¬ b = D := fun b o e => Nat.ne_of_lt (Nat.lt_of_lt_of_le (old b o e) hs₂)
 have oldw : ∀ b o, s₀.heap.get? b = some o → ¬ b ∈ wr := fun b o e hw => Nat.lt_irrefl _ (Nat.lt_of_lt_of_le (old b o e) (hwr b hw))
 have wlt : ∀ b ∈ wr, b < D := fun b hb => hfp b (W.sub b hb)
 have lk : ∀ y c, cenv.cells.lookup y = some c → (nx = some y ∧ c = C + 1) ∨ (nx ≠ some y ∧ cl.lookup y = some c) := by
  intro y c e
  rw [hcells] at e
  cases hx : nx with
  | none => rw [hx] at e; exact .inr ⟨by simp, e⟩
  | some x =>
   rw [hx] at e
   simp only [addN, List.lookup] at e
   split at e
   ·rename_i q; have q := beq_iff_eq.mp q; subst q; cases e; exact .inl ⟨rfl, rfl⟩
   ·rename_i q; exact .inr ⟨fun e2 => by cases e2; simp at q, e⟩
 have hOwn0 : ∀ b, OwnA cenv b → D < b ∨ ∃ o, s₀.heap.get? b = some o := by
  rintro c (ex | ⟨y, ex⟩)
  ·exact .inl (by rw [ex, hloc]; exact hDC)
  ·rcases lk y c ex with ⟨_, rfl⟩ | ⟨_, ex⟩
   ·exact .inl (Nat.lt_succ_of_lt hDC)
   ·obtain ⟨o, ho, _⟩ := V.cell y c (hcl _ (mem_of_lookup ex)).1
    exact .inr ⟨o, ho⟩
 have ownD : ∀ b, OwnA cenv b → ¬ b = D := fun b hb => (hOwn0 b hb).elim (fun e => Nat.ne_of_gt e) fun ⟨o, e⟩ => oldD b o e
 have ownw : ∀ b, OwnA cenv b → ¬ b ∈ wr := fun b hb => (hOwn0 b hb).elim (fun e hw => Nat.lt_irrefl _ (Nat.lt_trans e (wlt b hw))) fun ⟨o, e⟩ => oldw b o e
 have V₀ : Vars h₀ cenv (fun x => if (cl.lookup x).isSome then m x else none) := by
  refine ⟨hkd, ⟨_, by rw [hloc]; exact hCo, fun y hy => ?_⟩, fun y c e => ?_, fun y z c ey ez => ?_, fun y c e => ?_, fun y c e => ?_⟩
  ·cases e : cl.lookup y with
   | none => rfl
   | some c => exact absurd ((hkO y).symm.trans hy) (hcl _ (mem_of_lookup e)).2
  ·rcases lk y c e with ⟨e1, rfl⟩ | ⟨_, e1⟩
   ·rw [(hnx y e1).1]; exact hcell y e1
   ·rw [e1]
    exact (V.cell y c (hcl _ (mem_of_lookup e1)).1).keeps fun b o eo => hk₀ b o (k₂ b o eo)
  ·have nw : ∀ y z, cl.lookup y = some (C + 1) → nx = some z → False := fun y z e1 e2 => by
    obtain ⟨o, ho, _⟩ := V.cell y _ (hcl _ (mem_of_lookup e1)).1
    exact absurd (Heap.lt_size ho) (Nat.not_lt.mpr (Nat.le_succ_of_le hC'))
   rcases lk y c ey with ⟨e1, rfl⟩ | ⟨_, e1⟩ <;> rcases lk z _ ez with ⟨e2, e3⟩ | ⟨_, e2⟩
   ·exact Option.some.inj (e1.symm.trans e2)
   ·exact (nw z y e2 e1).elim
   ·exact (nw y z (e3 ▸ e1) e2).elim
   ·exact V.apart y z c (hcl _ (mem_of_lookup e1)).1 (hcl _ (mem_of_lookup e2)).1
  ·rw [hloc]
   rcases lk y c e with ⟨e1, rfl⟩ | ⟨_, e1⟩
   ·exact Nat.succ_ne_self _
   ·obtain ⟨o, ho, _⟩ := V.cell y c (hcl _ (mem_of_lookup e1)).1
    exact Nat.ne_of_lt (Nat.lt_of_lt_of_le (old _ o ho) hC')
  ·rw [hkO]
   rcases lk y c e with ⟨e1, rfl⟩ | ⟨_, e1⟩
   ·exact (hnx y e1).2
   ·exact (hcl _ (mem_of_lookup e1)).2
 have szC : ∀ {h' : Heap} {m' : Str → Option Value}, Vars h' cenv m' → C + 1 + cntN nx ≤ h'.objs.size := by
  intro h' m' V'
  cases hx : nx with
  | none =>
   obtain ⟨o, ho⟩ := V'.own (.inl rfl)
   rw [hloc] at ho
   exact Heap.lt_size ho
  | some x =>
   obtain ⟨o, ho, _⟩ := V'.cell x (C + 1) (by rw [hcells, hx]; simp [addN, List.lookup])
   exact Heap.lt_size ho
 clear lk hcells hkO hkd hnx hOwn0 hcell hCo hcl go
 generalize C + 1 + cntN nx = lo at *
 have loop : codeAny (Md w) A (.compLoop (.DictComp kx vx [⟨target, iter, ifs, 0⟩] scope pos) 0 (.ref it) (.ref D) cenv) (compPost (Md w) A E none Q (.ref D) C) { s₂ with heap := h₀ } := by
  refine codeAny_compLoop_testsD (DcInv w s₀ cl cenv m lo D n I St) ?_ n ⟨0, [], Nat.zero_le _, rfl, Nat.le_refl _, ⟨x₂.trans .of, fun b o e => hk₀ b o (k₂ b o e), ⟨_, V₀, fun x hx => if_pos hx⟩, szC V₀⟩, I0 _, W.frame _ _ _ hst (fun b _ o e => hk₀ b o e), hDo⟩ (ht (.ref it))
  clear V₀ hDo hk₀ hsz I0
  rintro k s' ⟨i, kvs, hi, rfl, hlen, c, hI, hS', hP⟩
  by_cases hlt : i < n
  ·refine W.item i s' _ _ hlt hS' fun v h' tk hPv hS'' hk => ?_
   have kB : ∀ b o, ¬ b ∈ wr → s'.heap.get? b = some o → h'.get? b = some o := fun b o hb e => hk b o hb e
   have c' := c.mv h' tk szC kB oldw ownw
   have hI' : I i kvs h' := stab _ _ _ _ hI fun b o hb e => kB b o (fun hw => Nat.lt_irrefl _ (Nat.lt_of_lt_of_le (Nat.lt_trans (Nat.lt_trans (wlt b hw) hDC) hClo) hb)) e
   have hP' : PD w h' D kvs := hP.at fun o e => kB _ o (fun hw => Nat.lt_irrefl _ (wlt D hw)) e
   clear hk kB c hI hP hS'
   have key : ∀ {s₄ : Shared}, LeftD C lo { s' with heap := h', toks := tk } s₄ → St (i + 1) s₄.heap ∧ PD w s₄.heap D kvs := fun k₄ =>
    ⟨W.frame _ _ _ hS'' fun b hb o e => k₄ b o (fun e1 => Nat.lt_irrefl _ (Nat.lt_of_lt_of_le (Nat.lt_trans (hfp b hb) hDC) e1.1)) e, hP'.at fun o e => k₄ D o (fun e1 => Nat.lt_irrefl _ (Nat.lt_of_lt_of_le hDC e1.1)) e⟩
   refine step i v kvs { s' with heap := h', toks := tk } _ _ _ hlt hPv c' hI' hlen (fun kk tt y s₅ k₅ c₅ I₅ => ?_) fun s₃ k₃ c₃ I₃ => ?_
   ·refine dict_set (key k₅).2 (by rw [sizeLine_eq] at *; lia) fun h₆ D₆ S₆ => ?_
    have kD : ∀ b o, ¬ b = D → s₅.heap.get? b = some o → h₆.get? b = some o := fun b o hb e => (S₆.2 b hb).trans e
    refine ⟨n - (i + 1), by lia, i + 1, _, hlt, rfl, ?_, c₅.mv h₆ _ szC kD oldD ownD, stab _ _ _ _ I₅ fun b o hb e => kD b o (Nat.ne_of_gt (Nat.lt_of_lt_of_le (Nat.lt_trans hDC hClo) hb)) e, W.frame _ _ _ (key k₅).1 (fun b hb o e => kD b o (Nat.ne_of_lt (hfp b hb)) e), D₆⟩
    have e1 := stored_length_le kvs kk y
    lia
   ·exact ⟨n - (i + 1), by lia, i + 1, kvs, hlt, rfl, Nat.le_succ_of_le hlen, c₃, I₃, (key k₃).1, (key k₃).2⟩
  ·have : i = n := by lia
   subst this
   refine W.done s' _ _ hS' fun h' tk hk => ?_
   have kB : ∀ b o, ¬ b ∈ wr → s'.heap.get? b = some o → h'.get? b = some o := fun b o hb e => hk b o hb e
   have c' := c.mv h' tk szC kB oldw ownw
   obtain ⟨m', V', hm'⟩ := c'.v
   obtain ⟨ml, hnC, _⟩ := V'.ns
   rw [hloc] at hnC
   refine ⟨ml, hnC, fun h'' hS => ?_⟩
   have kC : ∀ b o, b ≠ C → h'.get? b = some o → h''.get? b = some o := fun b o hb e => (hS.2 b hb).trans e
   refine fin kvs _ (Sx.grow (c'.x.trans .of) fun b o e => kC b o (Nat.ne_of_lt (Nat.lt_of_lt_of_le (old b o e) hC')) (c'.k b o e)) (stab _ _ _ _ hI fun b o hb e => kC b o (Nat.ne_of_gt (Nat.lt_of_lt_of_le hClo hb)) (kB b o (fun hw => Nat.lt_irrefl _ (Nat.lt_of_lt_of_le (Nat.lt_trans (Nat.lt_trans (wlt b hw) hDC) hClo) hb)) e)) (hP.at fun o e => kC D o (Nat.ne_of_lt hDC) (kB D o (fun hw => Nat.lt_irrefl _ (wlt D hw)) e))
 exact codeAny_compStart_dict loop (W.self 0 _ _ _ (W.frame _ _ _ hst fun b _ o e => hk₀ b o e) loop)
theorem dc_keys {scope : Scope} {kx vx target : Expr} {ifs : List Expr} {nx : Option Str} {cl : List (Str × Addr)} {m : Str → Option Value} {Q : Value → Shared → Prop} {a : Nat} {kvs : KVs} (hh : A.handled = none) (D : PD w s.heap a kvs) (ha : 303 ≤ a) (hn : kvs.length ≤ sizeLine)
  (go : ∀ D C lo cenv, cenv = { compEnvC scope cl C env with cells := addN nx (C + 1) cl } → s.heap.objs.size ≤ D → lo = C + 1 + cntN nx → s.heap.objs.size ≤ C → DcI w A cl kx vx target ifs m s kvs.length (fun i v => ∃ k u t, kvs[i]? = some (k, u) ∧ v = .str k t) Q D C lo cenv) :
  wpAny (Md w) A (pyIter (.ref a)) (DcIt w A env scope cl nx kx vx target ifs m s Q) E s := by
 obtain ⟨ep, es, he, hdk⟩ := DAt.dep D
 refine wpAny_pyIter_dict (knd := sk w) (by simpa [sysModules] using (show a ≠ 1 by lia)) (kvs := kvs) (ep := ep) ⟨_, es, he, ⟨rfl, rfl, rfl⟩, rfl, hdk.keys, hdk.pairs, hdk.nodup⟩ ?_
 have hlt : a < s.heap.objs.size := Heap.lt_size he
 have hsp : ∀ o, (s.heap.push o).objs.size = s.heap.objs.size + 1 := fun o => Heap.size_push ..
 refine ⟨s.heap.objs.size, _, _, kvs.length, _, _, rfl, nodeKeys (w := w) (c := .type "dict") (dd := none) (sl := #[]) hh s.heap.objs.size a (Nat.ne_of_lt hlt) kvs ep, hn, ⟨Heap.get?_push_size _ rfl, ⟨es, Heap.get?_push_of_some _ he, hdk⟩⟩, fun b hb => ?_, ⟨rfl, rfl, rfl⟩, fun b o ee => Heap.get?_push_of_some _ ee, fun b hb => ?_, ?_, go⟩
 ·show b < (s.heap.push _).objs.size
  rw [hsp]
  simp only [List.mem_cons, List.not_mem_nil, or_false] at hb
  rcases hb with rfl | rfl
  ·exact Nat.lt_succ_self _
  ·exact Nat.lt_succ_of_lt hlt
 ·simp only [List.mem_cons, List.not_mem_nil, or_false] at hb
  rw [hb]; exact Nat.le_refl _
 ·show s.heap.objs.size ≤ (s.heap.push _).objs.size
  rw [hsp]; exact Nat.le_succ _
end
end
section
noncomputable def ePln (L : Nat) : Env := callEnvC (fdL 72 "_law_plain" 291) L 292
noncomputable def scB : Scope := { kind := .function, names := [(".0", .local), ("path", .cell), ("len", .globalImplicit), ("below", .free), ("word", .free)], isGenerator := false, isCoroutine := false, more := [] }
noncomputable def scK : Scope := { kind := .function, names := [(".0", .local), ("sign", .local), ("path", .free), ("word", .free)], isGenerator := false, isCoroutine := false, more := [] }
noncomputable def clB (L : Nat) : List (Str × Addr) := [("word", L + 3), ("below", L + 1)]
noncomputable def cenvB (L C : Nat) : Env := { compEnvC scB (clB L) C (ePln L) with cells := addN (some "path") (C + 1) (clB L) }
section
variable {w : World} {A : Around} {E : Value → Shared → Prop} {s : Shared}
theorem comp_kids {L C b : Nat} {m : Str → Option Value} {l : List (Path × List Path)} {κ : Path → Nat} {p x : Path} {bs : List Path} {t1 t2 : Tok} {Q : Value → Shared → Prop} {p1 p2 p3 p4 p5 p6 p7 p8 p9 p10 pos : Pos} (hh : A.handled = none) (V : Vars s.heap (cenvB L C) m) (P : PB w s.heap b l κ) (nd : (l.map (·.1)).Nodup)
  (hp : m "path" = some (.str (toS p) t1)) (hw : m "word" = some (.str (toS x) t2)) (hb : m "below" = some (.ref b)) (hm : (p, bs) ∈ l) (hbl : bs.length ≤ 100000) (hpl : p.length ≤ 1000) (hgl : ∀ g ∈ bs, g.length ≤ 1)
  (h : ∀ r s' ys, Grow s s' → s.heap.objs.size ≤ r → s'.heap.PlainList r ys.toArray → StrsAre ys ((bs.filter fun g => decide (p ++ g ≠ x)).map toS) → Q (.ref r) s') :
  wpAny (Md w) A (eval (.ListComp (.Name "sign" p1) [⟨.Name "sign" p2, .Subscript (.Name "below" p3) (.Name "path" p4) p5, [.Compare (.BinOp (.Name "path" p6) .Add (.Name "sign" p7) p8) [.NotEq] [.Name "word" p9] p10], 0⟩] scK pos) (cenvB L C)) Q E s := by
 obtain ⟨vs, hP, hs⟩ := P.k p bs hm
 have hvl : vs.length = bs.length := by rw [StrsAre.len hs, List.length_map]
 refine lcompL (s₀ := s) (cl := [("word", L + 3), ("path", C + 1)]) V (by
  intro p hp; simp at hp
  rcases hp with rfl | rfl
  all_goals exact ⟨rfl, fun e0 => absurd (show some NameKind.cell = some .local from e0) (by decide)⟩) (ev_Sub (V.rd (v := .ref b) (V.rd (v := .str (toS p) t1) (gip_ty (P.d.ty' rfl) slot_dict_getitem.lookup ⟨rfl, pd_getItem (v := .ref (κ p)) P.d (by rw [bkv_at, if_pos (has_iff.mpr ⟨bs, hm⟩)])
   (comp_list (ds := bs.map fun g => if decide (p ++ g ≠ x) = true then some (PyData.str (toS g)) else none) hh ⟨rfl, rfl, rfl⟩ (fun _ _ e => e) (Nat.le_refl _) hP.isList (by rw [List.size_toArray, hvl]; exact hbl) (by rw [List.length_map, List.size_toArray, hvl]) ?_ ?_)⟩) hp) hb)) (by kernel_rfl)
 ·intro C' cenv hcenv hsC it i v od s' m' E'' hvi hod hit V' hm' k'
  obtain ⟨y, tg, hy, rfl⟩ := strs_at hs (i := i) (v := v) (by simpa using hvi)
  rw [List.getElem?_map] at hy
  obtain ⟨g, hg, rfl⟩ := Option.map_eq_some_iff.mp hy
  have hgl' := hgl g (List.mem_of_getElem? hg)
  have hod' : od = if decide (p ++ g ≠ x) = true then some (PyData.str (toS g)) else none := by
   rw [List.getElem?_map, hg] at hod
   exact (Option.some.inj hod).symm
  have hloc : cenv.locals = C' := by rw [hcenv]; rfl
  have vok : varOk cenv "path" = true ∧ varOk cenv "word" = true ∧ varOk cenv "sign" = true ∧ cenv.kindOf "sign" = some .local := by rw [hcenv]; exact ⟨rfl, rfl, rfl, rfl⟩
  clear hod hvi hit hg hy hcenv
  refine turn_name hloc vok.2.2.2 (fun y hy => by
   simp only [List.lookup] at hy
   split at hy
   ·rename_i h2; rw [beq_iff_eq.mp h2]; decide
   ·split at hy
    ·rename_i h2; rw [beq_iff_eq.mp h2]; decide
    ·cases hy) V' hm' hsC k' fun s₃ m₃ G1 G0 V₃ hg₃ hm₃ k₃ hC₃ g1 g0 => ?_
  have hp₃ : m₃ "path" = some (.str (toS p) t1) := (hm₃ "path" rfl).trans hp
  have hw₃ : m₃ "word" = some (.str (toS x) t2) := (hm₃ "word" rfl).trans hw
  clear V' hm' k' hm₃ k₃
  refine wpAny_tests_one (wpAny_isTrue_Compare1 (wpAny_BinOp (V₃.rd (v := .str (toS p) t1) (V₃.rd (v := .str (toS g) tg) (add_str (fun t5 k5 => ?_) (by rw [toS_len, toS_len, sizeLine_eq]; lia)) hg₃ rfl vok.2.2.1) hp₃ rfl vok.1)))
  rw [toS_app]
  refine V₃.rd (v := .str (toS x) t2) (PyProof.Rows.ne_str (wpAny_truthy_bool ?_)) hw₃ rfl vok.2.1
  by_cases hyes : p ++ g = x
  ·rw [if_neg (by simpa using hyes)] at hod'
   rw [show (toS (p ++ g) != toS x) = false from by rw [hyes]; simp, if_neg (by simp)]
   exact g0 _ hod' ⟨_, _, rfl, fun _ _ e => e⟩
  ·rw [if_pos (decide_eq_true hyes)] at hod'
   rw [show (toS (p ++ g) != toS x) = true from by rw [bne_iff_ne]; exact fun ee => hyes (toS_inj ee), if_pos rfl]
   exact V₃.rd (v := .str (toS g) tg) (g1 _ _ _ hod' ⟨_, _, rfl, fun _ _ e => e⟩ (.str _ _)) hg₃ rfl vok.2.2.1
 ·rw [filt_eq]
  intro D s' ys g hD hP' hI
  exact h D s' ys g hD hP' (strs_of hI)
theorem take_under {x p : Path} : (toS (p.take x.length) != toS x) = !under x p := by
 by_cases hyes : x <+: p
 ·have h1 : p.take x.length = x := (List.prefix_iff_eq_take.mp hyes).symm
  rw [h1, under_iff.mpr hyes]; simp
 ·have h1 : under x p = false := by
   cases e : under x p with
   | false => rfl
   | true => exact absurd (under_iff.mp e) hyes
  rw [h1]
  show _ = true
  rw [bne_iff_ne]
  exact fun ee => hyes (List.prefix_iff_eq_take.mpr (toS_inj ee).symm)
theorem test_under {env : Env} {m : Str → Option Value} {p x : Path} {t1 t2 : Tok} {Q : Bool → Shared → Prop} {p1 p2 p3 p4 p5 p6 p7 p8 : Pos} (B : Bs w s.heap) (V : Vars s.heap env m) (hp : m "path" = some (.str (toS p) t1)) (hw : m "word" = some (.str (toS x) t2)) (hpl : p.length ≤ 1000) (hxl : x.length ≤ 1000)
  (vp : varOk env "path" = true) (vw : varOk env "word" = true) (h : ∀ s', Grow s s' → Q (!under x p) s') (hk : env.scope.kind = .function) (hx : env.kindOf "len" = some .globalImplicit) (hg : env.globals = 3) (hb : env.builtins = 0) :
  wpAny (Md w) A (isTrue (.Compare (.Subscript (.Name "path" p1) (.Slice none (some (.Call (.Name "len" p2) [.Name "word" p3] [] p4)) none p5) p6) [.NotEq] [.Name "word" p7] p8) env (eval (.Compare (.Subscript (.Name "path" p1) (.Slice none (some (.Call (.Name "len" p2) [.Name "word" p3] [] p4)) none p5) p6) [.NotEq] [.Name "word" p7] p8) env)) Q E s := by
 refine wpAny_isTrue_Compare1 (ev_slice (V.rd (v := .str (toS p) t1) (wpAny_pure (ev_Call (blt (v := .builtin "len") B (cw_builtin (V.rd (v := .str (toS x) t2) (len_str (by rw [toS_len]; lia) ?_) hw rfl vw)) (by kernel_rfl) (by kernel_rfl) hk hx hg hb))) hp rfl vp))
 rw [toS_len]
 refine ⟨p, t1, none, some ((x.length : Int), _), rfl, rfl, rfl, by lia, fun s₄ t₄ g₄ => ?_⟩
 simp only [Option.map_none, Option.map_some]
 rw [psl_to']
 have k₄ : ∀ c o, s.heap.get? c = some o → s₄.heap.get? c = some o := g₄.keep
 refine (V.grow k₄).rd (v := .str (toS x) t2) (PyProof.Rows.ne_str (wpAny_truthy_bool ?_)) hw rfl vw
 rw [take_under]
 exact h s₄ ((Grow.of fun _ _ e => e).trans g₄)
end
end
section
theorem Vars.sxc {M : Model} {A : Around} {E : Value → Shared → Prop} {s : Shared} {env : Env} {m : Str → Option Value} {x : Str} {v : Value} {c : Addr} {Q : Unit → Shared → Prop} (V : Vars s.heap env m) (hc : env.cells.lookup x = some c) (hl : env.kindOf x = some .cell)
  (h : ∀ s', Sx s s' → Vars s'.heap env (set m x v) → (∀ y o, y ≠ c → s.heap.get? y = some o → s'.heap.get? y = some o) → Q () s') : wpAny M A (storeName env x v) Q E s := by
 have fin : wpAny M A (cellOf env x >>= fun a => cellSet a (some v)) Q E s := by
  refine wpAny_bind (wpAny_cellOf hc (wpAny_cellSet (V.cell x c hc) fun h' hc' hs' => h { s with heap := h' } .of ⟨V.kind, ?_, fun y d hy => ?_, V.apart, V.off, V.nol⟩ fun y o hy e => (hs'.2 y hy).trans e))
  ·obtain ⟨ml, n, e⟩ := V.ns
   refine ⟨ml, n.sameBut hs' (Ne.symm (V.off x c hc)), fun y hy => ?_⟩
   have : y ≠ x := fun hyx => V.nol x c hc (hyx ▸ hy)
   rw [set_ne this]
   exact e y hy
  ·by_cases hyx : y = x
   ·subst hyx
    rw [hc] at hy; cases hy
    rw [set_self]; exact hc'
   ·rw [set_ne hyx]
    exact (V.cell y d hy).sameBut hs' fun hdc => hyx (V.apart y x c (hdc ▸ hy) hc)
 unfold storeName
 simp only [hl, V.kind]
 exact fin
noncomputable def dropB (x : Path) (l : List (Path × List Path)) : List (Path × List Path) := (l.filter fun kv => !under x kv.1).map fun kv => (kv.1, kv.2.filter fun g => decide (kv.1 ++ g ≠ x))
theorem mem_dropB {x p : Path} {l : List (Path × List Path)} (h : has (dropB x l) p = true) : has l p = true ∧ under x p = false := by
 obtain ⟨bs, h⟩ := has_iff.mp h
 unfold dropB at h
 obtain ⟨kv, hkv, e⟩ := List.mem_map.mp h
 obtain ⟨e1, e2⟩ := Prod.mk.inj e
 have hf := List.mem_filter.mp hkv
 exact ⟨has_iff.mpr ⟨kv.2, e1 ▸ hf.1⟩, by have := hf.2; rw [e1] at this; simpa using this⟩
theorem has_take {β : Type} {l : List (Path × β)} {i : Nat} {p : Path} (h : has (l.take i) p = true) : ∃ j, j < i ∧ ∃ b, l[j]? = some (p, b) := by
 obtain ⟨b, hb⟩ := has_iff.mp h
 obtain ⟨j, hj, e⟩ := List.getElem_of_mem hb
 have hji : j < i := by simp at hj; lia
 refine ⟨j, hji, b, ?_⟩
 rw [← e, List.getElem_take]
 exact List.getElem?_eq_getElem _
theorem nodup_take {β : Type} {l : List (Path × β)} (nd : (l.map (·.1)).Nodup) {i : Nat} {p : Path} {b : β} (h : l[i]? = some (p, b)) : ¬ has (l.take i) p = true := by
 intro h2
 obtain ⟨j, hji, b', hj⟩ := has_take h2
 have h3 : (l.map (·.1))[i]? = some p := by rw [List.getElem?_map, h]; rfl
 have h4 : (l.map (·.1))[j]? = some p := by rw [List.getElem?_map, hj]; rfl
 obtain ⟨hi', e3⟩ := List.getElem?_eq_some_iff.mp h3
 obtain ⟨hj', e4⟩ := List.getElem?_eq_some_iff.mp h4
 exact List.pairwise_iff_getElem.mp nd j i hj' hi' hji (e4.trans e3.symm)
section
variable {w : World} {A : Around} {E : Value → Shared → Prop} {s : Shared}
theorem comp_below {L b : Nat} {m : Str → Option Value} {S : St} {κ : Path → Nat} {x : Path} {t2 : Tok} {Q : Value → Shared → Prop} {q1 q2 pos p1 p2 p3 p4 p5 p6 p7 p8 p9 p10 p11 r1 r2 r3 r4 r5 r6 r7 r8 r9 : Pos} (hh : A.handled = none) (B : Bs w s.heap) (V : Vars s.heap (ePln L) m) (P : PB w s.heap b S.below κ) (W : WF S)
  (hw : m "word" = some (.str (toS x) t2)) (hb : m "below" = some (.ref b)) (hbl : ∀ p bs, (p, bs) ∈ S.below → bs.length ≤ 100000) (hpl : ∀ p, has S.below p = true → p.length ≤ 1000) (hxl : x.length ≤ 1000) (hgl : ∀ p bs, (p, bs) ∈ S.below → ∀ g ∈ bs, g.length ≤ 1) (hln : S.below.length ≤ 100000)
  (h : ∀ D s' κ', Grow s s' → s.heap.objs.size ≤ D → PB w s'.heap D (S.drop x).below κ' → (∀ p, has (S.drop x).below p = true → s.heap.objs.size ≤ κ' p) → Q (.ref D) s') :
  wpAny (Md w) A (eval (.DictComp (.Name "path" q1) (.ListComp (.Name "sign" p1) [⟨.Name "sign" p2, .Subscript (.Name "below" p3) (.Name "path" p4) p5, [.Compare (.BinOp (.Name "path" p6) .Add (.Name "sign" p7) p8) [.NotEq] [.Name "word" p9] p10], 0⟩] scK p11)
   [⟨.Name "path" q2, .Name "below" r1, [.Compare (.Subscript (.Name "path" r2) (.Slice none (some (.Call (.Name "len" r3) [.Name "word" r4] [] r5)) none r6) r7) [.NotEq] [.Name "word" r8] r9], 0⟩] scB pos) (ePln L)) Q E s := by
 refine dcompV (s₀ := s) (cl := clB L) (some "path") V (by
  intro p hp; simp [clB] at hp
  rcases hp with rfl | rfl
  ·exact ⟨rfl, fun e0 => absurd (show some NameKind.cell = some .local from e0) (by decide)⟩
  ·exact ⟨rfl, fun e0 => absurd (show some NameKind.cell = some .local from e0) (by decide)⟩) (by
  intro y hy
  cases hy
  exact ⟨rfl, fun e0 => absurd (show some NameKind.cell = some .local from e0) (by decide)⟩) (V.rd (v := .ref b) (dc_keys hh P.d P.lo (by rw [bkv_len, sizeLine_eq]; lia) fun D C lo cenv hcenv hsD hlo hsC => ?_) hb) (by intro n; rfl) (by intro h; rfl) (by kernel_rfl)
 have hcenv : cenv = cenvB L C := hcenv
 subst hcenv
 have hlo : lo = C + 2 := hlo
 have hClo : C < lo := by rw [hlo]; exact Nat.lt_succ_of_lt (Nat.lt_succ_self _)
 have hC1lo : C + 1 < lo := by rw [hlo]; exact Nat.lt_succ_self _
 have hslo : s.heap.objs.size ≤ lo := Nat.le_trans hsC (Nat.le_of_lt hClo)
 refine ⟨fun i kvs h => ∃ κ', kvs = bkv (dropB x (S.below.take i)) κ' ∧ (∀ p, has (dropB x (S.below.take i)) p = true → lo ≤ κ' p) ∧ (∀ p bs, (p, bs) ∈ dropB x (S.below.take i) → ∃ vs, h.PlainList (κ' p) vs.toArray ∧ StrsAre vs (bs.map toS)) ∧
  (∀ p q, has (dropB x (S.below.take i)) p = true → has (dropB x (S.below.take i)) q = true → κ' p = κ' q → p = q), ?_, ?_, ?_, ?_⟩
 ·rintro i kvs h h' ⟨κ', e1, e2, e3, e4⟩ k
  refine ⟨κ', e1, e2, fun p bs hm => ?_, e4⟩
  obtain ⟨vs, hv, r⟩ := e3 p bs hm
  exact ⟨vs, hv.at fun o e => k _ _ (e2 p (has_iff.mpr ⟨bs, hm⟩)) e, r⟩
 ·intro h
  have e0 : dropB x (S.below.take 0) = [] := by simp [dropB]
  show ∃ κ' : Path → Nat, _
  rw [e0]
  exact ⟨fun _ => 0, rfl, fun p hp => by simp [has] at hp, fun p bs hm => by simp at hm, fun p q hp => by simp [has] at hp⟩
 ·rintro i v kvs s' E'' G1 G0 hi ⟨k, u, tv, hkv, rfl⟩ c ⟨κ', rfl, e2, e3, e4⟩ hlen g1 g0
  obtain ⟨p, bs, hpb, rfl⟩ : ∃ p bs, S.below[i]? = some (p, bs) ∧ k = toS p := by
   unfold bkv at hkv
   rw [List.getElem?_map] at hkv
   cases e5 : S.below[i]? with
   | none => rw [e5] at hkv; cases hkv
   | some kv => rw [e5] at hkv; obtain ⟨e6, _⟩ := Prod.mk.inj (Option.some.inj hkv); exact ⟨kv.1, kv.2, rfl, e6.symm⟩
  have hmem : (p, bs) ∈ S.below := List.mem_of_getElem? hpb
  have hhas : has S.below p = true := has_iff.mpr ⟨bs, hmem⟩
  obtain ⟨m', V', hm'⟩ := c.v
  refine wpAny_assign_Name (V'.sxc (x := "path") (c := C + 1) (by rfl) (by rfl) (fun s₃ x₃ V₃ k₃ => ?_))
  have hw₃ : set m' "path" (.str (toS p) tv) "word" = some (.str (toS x) t2) := (set_ne (by decide)).trans ((hm' "word" rfl).trans hw)
  have hb₃ : set m' "path" (.str (toS p) tv) "below" = some (.ref b) := (set_ne (by decide)).trans ((hm' "below" rfl).trans hb)
  have hp₃ : set m' "path" (.str (toS p) tv) "path" = some (.str (toS p) tv) := set_self
  have hmm : ∀ y, ((clB L).lookup y).isSome = true → set m' "path" (.str (toS p) tv) y = m y := fun y hy => by
   have : y = "word" ∨ y = "below" := by
    simp only [clB, List.lookup] at hy
    split at hy
    ·rename_i h2; exact .inl (beq_iff_eq.mp h2)
    ·split at hy
     ·rename_i h2; exact .inr (beq_iff_eq.mp h2)
     ·cases hy
   rcases this with rfl | rfl
   ·exact hw₃.trans hw.symm
   ·exact hb₃.trans hb.symm
  generalize set m' "path" (.str (toS p) tv) = m₃ at *
  have kk : ∀ b o, s.heap.get? b = some o → s₃.heap.get? b = some o := fun b o ee => k₃ b o (Nat.ne_of_lt (Nat.lt_of_lt_of_le (Heap.lt_size ee) (Nat.le_succ_of_le hsC))) (c.k b o ee)
  have kn : ∀ {h₄ : Heap}, (∀ b o, s₃.heap.get? b = some o → h₄.get? b = some o) → ∀ b o, ¬ (C ≤ b ∧ b < lo) → s'.heap.get? b = some o → h₄.get? b = some o := fun k₄ b o hb ee => k₄ b o (k₃ b o (fun e => hb ⟨by rw [e]; exact Nat.le_succ _, by rw [e]; exact hC1lo⟩) ee)
  have szl : ∀ {h₄ : Heap}, Vars h₄ (cenvB L C) m₃ → lo ≤ h₄.objs.size := fun V₄ => by
   obtain ⟨o, ho, _⟩ := V₄.cell "path" (C + 1) (by rfl)
   rw [hlo]; exact Heap.lt_size ho
  have hsn : S.below.take (i + 1) = S.below.take i ++ [(p, bs)] := by rw [List.take_add_one, hpb]; rfl
  refine wpAny_tests_one (test_under (B.grow kk) V₃ hp₃ hw₃ (hpl p hhas) hxl (by rfl) (by rfl) (fun s₄ g₄ => ?_) (by rfl) (by rfl) (by rfl) (by rfl))
  have k₄ : ∀ c o, s₃.heap.get? c = some o → s₄.heap.get? c = some o := g₄.keep
  have V₄ := V₃.grow k₄
  have x₄ : Sx s s₄ := (c.x.trans x₃).trans g₄.sx
  have I₃ : ∀ p bs, (p, bs) ∈ dropB x (S.below.take i) → ∃ vs, s₄.heap.PlainList (κ' p) vs.toArray ∧ StrsAre vs (bs.map toS) := fun p bs hm => by
   obtain ⟨vs, hv, r⟩ := e3 p bs hm
   exact ⟨vs, hv.at fun o ee => k₄ _ _ (k₃ _ _ (fun e => Nat.lt_irrefl _ (Nat.lt_of_lt_of_le hC1lo (e ▸ e2 p (has_iff.mpr ⟨bs, hm⟩)))) ee), r⟩
  cases hu : under x p with
  | true =>
   rw [show (!true) = false from rfl, if_neg (by simp)]
   have hd : dropB x (S.below.take (i + 1)) = dropB x (S.below.take i) := by rw [hsn]; unfold dropB; rw [List.filter_append, List.map_append]; simp [hu]
   refine g0 _ (kn k₄) ⟨x₄, fun b o ee => k₄ b o (kk b o ee), ⟨m₃, V₄, hmm⟩, szl V₄⟩ ⟨κ', ?_, ?_, ?_, ?_⟩
   ·show bkv _ κ' = bkv (dropB x (S.below.take (i + 1))) κ'; rw [hd]
   ·rw [hd]; exact e2
   ·rw [hd]; exact I₃
   ·rw [hd]; exact e4
  | false =>
   rw [show (!false) = true from rfl, if_pos rfl]
   have hd : dropB x (S.below.take (i + 1)) = dropB x (S.below.take i) ++ [(p, bs.filter fun g => decide (p ++ g ≠ x))] := by rw [hsn]; unfold dropB; rw [List.filter_append, List.map_append]; simp [hu]
   have hnew : ¬ has (dropB x (S.below.take i)) p = true := fun h2 => nodup_take W.nd hpb (mem_dropB h2).1
   refine V₄.rd (v := .str (toS p) tv) ?_ hp₃
   refine comp_kids hh V₄ ((P.grow kk).grow k₄) W.nd hp₃ hw₃ hb₃ hmem (hbl p bs hmem) (hpl p hhas) (hgl p bs hmem) fun r s₅ ys g₅ hr hP hys => ?_
   have k₅ : ∀ c o, s₄.heap.get? c = some o → s₅.heap.get? c = some o := g₅.keep
   have V₅ := V₄.grow k₅
   have hrlo : lo ≤ r := Nat.le_trans (szl V₄) hr
   refine g1 _ _ _ _ (kn fun b o ee => k₅ b o (k₄ b o ee)) ⟨x₄.trans g₅.sx, fun b o ee => k₅ b o (k₄ b o (kk b o ee)), ⟨m₃, V₅, hmm⟩, szl V₅⟩ ⟨fun q => if q = p then r else κ' q, ?_, ?_, ?_, ?_⟩
   ·show stored (bkv (dropB x (S.below.take i)) κ') (toS p) (.ref r) = bkv (dropB x (S.below.take (i + 1))) _
    rw [stored_absent (by rw [bkv_at, if_neg hnew]), hd]
    unfold bkv
    rw [List.map_append]
    congr 1
    ·refine List.map_congr_left fun kv hkv => ?_
     have : kv.1 ≠ p := fun e => hnew (e ▸ has_iff.mpr ⟨kv.2, hkv⟩)
     simp [this]
    ·simp
   ·intro q hq
    show lo ≤ (if q = p then r else κ' q)
    by_cases hqp : q = p
    ·rw [if_pos hqp]; exact hrlo
    ·rw [if_neg hqp]
     rw [hd] at hq
     obtain ⟨b', hb'⟩ := has_iff.mp hq
     rcases List.mem_append.mp hb' with h1 | h1
     ·exact e2 q (has_iff.mpr ⟨b', h1⟩)
     ·rcases List.mem_singleton.mp h1 with e; cases e; exact absurd rfl hqp
   ·intro q bs' hm
    show ∃ vs : List Value, s₅.heap.PlainList (if q = p then r else κ' q) vs.toArray ∧ _
    rw [hd] at hm
    rcases List.mem_append.mp hm with h1 | h1
    ·have hqp : q ≠ p := fun e => hnew (e ▸ has_iff.mpr ⟨bs', h1⟩)
     rw [if_neg hqp]
     obtain ⟨vs, hv, rr⟩ := I₃ q bs' h1
     exact ⟨vs, hv.at fun o ee => k₅ _ _ ee, rr⟩
    ·rcases List.mem_singleton.mp h1 with e
     obtain ⟨rfl, rfl⟩ := Prod.mk.inj e
     rw [if_pos rfl]
     exact ⟨ys, hP, hys⟩
   ·have old : ∀ q, q ≠ p → has (dropB x (S.below.take (i + 1))) q = true → has (dropB x (S.below.take i)) q = true := fun q hqp hq => by
     rw [hd] at hq
     obtain ⟨b', hb'⟩ := has_iff.mp hq
     rcases List.mem_append.mp hb' with h1 | h1
     ·exact has_iff.mpr ⟨b', h1⟩
     ·rcases List.mem_singleton.mp h1 with e; cases e; exact absurd rfl hqp
    have lt : ∀ q, has (dropB x (S.below.take i)) q = true → κ' q < r := fun q hq => by
     obtain ⟨b', hb'⟩ := has_iff.mp hq
     obtain ⟨vs, ⟨n, hv⟩, rr⟩ := I₃ q b' hb'
     exact Nat.lt_of_lt_of_le (Heap.lt_size hv) hr
    intro q q' hq hq' e
    have e : (if q = p then r else κ' q) = (if q' = p then r else κ' q') := e
    by_cases h1 : q = p <;> by_cases h2 : q' = p
    ·rw [h1, h2]
    ·rw [if_pos h1, if_neg h2] at e
     exact absurd e.symm (Nat.ne_of_lt (lt q' (old q' h2 hq')))
    ·rw [if_neg h1, if_pos h2] at e
     exact absurd e (Nat.ne_of_lt (lt q (old q h1 hq)))
    ·rw [if_neg h1, if_neg h2] at e
     exact e4 q q' (old q h1 hq) (old q' h2 hq') e
 ·rintro kvs s' gg ⟨κ', rfl, e2, e3, e4⟩ hP
  rw [bkv_len, List.take_length] at e2 e3 e4 hP
  have b3 : 303 ≤ s.heap.objs.size := B.n
  exact h D s' κ' gg hsD ⟨hP, e3, e4, Nat.le_trans b3 hsD, fun p hp => Nat.le_trans b3 (Nat.le_trans hslo (e2 p hp))⟩ fun p hp => Nat.le_trans hslo (e2 p hp)
end
end
section
noncomputable def scE : Scope := { kind := .function, names := [(".0", .local), ("path", .local), ("len", .globalImplicit), ("ends", .free), ("word", .free)], isGenerator := false, isCoroutine := false, more := [] }
noncomputable def scS : Scope := { kind := .function, names := [(".0", .local), ("path", .local), ("len", .globalImplicit), ("word", .free)], isGenerator := false, isCoroutine := false, more := [] }
noncomputable def clE (L : Nat) : List (Str × Addr) := [("word", L + 3), ("ends", L + 2)]
theorem EK.snoc {l : List (Path × Int)} {kvs : KVs} (x : EK l kvs) (p : Path) (k : Int) (t : Tok) : EK (l ++ [(p, k)]) (kvs ++ [(toS p, .int k t)]) := by
 induction x with
 | nil => exact .cons .nil
 | cons _ ih => exact .cons ih
section
variable {w : World} {A : Around} {E : Value → Shared → Prop} {s : Shared}
theorem comp_ends {L e : Nat} {m : Str → Option Value} {S : St} {x : Path} {t2 : Tok} {Q : Value → Shared → Prop} {q1 q2 q3 q4 q5 pos r1 r2 r3 r4 r5 r6 r7 r8 r9 : Pos} (hh : A.handled = none) (B : Bs w s.heap) (V : Vars s.heap (ePln L) m) (P : PE w s.heap e S.ends) (W : WF S)
  (hw : m "word" = some (.str (toS x) t2)) (hb : m "ends" = some (.ref e)) (hpl : ∀ p, has S.ends p = true → p.length ≤ 1000) (hxl : x.length ≤ 1000) (hln : S.ends.length ≤ 100000)
  (h : ∀ D s', Grow s s' → s.heap.objs.size ≤ D → PE w s'.heap D (S.drop x).ends → Q (.ref D) s') :
  wpAny (Md w) A (eval (.DictComp (.Name "path" q1) (.Subscript (.Name "ends" q2) (.Name "path" q3) q4)
   [⟨.Name "path" q5, .Name "ends" r1, [.Compare (.Subscript (.Name "path" r2) (.Slice none (some (.Call (.Name "len" r3) [.Name "word" r4] [] r5)) none r6) r7) [.NotEq] [.Name "word" r8] r9], 0⟩] scE pos) (ePln L)) Q E s := by
 obtain ⟨kvs₀, D₀, K₀⟩ := P.d
 refine dcompV (s₀ := s) (cl := clE L) none V (by
  intro p hp; simp [clE] at hp
  rcases hp with rfl | rfl
  ·exact ⟨rfl, fun e0 => absurd (show some NameKind.cell = some .local from e0) (by decide)⟩
  ·exact ⟨rfl, fun e0 => absurd (show some NameKind.cell = some .local from e0) (by decide)⟩) (by
  intro y hy
  cases hy) (V.rd (v := .ref e) (dc_keys hh D₀ P.lo (by rw [K₀.len, sizeLine_eq]; lia) fun D C lo cenv hcenv hsD hlo hsC => ?_) hb) (by intro n; rfl) (by intro h; rfl) (by kernel_rfl)
 have hnd : (kvs₀.map (·.1)).Nodup := let ⟨_, _, _, hdk⟩ := DAt.dep D₀; hdk.nodup
 have vok : varOk cenv "path" = true ∧ varOk cenv "word" = true ∧ varOk cenv "ends" = true := by rw [hcenv]; exact ⟨rfl, rfl, rfl⟩
 have hloc : cenv.locals = C := by rw [hcenv]; rfl
 have hkl : cenv.kindOf "path" = some .local ∧ cenv.scope.kind = .function ∧ cenv.kindOf "len" = some .globalImplicit ∧ cenv.globals = 3 ∧ cenv.builtins = 0 := by rw [hcenv]; exact ⟨rfl, rfl, rfl, rfl, rfl⟩
 have hlo : lo = C + 1 := hlo
 clear hcenv
 refine ⟨fun i kvs h => EK ((S.ends.take i).filter fun kv => !under x kv.1) kvs, fun i kvs h h' hI _ => hI, fun h => by simpa using EK.nil, ?_, ?_⟩
 ·rintro i v kvs s' E'' G1 G0 hi ⟨k, u, tv, hkv, rfl⟩ c hI hlen g1 g0
  obtain ⟨p, n, tn, hpb, rfl, rfl⟩ := K₀.get hkv
  have hmem : (p, n) ∈ S.ends := List.mem_of_getElem? hpb
  have hhas : has S.ends p = true := has_iff.mpr ⟨n, hmem⟩
  obtain ⟨m', V', hm'⟩ := c.v
  refine wpAny_assign_Name (V'.sxl (x := "path") (fun s₃ x₃ V₃ k₃ => ?_) hkl.1)
  rw [hloc] at k₃
  have hw₃ : set m' "path" (.str (toS p) tv) "word" = some (.str (toS x) t2) := (set_ne (by decide)).trans ((hm' "word" rfl).trans hw)
  have hb₃ : set m' "path" (.str (toS p) tv) "ends" = some (.ref e) := (set_ne (by decide)).trans ((hm' "ends" rfl).trans hb)
  have hp₃ : set m' "path" (.str (toS p) tv) "path" = some (.str (toS p) tv) := set_self
  have hmm : ∀ y, ((clE L).lookup y).isSome = true → set m' "path" (.str (toS p) tv) y = m y := fun y hy => by
   have : y = "word" ∨ y = "ends" := by
    simp only [clE, List.lookup] at hy
    split at hy
    ·rename_i h2; exact .inl (beq_iff_eq.mp h2)
    ·split at hy
     ·rename_i h2; exact .inr (beq_iff_eq.mp h2)
     ·cases hy
   rcases this with rfl | rfl
   ·exact hw₃.trans hw.symm
   ·exact hb₃.trans hb.symm
  generalize set m' "path" (.str (toS p) tv) = m₃ at *
  have kk : ∀ b o, s.heap.get? b = some o → s₃.heap.get? b = some o := fun b o ee => k₃ b o (Nat.ne_of_lt (Nat.lt_of_lt_of_le (Heap.lt_size ee) hsC)) (c.k b o ee)
  have kn : ∀ {h₄ : Heap}, (∀ b o, s₃.heap.get? b = some o → h₄.get? b = some o) → ∀ b o, ¬ (C ≤ b ∧ b < lo) → s'.heap.get? b = some o → h₄.get? b = some o := fun k₄ b o hb ee => k₄ b o (k₃ b o (fun e => hb ⟨by rw [e]; exact Nat.le_refl _, by rw [e, hlo]; exact Nat.lt_succ_self _⟩) ee)
  have szl : ∀ {h₄ : Heap}, Vars h₄ cenv m₃ → lo ≤ h₄.objs.size := fun V₄ => by
   obtain ⟨o, ho⟩ := V₄.own (.inl rfl)
   rw [hloc] at ho
   rw [hlo]; exact Heap.lt_size ho
  have hsn : S.ends.take (i + 1) = S.ends.take i ++ [(p, n)] := by rw [List.take_add_one, hpb]; rfl
  refine wpAny_tests_one (test_under (B.grow kk) V₃ hp₃ hw₃ (hpl p hhas) hxl vok.1 vok.2.1 (fun s₄ g₄ => ?_) hkl.2.1 hkl.2.2.1 hkl.2.2.2.1 hkl.2.2.2.2)
  have k₄ : ∀ c o, s₃.heap.get? c = some o → s₄.heap.get? c = some o := g₄.keep
  have V₄ := V₃.grow k₄
  have x₄ : Sx s s₄ := (c.x.trans x₃).trans g₄.sx
  cases hu : under x p with
  | true =>
   rw [show (!true) = false from rfl, if_neg (by simp)]
   refine g0 _ (kn k₄) ⟨x₄, fun b o ee => k₄ b o (kk b o ee), ⟨m₃, V₄, hmm⟩, szl V₄⟩ ?_
   show EK ((S.ends.take (i + 1)).filter fun kv => !under x kv.1) kvs
   rw [hsn, List.filter_append]
   simpa [hu] using hI
  | false =>
   rw [show (!false) = true from rfl, if_pos rfl]
   have hnew : ¬ has ((S.ends.take i).filter fun kv => !under x kv.1) p = true := fun h2 => by
    obtain ⟨b', hb'⟩ := has_iff.mp h2
    exact nodup_take W.endnd hpb (has_iff.mpr ⟨b', (List.mem_filter.mp hb').1⟩)
   have D₄ : PD w s₄.heap e kvs₀ := D₀.at fun o ee => k₄ _ _ (kk _ _ ee)
   have hval : valueAt kvs₀ (toS p) = some (.int n tn) := valueAt_of_get hnd hkv
   refine V₄.rd (v := .str (toS p) tv) (ev_Sub (V₄.rd (v := .ref e) (V₄.rd (v := .str (toS p) tv) (gip_ty (D₄.ty' rfl) slot_dict_getitem.lookup ⟨rfl, pd_getItem D₄ hval ?_⟩) hp₃ rfl vok.1) hb₃ rfl vok.2.2)) hp₃ rfl vok.1
   refine g1 _ _ _ _ (kn k₄) ⟨x₄.trans ⟨rfl, rfl, rfl⟩, fun b o ee => k₄ b o (kk b o ee), ⟨m₃, V₄, hmm⟩, szl V₄⟩ ?_
   show EK ((S.ends.take (i + 1)).filter fun kv => !under x kv.1) (stored kvs (toS p) (.int n tn))
   have hab : valueAt kvs (toS p) = none := by
    rcases hI.at (p := p) with ⟨k', t', h1, _⟩ | ⟨_, h1⟩
    ·exact absurd (by cases e9 : has ((S.ends.take i).filter fun kv => !under x kv.1) p with
      | true => rfl
      | false => rw [look_none.mpr e9] at h1; cases h1) hnew
    ·exact h1
   rw [stored_absent hab, hsn, List.filter_append]
   have e1 : ([(p, n)].filter fun kv => !under x kv.1) = [(p, n)] := by simp [hu]
   rw [e1]
   exact hI.snoc p n tn
 ·rintro kvs s' gg hI hP
  rw [K₀.len, List.take_length] at hI
  exact h D s' gg hsD ⟨⟨kvs, hP, hI⟩, Nat.le_trans B.n hsD⟩
end
end
section
theorem gone_blen : ∀ (l : Path) (S : St) (p : Path), (gone S p l).1.below.length ≤ S.below.length + l.length
 | [], S, p => by unfold gone; exact Nat.le_refl _
 | c :: l, S, p => by
  unfold gone
  split
  ·have := gone_blen l S (p ++ [c]); simp at this ⊢; lia
  ·split
   ·simp
   ·have := gone_blen l (S.add p c) (p ++ [c])
    have e : (S.add p c).below.length = S.below.length + 1 := by
     have := congrArg List.length (addB_keys (l := S.below) (p := p) (c := c))
     show (addB S.below p c).length = _
     simpa using this
    simp at this ⊢
    lia
def Far (S : St) (κ : Path → Nat) (b e a σ π c : Nat) : Prop := Off S.below κ b c ∧ c ≠ e ∧ c ≠ a ∧ c ≠ σ ∧ c ≠ π
structure PlAt (w : World) (L : Nat) (F : Nat → Obj → Prop) (S : St) (n : Nat) (κ : Path → Nat) (b e a σ π : Nat) (Z : Nat → Prop) (told : List PyData) (h : Heap) (m : Str → Option Value) : Prop where
 b0 : ∃ h₀, Bs w h₀ ∧ ∀ c o, h₀.get? c = some o → F c o
 P : PB w h b S.below κ
 Pe : PE w h e S.ends
 W : WF S
 z : Sz n S
 bl : S.below.length ≤ n + 1
 el : S.ends.length ≤ n
 dep : Dep S
 V : Vars h (ePln L) m
 nb : m "below" = some (.ref b)
 ne : m "ends" = some (.ref e)
 na : m "shut" = some (.ref a)
 ns : m "story" = some (.ref σ)
 sh : ∃ (zs : List Value) (ps : List Path), h.PlainList a zs.toArray ∧ StrsAre zs (ps.map toS) ∧ (∀ p, p ∈ ps ↔ p ∈ S.shut) ∧ ps.length ≤ n
 st : ∃ ys : List Value, h.PlainList σ ys.toArray ∧ IsAll Z h ys told
 pi : ∃ _u : Unit, h.PlainList π #[]
 oe : Off S.below κ b e
 oa : Off S.below κ b a
 os : Off S.below κ b σ
 op : Off S.below κ b π
 ap : a ≠ σ ∧ a ≠ π ∧ σ ≠ π
 own : ∀ c, OwnA (ePln L) c → Far S κ b e a σ π c
 zo : ∀ c, Z c → (∃ o, h.get? c = some o) ∧ Far S κ b e a σ π c ∧ ¬ OwnA (ePln L) c
 old : ∀ c o, F c o → Z c ∧ h.get? c = some o
section
variable {w : World} {A : Around} {E : Value → Shared → Prop} {s : Shared} {L : Nat} {F : Nat → Obj → Prop} {h h' : Heap} {S : St} {n : Nat} {κ : Path → Nat} {b e a σ π : Nat} {Z : Nat → Prop} {told : List PyData} {m m' : Str → Option Value}
theorem PlAt.bs (R : PlAt w L F S n κ b e a σ π Z told h m) : Bs w h := let ⟨_, B, hf⟩ := R.b0; B.grow fun c o ee => (R.old c o (hf c o ee)).2
theorem PlAt.objE (R : PlAt w L F S n κ b e a σ π Z told h m) : ∃ o es k, h.get? e = some o ∧ o.data = .dict es k := let ⟨_, ⟨es, ep, ee, _⟩, _⟩ := R.Pe.d; ⟨_, es, ep, ee, rfl⟩
theorem PlAt.lt (R : PlAt w L F S n κ b e a σ π Z told h m) : b < h.objs.size ∧ e < h.objs.size ∧ a < h.objs.size ∧ σ < h.objs.size ∧ π < h.objs.size ∧ ∀ p, has S.below p = true → κ p < h.objs.size := by
 obtain ⟨o1, _, _, e1, _⟩ := R.P.objD
 obtain ⟨o2, _, _, e2, _⟩ := R.objE
 obtain ⟨zs, _, ⟨_, e3⟩, _⟩ := R.sh
 obtain ⟨ys, ⟨_, e4⟩, _⟩ := R.st
 obtain ⟨xs, _, e5⟩ := R.pi
 exact ⟨Heap.lt_size e1, Heap.lt_size e2, Heap.lt_size e3, Heap.lt_size e4, Heap.lt_size e5, fun p hp => let ⟨_, _, _, ek, _⟩ := R.P.objK hp; Heap.lt_size ek⟩
theorem PlAt.fresh (R : PlAt w L F S n κ b e a σ π Z told h m) {c : Nat} (hc : h.objs.size ≤ c) : Far S κ b e a σ π c ∧ ¬ OwnA (ePln L) c := by
 obtain ⟨l1, l2, l3, l4, l5, l6⟩ := R.lt
 have g : ∀ {x : Nat}, x < h.objs.size → c ≠ x := fun hx => Nat.ne_of_gt (Nat.lt_of_lt_of_le hx hc)
 refine ⟨⟨⟨g l1, fun p hp => g (l6 p hp)⟩, g l2, g l3, g l4, g l5⟩, fun ho => ?_⟩
 obtain ⟨o, ho⟩ := R.V.own ho
 exact absurd (Heap.lt_size ho) (Nat.not_lt.mpr hc)
theorem IsAll.zk {N N' : Nat → Prop} {h h' : Heap} {vs : List Value} {ds : List PyData} (x : IsAll N h vs ds) (k : ∀ c o, N c → h.get? c = some o → h'.get? c = some o ∧ N' c) : IsAll N' h' vs ds :=
 (x.within (N' := fun c => N c ∧ N' c) fun c o hn ee => ⟨hn, (k c o hn ee).2⟩).keep (fun c o hn ee _ => (k c o hn.1 ee).1) fun _ hn => hn.2
theorem Is.zk {N N' : Nat → Prop} {h h' : Heap} {v : Value} {d : PyData} (x : Is N h v d) (k : ∀ c o, N c → h.get? c = some o → h'.get? c = some o ∧ N' c) : Is N' h' v d :=
 (x.within (N' := fun c => N c ∧ N' c) fun c o hn ee => ⟨hn, (k c o hn ee).2⟩).keep (fun c o hn ee _ => (k c o hn.1 ee).1) fun _ hn => hn.2
theorem PlAt.loc (R : PlAt w L F S n κ b e a σ π Z told h m) (V' : Vars h' (ePln L) m') (k : ∀ c o, ¬ OwnA (ePln L) c → h.get? c = some o → h'.get? c = some o)
  (nb : m' "below" = m "below") (ne : m' "ends" = m "ends") (na : m' "shut" = m "shut") (ns : m' "story" = m "story") : PlAt w L F S n κ b e a σ π Z told h' m' := by
 have ob : ¬ OwnA (ePln L) b := fun ho => (R.own b ho).1.1 rfl
 have ok : ∀ p, has S.below p = true → ¬ OwnA (ePln L) (κ p) := fun p hp ho => (R.own _ ho).1.2 p hp rfl
 have oe : ¬ OwnA (ePln L) e := fun ho => (R.own e ho).2.1 rfl
 have oa : ¬ OwnA (ePln L) a := fun ho => (R.own a ho).2.2.1 rfl
 have os : ¬ OwnA (ePln L) σ := fun ho => (R.own σ ho).2.2.2.1 rfl
 have op : ¬ OwnA (ePln L) π := fun ho => (R.own π ho).2.2.2.2 rfl
 obtain ⟨zs, ps, s1, s2, s3, s4⟩ := R.sh
 obtain ⟨ys, t1, t2⟩ := R.st
 obtain ⟨xs, p1⟩ := R.pi
 exact { R with
  P := R.P.keep (fun o ee => k _ _ ob ee) fun p hp o ee => k _ _ (ok p hp) ee
  Pe := R.Pe.at' fun o ee => k _ _ oe ee
  V := V'
  nb := nb.trans R.nb
  ne := ne.trans R.ne
  na := na.trans R.na
  ns := ns.trans R.ns
  sh := ⟨zs, ps, s1.at fun o ee => k _ _ oa ee, s2, s3, s4⟩
  st := ⟨ys, t1.at fun o ee => k _ _ os ee, t2.zk fun c o hz ee => ⟨k c o (R.zo c hz).2.2 ee, hz⟩⟩
  pi := ⟨xs, p1.at fun o ee => k _ _ op ee⟩
  zo := fun c hz => ⟨let ⟨o, ee⟩ := (R.zo c hz).1; ⟨o, k c o (R.zo c hz).2.2 ee⟩, (R.zo c hz).2⟩
  old := fun c o ee => ⟨(R.old c o ee).1, k c o (R.zo c (R.old c o ee).1).2.2 (R.old c o ee).2⟩ }
theorem PlAt.grow (R : PlAt w L F S n κ b e a σ π Z told h m) (k : ∀ c o, h.get? c = some o → h'.get? c = some o) : PlAt w L F S n κ b e a σ π Z told h' m :=
 R.loc (R.V.grow k) (fun c o _ ee => k c o ee) rfl rfl rfl rfl
theorem PlAt.le (R : PlAt w L F S n κ b e a σ π Z told h m) {n' : Nat} (hn : n ≤ n') : PlAt w L F S n' κ b e a σ π Z told h m :=
 { R with
  z := R.z.le hn
  bl := Nat.le_trans R.bl (Nat.succ_le_succ hn)
  el := Nat.le_trans R.el hn
  sh := let ⟨zs, ps, s1, s2, s3, s4⟩ := R.sh; ⟨zs, ps, s1, s2, s3, Nat.le_trans s4 hn⟩ }
theorem PlAt.zadd (R : PlAt w L F S n κ b e a σ π Z told h m) {Z' : Nat → Prop} (sub : ∀ c, Z c → Z' c) (hz : ∀ c, Z' c → Z c ∨ ((∃ o, h.get? c = some o) ∧ Far S κ b e a σ π c ∧ ¬ OwnA (ePln L) c)) : PlAt w L F S n κ b e a σ π Z' told h m :=
 { R with
  st := let ⟨ys, t1, t2⟩ := R.st; ⟨ys, t1, t2.zk fun c o hc ee => ⟨ee, sub c hc⟩⟩
  zo := fun c hc => (hz c hc).elim (R.zo c) id
  old := fun c o ee => ⟨sub c (R.old c o ee).1, (R.old c o ee).2⟩ }
theorem PlAt.app (R : PlAt w L F S n κ b e a σ π Z told h m) {ys : List Value} {v : Value} {d : PyData} (hI : IsAll Z h ys told) (hv : Is Z h v d) (hl : h'.PlainList σ (ys ++ [v]).toArray) (k : ∀ c o, c ≠ σ → h.get? c = some o → h'.get? c = some o) : PlAt w L F S n κ b e a σ π Z (told ++ [d]) h' m := by
 obtain ⟨zs, ps, s1, s2, s3, s4⟩ := R.sh
 obtain ⟨xs, p1⟩ := R.pi
 have zs' : ∀ c, Z c → c ≠ σ := fun c hc => (R.zo c hc).2.1.2.2.2.1
 have up : ∀ c o, Z c → h.get? c = some o → h'.get? c = some o ∧ Z c := fun c o hc ee => ⟨k c o (zs' c hc) ee, hc⟩
 exact { R with
  P := R.P.keep (fun o ee => k _ _ (Ne.symm R.os.1) ee) fun p hp o ee => k _ _ (Ne.symm (R.os.2 p hp)) ee
  Pe := R.Pe.at' fun o ee => k _ _ (fun x => by
   obtain ⟨o2, es, kk, e2, hd⟩ := R.objE
   obtain ⟨ys', ⟨nn, e4⟩, _⟩ := R.st
   rw [x, e4] at e2; cases e2; cases hd) ee
  V := R.V.keep fun c o hc ee => k c o (R.own c hc).2.2.2.1 ee
  sh := ⟨zs, ps, s1.at fun o ee => k _ _ R.ap.1 ee, s2, s3, s4⟩
  st := ⟨ys ++ [v], hl, (hI.zk up).snoc (hv.zk up)⟩
  pi := ⟨xs, p1.at fun o ee => k _ _ (Ne.symm R.ap.2.2) ee⟩
  zo := fun c hc => ⟨let ⟨o, ee⟩ := (R.zo c hc).1; ⟨o, k c o (zs' c hc) ee⟩, (R.zo c hc).2⟩
  old := fun c o ee => ⟨(R.old c o ee).1, k c o (zs' c (R.old c o ee).1) (R.old c o ee).2⟩ }
theorem PlAt.fadd (R : PlAt w L F S n κ b e a σ π Z told h m) {F' : Nat → Obj → Prop} (sub : ∀ c o, F c o → F' c o) (hf : ∀ c o, F' c o → F c o ∨ (Z c ∧ h.get? c = some o)) : PlAt w L F' S n κ b e a σ π Z told h m :=
 { R with
  b0 := let ⟨h₀, B, hh⟩ := R.b0; ⟨h₀, B, fun c o ee => sub c o (hh c o ee)⟩
  old := fun c o ee => (hf c o ee).elim (R.old c o) id }
theorem PlAt.fsub (R : PlAt w L F S n κ b e a σ π Z told h m) {F' : Nat → Obj → Prop} (sub : ∀ c o, F' c o → F c o) (b0 : ∃ h₀, Bs w h₀ ∧ ∀ c o, h₀.get? c = some o → F' c o) : PlAt w L F' S n κ b e a σ π Z told h m :=
 { R with
  b0 := b0
  old := fun c o ee => R.old c o (sub c o ee) }
theorem plain_goneZ {path : Path} {t : Tok} {Q : Value → Shared → Prop} (hA : Ok A 850 850) (R : PlAt w L F S n κ b e a σ π Z told s.heap m) (hn : n ≤ 10000) (hx : path.length ≤ 6)
  (h : ∀ s' κ', Sx s s' → PlAt w L F (gone S [] path).1 (n + path.length) κ' b e a σ π Z told s'.heap m → (∀ c o, Z c → s.heap.get? c = some o → s'.heap.get? c = some o) → Q (.bool (gone S [] path).2) s') :
  wpAny (Md w) A (call (.ref 277) [.ref b, .ref a, .str (toS path) t]) Q E s := by
 obtain ⟨zs, ps, s1, s2, s3, s4⟩ := R.sh
 refine call_gone hA R.bs R.P R.W s1 s2 s3 R.oa R.z (by lia) (by have := R.bl; lia) fun s' κ' x P' hκ fr => h s' κ' x ?_ fun c o hc ho => (fr c o ho (R.zo c hc).2.1.1).1
 obtain ⟨ee, es⟩ := gone_ends path S []
 obtain ⟨ys, t1, t2⟩ := R.st
 obtain ⟨xs, p1⟩ := R.pi
 have farm : ∀ c, (∃ o, s.heap.get? c = some o) → Far S κ b e a σ π c → Far (gone S [] path).1 κ' b e a σ π c := fun c ⟨o, ho⟩ f => ⟨(fr c o ho f.1).2, f.2⟩
 have zk : ∀ c o, Z c → s.heap.get? c = some o → s'.heap.get? c = some o ∧ Z c := fun c o hc ho => ⟨(fr c o ho (R.zo c hc).2.1.1).1, hc⟩
 have exs : ∀ {x : Nat} {vs : Array Value}, s.heap.PlainList x vs → ∃ o, s.heap.get? x = some o := fun ⟨nn, e1⟩ => ⟨_, e1⟩
 have pl : ∀ {x : Nat} {vs : Array Value}, Off S.below κ b x → s.heap.PlainList x vs → s'.heap.PlainList x vs := fun ho hp => hp.at fun o e1 => (fr _ o e1 ho).1
 obtain ⟨oE, esE, kE, eE, hdE⟩ := R.objE
 exact {
  b0 := R.b0
  P := P'
  Pe := by rw [ee]; exact R.Pe.at' fun o e1 => (fr _ o e1 R.oe).1
  W := gone_wf path S [] R.W R.W.root
  z := gone_sz path S [] n R.z
  bl := by have := gone_blen path S []; have := R.bl; lia
  el := by rw [ee]; exact Nat.le_trans R.el (Nat.le_add_right _ _)
  dep := R.dep.gone hx
  V := R.V.keep fun c o hc e1 => (fr c o e1 (R.own c hc).1).1
  nb := R.nb
  ne := R.ne
  na := R.na
  ns := R.ns
  sh := ⟨zs, ps, pl R.oa s1, s2, by rw [es]; exact s3, Nat.le_trans s4 (Nat.le_add_right _ _)⟩
  st := ⟨ys, pl R.os t1, t2.zk zk⟩
  pi := ⟨xs, pl R.op p1⟩
  oe := (fr e oE eE R.oe).2
  oa := let ⟨o, e1⟩ := exs s1; (fr a o e1 R.oa).2
  os := let ⟨o, e1⟩ := exs t1; (fr σ o e1 R.os).2
  op := let ⟨o, e1⟩ := exs p1; (fr π o e1 R.op).2
  ap := R.ap
  own := fun c hc => farm c (R.V.own hc) (R.own c hc)
  zo := fun c hc => ⟨let ⟨o, e1⟩ := (R.zo c hc).1; ⟨o, (zk c o hc e1).1⟩, farm c (R.zo c hc).1 (R.zo c hc).2.1, (R.zo c hc).2.2⟩
  old := fun c o e1 => ⟨(R.old c o e1).1, (zk c o (R.old c o e1).1 (R.old c o e1).2).1⟩ }
theorem plain_gone {path : Path} {t : Tok} {Q : Value → Shared → Prop} (hA : Ok A 850 850) (R : PlAt w L F S n κ b e a σ π Z told s.heap m) (hn : n ≤ 10000) (hx : path.length ≤ 6)
  (h : ∀ s' κ', Sx s s' → PlAt w L F (gone S [] path).1 (n + path.length) κ' b e a σ π Z told s'.heap m → Q (.bool (gone S [] path).2) s') :
  wpAny (Md w) A (call (.ref 277) [.ref b, .ref a, .str (toS path) t]) Q E s := plain_goneZ hA R hn hx fun s' κ' x R' _ => h s' κ' x R'
end
end
section
noncomputable def plnBody : List Stmt := forBody ((fnBody 72)[1]?.getD (.Pass default))
section
variable {w : World} {A : Around} {E : Value → Shared → Prop} {s : Shared} {L : Nat} {F : Nat → Obj → Prop} {S : St} {n : Nat} {κ : Path → Nat} {b e a σ π : Nat} {Z : Nat → Prop} {told : List PyData} {m : Str → Option Value}
def PlEnd (w : World) (L : Nat) (F : Nat → Obj → Prop) (S : St) (n : Nat) (σ π : Nat) (told : List PyData) (m : Str → Option Value) (s : Shared) (f : Flow) (s' : Shared) : Prop := f = .next ∧ ∃ κ b e a Z m', Sx s s' ∧ PlAt w L F S n κ b e a σ π Z told s'.heap m' ∧ Kept m m'
noncomputable def tabNames : List Str := ["below", "ends", "shut", "story"]
theorem PlAt.put {M : Model} {hh : Heap} {x : Str} {v : Value} {Q : Unit → Shared → Prop} (R : PlAt w L F S n κ b e a σ π Z told hh m) (h : ∀ s', Sx s s' → PlAt w L F S n κ b e a σ π Z told s'.heap (set m x v) → (∀ c o, c ≠ L → s.heap.get? c = some o → s'.heap.get? c = some o) → Q () s')
  (hs : s.heap = hh := by rfl) (hl : (ePln L).kindOf x = some .local := by rfl) (hx : tabNames.contains x = false := by decide) : wpAny M A (storeName (ePln L) x v) Q E s := by
 have ne : ∀ y ∈ tabNames, y ≠ x := fun y hy e => by
  subst e
  rw [List.contains_iff_mem.mpr hy] at hx; cases hx
 subst hs
 exact R.V.sxl (fun s' x' V' k' => h s' x' (R.loc V' (fun c o hc ee => k' c o (fun hL => hc (.inl hL)) ee) (set_ne (ne _ (by simp [tabNames]))) (set_ne (ne _ (by simp [tabNames]))) (set_ne (ne _ (by simp [tabNames]))) (set_ne (ne _ (by simp [tabNames])))) k') hl
theorem plain_tail {v : Value} {dt : PyData} (R : PlAt w L F S n κ b e a σ π Z told s.heap m) (hlen : told.length ≤ 100000) (ht : m "told" = some v) (hv : Is Z s.heap v dt) {Q : Flow → Shared → Prop}
  (h : ∀ s', Sx s s' → PlAt w L F S n κ b e a σ π Z (told ++ [dt]) s'.heap m → Q .next s') : wpAny (Md w) A (execs (plnBody.drop 4) (ePln L)) Q E s := by
 obtain ⟨ys, hP, hI⟩ := R.st
 refine wpAny_execs_cons (wpAny_Expr (ev_Method (R.V.rd (v := .ref σ) (fun pl => getm_append hP (cw_builtin (R.V.rd (v := v) ?_ ht))) R.ns)))
 refine wpAny_list_append_plain hP (fun h' hl S' => wpAny_execs_nil (h _ .of ?_)) (by rw [List.size_toArray, hI.len, sizeLine_eq]; lia)
 refine R.app hI hv ?_ fun c o hc ee => (S'.2 c hc).trans ee
 have : (ys ++ [v]).toArray = ys.toArray.push v := by simp
 rw [this]; exact hl
structure Dn (kd : Str) (x : Path) (mv : Value) (m : Str → Option Value) : Prop where
 kind : ∃ t, m "kind" = some (.str kd t)
 word : ∃ u, m "word" = some (.str (toS x) u)
 more : m "more" = some mv
theorem Dn.set {kd : Str} {x : Path} {mv : Value} {y : Str} {v : Value} (d : Dn kd x mv m) (h : (["kind", "word", "more"] : List Str).contains y = false) : Dn kd x mv (set m y v) := by
 have ne : ∀ z ∈ (["kind", "word", "more"] : List Str), z ≠ y := fun z hz e => by
  subst e
  rw [List.contains_iff_mem.mpr hz] at h; cases h
 exact ⟨let ⟨t, e⟩ := d.kind; ⟨t, (set_ne (ne _ (by simp))).trans e⟩, let ⟨t, e⟩ := d.word; ⟨t, (set_ne (ne _ (by simp))).trans e⟩, (set_ne (ne _ (by simp))).trans d.more⟩
theorem plain_start {kd : Str} {x : Path} {mv : Value} {Q : Flow → Shared → Prop} (hA : Ok A 840 840) (R : PlAt w L F S n κ b e a σ π Z told s.heap m) (hn : n ≤ 10000) (hx : x.length ≤ 6) (hT : (kd == "T") = false) (hG : (kd == "G") = false) (dn : Dn kd x mv m)
  (h : ∀ s' κ' m', Sx s s' → PlAt w L F (gone S [] x).1 (n + x.length) κ' b e a σ π Z told s'.heap m' → Kept m m' → Dn kd x mv m' → m' "told" = some .none → m' "stays" = some (.bool (gone S [] x).2) → wpAny (Md w) A (execs (plnBody.drop 3) (ePln L)) Q E s') :
  wpAny (Md w) A (execs plnBody (ePln L)) Q E s := by
 obtain ⟨t, hk⟩ := dn.kind
 obtain ⟨u, hw⟩ := dn.word
 refine wpAny_execs_cons (Assign_Tuple_swapped (names := ["way", "told"]) (ev_Tuple (ev_IfExp (wpAny_isTrue_Compare1 (R.V.rd (v := .str kd t) (Constant_str (eq_str (wpAny_truthy_bool ?_))) hk)))))
 rw [hT, if_neg (by simp)]
 refine R.V.rd (v := .str (toS x) u) (wpAny_Constant_none ?_) hw
 refine swp2 hA.h (Heap.get?_push_size _ rfl) rfl rfl fun s₁ g₁ => ?_
 have k₁ : ∀ c o, s.heap.get? c = some o → s₁.heap.get? c = some o := fun c o ee => g₁.keep _ _ (Heap.get?_push_of_some _ ee)
 have R₁ := R.grow k₁
 refine R₁.put (x := "told") fun s₂ x₂ R₂ _ => R₂.put (x := "way") fun s₃ x₃ R₃ _ => ?_
 have x₃' : Sx s s₃ := ((Sx.refl s).go g₁.sx).trans (x₂.trans x₃)
 have d₃ := (dn.set (m := m) (y := "told") (v := .none) (by decide)).set (y := "way") (v := .str (toS x) u) (by decide)
 have K₃ : Kept m (set (set m "told" .none) "way" (.str (toS x) u)) := ((Kept.refl m).set (by decide)).set (by decide)
 have ht₃ : set (set m "told" .none) "way" (.str (toS x) u) "told" = some .none := (set_ne (by decide)).trans set_self
 have hy₃ : set (set m "told" .none) "way" (.str (toS x) u) "way" = some (.str (toS x) u) := set_self
 generalize set (set m "told" .none) "way" (.str (toS x) u) = m₃ at *
 obtain ⟨t', hk₃⟩ := d₃.kind
 refine wpAny_execs_cons (wpAny_If (wpAny_isTrue_Compare1 (R₃.V.rd (v := .str kd t') (Constant_str (eq_str (wpAny_truthy_bool ?_))) hk₃)))
 rw [hG, if_neg (by simp)]
 refine wpAny_execs_nil ?_
 have R₃' := R₃.grow (h' := s₃.heap) fun _ _ ee => ee
 refine wpAny_execs_cons (wpAny_Assign_Name (ev_Call (glob (v := .ref 277) R₃.bs (cw_callable (R₃.V.rd (v := .ref b) (R₃.V.rd (v := .ref a) (R₃.V.rd (v := .str (toS x) u) ⟨fnCallable R₃.bs (o277p6 w.params) _, ?_⟩ hy₃) R₃.na) R₃.nb)))))
 refine plain_gone (hA.le (by decide) (by decide)) R₃' hn hx fun s₄ κ' x₄ R₄ => ?_
 refine R₄.put (x := "stays") fun s₅ x₅ R₅ _ => ?_
 exact h s₅ κ' _ ((x₃'.go x₄).trans x₅) R₅ (K₃.set (by decide)) (d₃.set (by decide)) ((set_ne (by decide)).trans ht₃) set_self
end
end
section
section
variable {w : World} {A : Around} {E : Value → Shared → Prop} {s : Shared} {L : Nat} {F : Nat → Obj → Prop} {S : St} {n : Nat} {κ : Path → Nat} {b e a σ π : Nat} {Z : Nat → Prop} {told : List PyData} {m : Str → Option Value}
theorem plain_turnL {x : Path} {k : Int} {mv : Value} (hA : Ok A 840 840) (R : PlAt w L F S n κ b e a σ π Z told s.heap m) (hlen : told.length ≤ 1000) (hn : n ≤ 1000) (hx : x.length ≤ 3) (dn : Dn "L" x mv m) :
  wpAny (Md w) A (execs plnBody (ePln L)) (PlEnd w L F (turnR S (.L x k)).1 (n + 7) σ π (told ++ [(turnR S (.L x k)).2]) m s) E s := by
 refine wpAny_abs fun Q hQ => ?_
 refine plain_start hA R (by lia) (by lia) (by decide) (by decide) dn fun s₁ κ₁ m₁ x₁ R₁ K₁ d₁ ht hst => ?_
 obtain ⟨t, hk⟩ := d₁.kind
 obtain ⟨u, hw⟩ := d₁.word
 refine wpAny_execs_cons (wpAny_If (wpAny_isTrue_BoolOp (wpAny_allTrue_And_cons (wpAny_isTrue_Compare1 (R₁.V.rd (v := .str "L" t) (Constant_str (eq_str (wpAny_truthy_bool ?_))) hk)))))
 rw [if_neg (by decide), if_neg (by decide)]
 refine wpAny_execs_cons (wpAny_If (wpAny_isTrue_Compare1 (R₁.V.rd (v := .str "L" t) (Constant_str (eq_str (wpAny_truthy_bool ?_))) hk)))
 rw [if_pos (by decide)]
 obtain ⟨kvs, D, K⟩ := R₁.Pe.d
 refine wpAny_execs_cons (wpAny_Assign_Name (ev_Method (R₁.V.rd (v := .ref e) (fun pl => pd_getm D (cw_builtin (R₁.V.rd (v := .str (toS x) u) (wpAny_Constant_int (pd_get D R₁.Pe.lo ?_)) hw))) R₁.ne)))
 obtain ⟨tn, hv⟩ : ∃ tn, ∀ tz, ∃ t', (valueAt kvs (toS x)).getD (.int 0 tz) = .int (endv S x) t' := by
  refine ⟨0, fun tz => ?_⟩
  have ee : endv (gone S [] x).1 x = endv S x := by unfold endv; rw [(gone_ends x S []).1]
  rcases K.at (p := x) with ⟨k', t', h1, h2⟩ | ⟨h1, h2⟩
  ·refine ⟨t', ?_⟩
   rw [h2, ← ee]; unfold endv; rw [h1]; rfl
  ·refine ⟨tz, ?_⟩
   rw [h2, ← ee]; unfold endv; rw [h1]; rfl
 obtain ⟨t', hv⟩ := hv _
 rw [hv]
 refine R₁.put (x := "told") fun s₃ x₃ R₃ _ => ?_
 refine wpAny_execs_nil (wpAny_execs_nil ?_)
 refine plain_tail R₃ (by lia) set_self (.int _ _) fun s₄ x₄ R₄ => hQ _ ⟨rfl, _, _, _, _, _, _, ?_, R₄.le (by lia), K₁.set (by decide)⟩
 exact (x₁.go x₃).trans x₄
theorem PlAt.close (R : PlAt w L F S n κ b e a σ π Z told s.heap m) {x : Path} {h' : Heap} {zs : List Value} {ps : List Path} {t : Tok} (hp : has S.below x = true) (s2 : StrsAre zs (ps.map toS)) (s3 : ∀ p, p ∈ ps ↔ p ∈ S.shut) (s4 : ps.length ≤ n)
  (hl : h'.PlainList a (zs ++ [Value.str (toS x) t]).toArray) (k : ∀ c o, c ≠ a → s.heap.get? c = some o → h'.get? c = some o) : PlAt w L F (S.close x) (n + 1) κ b e a σ π Z told h' m := by
 obtain ⟨ys, t1, t2⟩ := R.st
 obtain ⟨xs, p1⟩ := R.pi
 have za : ∀ c, Z c → c ≠ a := fun c hc => (R.zo c hc).2.1.2.2.1
 have hea : e ≠ a := fun ex => by
  obtain ⟨o2, es, kk, e2, hd⟩ := R.objE
  obtain ⟨zs', _, ⟨nn, e4⟩, _⟩ := R.sh
  rw [ex, e4] at e2; cases e2; cases hd
 exact {
  b0 := R.b0
  P := R.P.keep (fun o ee => k _ _ (Ne.symm R.oa.1) ee) fun p hp o ee => k _ _ (Ne.symm (R.oa.2 p hp)) ee
  Pe := R.Pe.at' fun o ee => k _ _ hea ee
  W := R.W.close hp
  z := fun p bs hm => Nat.le_succ_of_le (R.z p bs hm)
  bl := Nat.le_succ_of_le R.bl
  el := Nat.le_succ_of_le R.el
  dep := R.dep
  V := R.V.keep fun c o hc ee => k c o (R.own c hc).2.2.1 ee
  nb := R.nb
  ne := R.ne
  na := R.na
  ns := R.ns
  sh := ⟨_, ps ++ [x], hl, by rw [List.map_append]; exact StrsAre.snoc s2 _ t, fun p => by
   rw [List.mem_append, List.mem_singleton, s3]
   show _ ↔ p ∈ x :: S.shut
   rw [List.mem_cons]; exact Or.comm, by simp; lia⟩
  st := ⟨ys, t1.at fun o ee => k _ _ (Ne.symm R.ap.1) ee, t2.zk fun c o hc ee => ⟨k c o (za c hc) ee, hc⟩⟩
  pi := ⟨xs, p1.at fun o ee => k _ _ (Ne.symm R.ap.2.1) ee⟩
  oe := R.oe
  oa := R.oa
  os := R.os
  op := R.op
  ap := R.ap
  own := R.own
  zo := fun c hc => ⟨let ⟨o, ee⟩ := (R.zo c hc).1; ⟨o, k c o (za c hc) ee⟩, (R.zo c hc).2⟩
  old := fun c o ee => ⟨(R.old c o ee).1, k c o (za c (R.old c o ee).1) (R.old c o ee).2⟩ }
theorem plain_turnF {x : Path} {k : Int} {mv : Value} (hA : Ok A 840 840) (R : PlAt w L F S n κ b e a σ π Z told s.heap m) (hlen : told.length ≤ 1000) (hn : n ≤ 1000) (hx : x.length ≤ 3) (dn : Dn "F" x mv m) :
  wpAny (Md w) A (execs plnBody (ePln L)) (PlEnd w L F (turnR S (.F x k)).1 (n + 7) σ π (told ++ [(turnR S (.F x k)).2]) m s) E s := by
 refine wpAny_abs fun Q hQ => ?_
 refine plain_start hA R (by lia) (by lia) (by decide) (by decide) dn fun s₁ κ₁ m₁ x₁ R₁ K₁ d₁ ht hst => ?_
 obtain ⟨t, hk⟩ := d₁.kind
 obtain ⟨u, hw⟩ := d₁.word
 refine wpAny_execs_cons (wpAny_If (wpAny_isTrue_BoolOp (wpAny_allTrue_And_cons (wpAny_isTrue_Compare1 (R₁.V.rd (v := .str "F" t) (Constant_str (eq_str (wpAny_truthy_bool ?_))) hk)))))
 rw [if_neg (by decide), if_neg (by decide)]
 refine wpAny_execs_cons (wpAny_If (wpAny_isTrue_Compare1 (R₁.V.rd (v := .str "F" t) (Constant_str (eq_str (wpAny_truthy_bool ?_))) hk)))
 rw [if_neg (by decide)]
 refine wpAny_execs_cons (wpAny_If (wpAny_isTrue_BoolOp (wpAny_allTrue_And_cons (wpAny_isTrue_Compare1 (R₁.V.rd (v := .str "F" t) (Constant_str (eq_str (wpAny_truthy_bool ?_))) hk)))))
 rw [if_pos (by decide)]
 refine wpAny_allTrue_And_cons (wpAny_isTrue_value (R₁.V.rd (v := .bool (gone S [] x).2) (wpAny_truthy_bool ?_) hst))
 have R₁' : ∀ {tk : Nat}, PlAt w L F (gone S [] x).1 (n + x.length) κ₁ b e a σ π Z told ({ s₁ with toks := tk } : Shared).heap m₁ := R₁
 cases hg : (gone S [] x).2 with
 | true =>
  rw [if_pos rfl]
  refine wpAny_allTrue_And_nil ?_
  rw [if_pos rfl]
  obtain ⟨zs, ps, s1, s2, s3, s4⟩ := R₁.sh
  refine wpAny_execs_cons (wpAny_Expr (ev_Method (R₁.V.rd (v := .ref a) (fun pl => getm_append s1 (cw_builtin (R₁.V.rd (v := .str (toS x) u) ?_ hw))) R₁.na)))
  refine wpAny_list_append_plain s1 (fun h' hl S' => ?_) (by rw [List.size_toArray, StrsAre.len s2, List.length_map, sizeLine_eq]; lia)
  have hthere : has (gone S [] x).1.below x = true := by simpa using gone_there x S [] R.W.root hg
  have R₂ := R₁.close (h' := h') (zs := zs) (ps := ps) (t := u) hthere s2 s3 s4 (by
   have : (zs ++ [Value.str (toS x) u]).toArray = zs.toArray.push (.str (toS x) u) := by simp
   rw [this]; exact hl) fun c o hc ee => (S'.2 c hc).trans ee
  refine wpAny_execs_nil (wpAny_execs_nil (wpAny_execs_nil ?_))
  have e1 : (turnR S (.F x k)).1 = (gone S [] x).1.close x := by show (if _ then _ else _) = _; rw [if_pos hg]
  rw [e1] at hQ
  refine plain_tail (s := { s₁ with heap := h', toks := _ }) R₂ (by lia) ht .none fun s₄ x₄ R₄ => hQ _ ⟨rfl, _, _, _, _, _, _, ?_, R₄.le (by lia), K₁⟩
  exact x₁.go x₄
 | false =>
  rw [if_neg (by simp), if_neg (by simp)]
  refine wpAny_execs_cons (wpAny_If (wpAny_isTrue_Compare1 (R₁.V.rd (v := .str "F" t) (Constant_str (eq_str (wpAny_truthy_bool ?_))) hk)))
  rw [if_neg (by decide)]
  refine wpAny_execs_nil (wpAny_execs_nil (wpAny_execs_nil (wpAny_execs_nil ?_)))
  have e1 : (turnR S (.F x k)).1 = (gone S [] x).1 := by show (if _ then _ else _) = _; rw [if_neg (by rw [hg]; simp)]
  rw [e1] at hQ
  refine plain_tail (s := { s₁ with toks := _ }) R₁' (by lia) ht .none fun s₄ x₄ R₄ => hQ _ ⟨rfl, _, _, _, _, _, _, ?_, R₄.le (by lia), K₁⟩
  exact x₁.go x₄
end
end
section
theorem stored_has {kvs : KVs} {x : Str} {v : Value} (h : x ∈ kvs.map (·.1)) : stored kvs x v = kvs.map fun kv => if kv.1 = x then (kv.1, v) else kv := by
 unfold stored
 rw [if_pos (any_keys.mpr h)]
theorem mem_unique {β : Type} {l : List (Path × β)} {p : Path} {b c : β} (nd : (l.map (·.1)).Nodup) (h1 : (p, b) ∈ l) (h2 : (p, c) ∈ l) : b = c := Option.some.inj ((mem_look nd h1).symm.trans (mem_look nd h2))
theorem EK.stored {l : List (Path × Int)} {kvs : KVs} (x : EK l kvs) (p : Path) (k : Int) (t : Tok) : EK (storeE l p k) (PySem.stored kvs (toS p) (.int k t)) := by
 by_cases hp : has l p = true
 ·have hm : toS p ∈ kvs.map (·.1) := by
   rw [x.keys]
   obtain ⟨b, hb⟩ := has_iff.mp hp
   exact List.mem_map.mpr ⟨_, hb, rfl⟩
  rw [stored_has hm]
  unfold storeE
  rw [if_pos hp]
  clear hp hm
  induction x with
  | nil => exact .nil
  | @cons q k' t' l kvs _ ih =>
   unfold onKey at ih ⊢
   rw [List.map_cons, List.map_cons]
   by_cases hq : q = p
   ·rw [if_pos hq, if_pos (by rw [hq])]
    exact .cons ih
   ·rw [if_neg hq, if_neg (fun e => hq (toS_inj e))]
    exact .cons ih
 ·have hab : valueAt kvs (toS p) = none := by
   rcases x.at (p := p) with ⟨k', t', h1, _⟩ | ⟨_, h1⟩
   ·exact absurd (by cases e9 : has l p with
     | true => rfl
     | false => rw [look_none.mpr e9] at h1; cases h1) hp
   ·exact h1
  rw [stored_absent hab]
  unfold storeE
  rw [if_neg hp]
  exact x.snoc p k t
theorem storeE_len {l : List (Path × Int)} {p : Path} {k : Int} : (storeE l p k).length ≤ l.length + 1 := by
 unfold storeE
 split
 ·unfold onKey; simp
 ·simp
section
variable {w : World} {A : Around} {E : Value → Shared → Prop} {s : Shared}
theorem list_extend {D C : Nat} {xs ys : List Value} {Q : Value → Shared → Prop} (hP : s.heap.PlainList D xs.toArray) (hC : s.heap.PlainList C ys.toArray) (hz : xs.length + ys.length ≤ 100000)
  (h : ∀ h', h'.PlainList D (xs ++ ys).toArray → (∀ c o, c ≠ D → s.heap.get? c = some o → h'.get? c = some o) → Q .none { s with heap := h' }) : wpAny (Md w) A (call (.builtin "list.extend") [.ref D, .ref C]) Q E s := by
 obtain ⟨n, e⟩ := hP
 obtain ⟨n2, e2⟩ := hC
 refine call_meets PySem.F.slot_list_extend ⟨_, e, rfl⟩ PySem.F.entry_list_extend (PySem.F.args_list_extend_2 _ _) (PySem.AutoSeq1.list_extend_list_list_0 D _ n C _ n2 (by
  rw [List.size_toArray, List.size_toArray]
  have : Builtin.List.listTooLong (xs.length + ys.length) = false := by
   unfold Builtin.List.listTooLong
   rw [sizeLine_eq]
   simp
   lia
  rw [this]; simp) (by rw [List.size_toArray, sizeLine_eq]; lia) (by rw [List.size_toArray, List.size_toArray, sizeLine_eq]; lia)) ⟨e, e2, h _ ?_ fun c o hc ee => (Heap.get?_update_other _ _ (Ne.symm hc)).trans ee⟩
 have q := PySem.IsL.update (show PySem.IsL s.heap D xs.toArray n from e) fun x => x ++ ys.toArray
 exact ⟨_, by rw [show (xs ++ ys).toArray = xs.toArray ++ ys.toArray from by simp]; exact q⟩
theorem getm_extend {D : Nat} {xs : Array Value} {pl : Sem Bool} {Q : Value × List Value → Shared → Prop} (hP : s.heap.PlainList D xs) (h : Q (.builtin "list.extend", [.ref D]) s) : wpAny (Md w) A (getMethod (.ref D) "extend" pl) Q E s := by
 obtain ⟨nn, ho⟩ := hP
 exact getMethod_builtin ⟨_, ho, rfl⟩ PySem.F.plainAttrs_list PySem.F.slot_list_extend PySem.F.type_list_extend (fun a e => by cases e; exact ⟨_, ho, rfl⟩) h
variable {L : Nat} {F : Nat → Obj → Prop} {S : St} {n : Nat} {κ : Path → Nat} {b e a σ π : Nat} {Z : Nat → Prop} {told : List PyData} {m : Str → Option Value}
theorem bkv_put {p : Path} {k : Int} : bkv (S.put p k).below κ = bkv S.below κ := by
 rw [put_below]
 split
 ·rfl
 ·unfold bkv onKey
  rw [List.map_map]
  refine List.map_congr_left fun kv _ => ?_
  simp only [Function.comp]
  split <;> rfl
theorem off_put {p : Path} {k : Int} {c : Nat} (o : Off S.below κ b c) : Off (S.put p k).below κ b c := ⟨o.1, fun q hq => o.2 q (has_put.mp hq)⟩
theorem PlAt.ent {h h' : Heap} (R : PlAt w L F S n κ b e a σ π Z told h m) {x : Path} {k : Int} {t t2 : Tok} {bs : List Path} {vs : List Value} {kvs : KVs} (hx : (x, bs) ∈ S.below) (hvs : StrsAre vs (bs.map toS)) (K : EK S.ends kvs)
  (hl : h'.PlainList (κ x) (vs ++ if has S.ends x = true then [] else [Value.str (toS []) t]).toArray) (hD : PD w h' e (stored kvs (toS x) (.int k t2))) (kp : ∀ c o, c ≠ κ x → c ≠ e → h.get? c = some o → h'.get? c = some o) : PlAt w L F (S.put x k) (n + 1) κ b e a σ π Z told h' m := by
 have hx' : has S.below x = true := has_iff.mpr ⟨bs, hx⟩
 obtain ⟨zs, ps, s1, s2, s3, s4⟩ := R.sh
 obtain ⟨ys, t1, t2'⟩ := R.st
 obtain ⟨xs, p1⟩ := R.pi
 obtain ⟨oE, esE, kE, eE, hdE⟩ := R.objE
 have ke : ∀ p, has S.below p = true → κ p ≠ e := fun p hp ex => R.oe.2 p hp ex.symm
 have kk : ∀ p, has S.below p = true → p ≠ x → ∀ o, h.get? (κ p) = some o → h'.get? (κ p) = some o := fun p hp hpx o ee => kp _ o (fun y => hpx (R.P.inj p x hp hx' y)) (ke p hp) ee
 have off : ∀ {c : Nat}, Off S.below κ b c → c ≠ κ x := fun o => o.2 x hx'
 have plE : ∀ {c : Nat} {vs : Array Value}, h.PlainList c vs → c ≠ e := fun ⟨nn, e4⟩ ex => by
  rw [ex, eE] at e4; cases e4; cases hdE
 have bx : b ≠ κ x := fun ex => by
  obtain ⟨o1, es, k1, e1, hd1⟩ := R.P.objD
  obtain ⟨o2, vs2, k2, e2, hd2⟩ := R.P.objK hx'
  rw [ex, e2] at e1; cases e1; rw [hd2] at hd1; cases hd1
 have kf : ∀ c o, Far S κ b e a σ π c → h.get? c = some o → h'.get? c = some o := fun c o f ee => kp c o (off f.1) f.2.1 ee
 exact {
  b0 := R.b0
  P := {
   d := by rw [bkv_put]; exact R.P.d.at fun o ee => kp _ o bx (Ne.symm R.oe.1) ee
   k := fun p bs' hm => by
    rw [put_below] at hm
    by_cases hpx : p = x
    ·subst hpx
     split at hm
     ·rename_i he
      rw [if_pos he, List.append_nil] at hl
      have e1 : bs' = bs := mem_unique R.W.nd hm hx
      exact ⟨vs, hl, by rw [e1]; exact hvs⟩
     ·rename_i he
      rw [if_neg he] at hl
      rcases mem_onKey.mp hm with ⟨h1, _⟩ | ⟨_, c, hc, rfl⟩
      ·exact absurd rfl h1
      ·have e1 : c = bs := mem_unique R.W.nd hc hx
       exact ⟨_, hl, by rw [e1, List.map_append]; exact StrsAre.snoc hvs _ t⟩
    ·have hm' : (p, bs') ∈ S.below := by
      split at hm
      ·exact hm
      ·rcases mem_onKey.mp hm with ⟨_, h2⟩ | ⟨h1, _⟩
       ·exact h2
       ·exact absurd h1 hpx
     obtain ⟨vs', ⟨nn, e1⟩, r⟩ := R.P.k p bs' hm'
     exact ⟨vs', ⟨nn, kk p (has_iff.mpr ⟨bs', hm'⟩) hpx _ e1⟩, r⟩
   inj := fun p q hp hq => R.P.inj p q (has_put.mp hp) (has_put.mp hq)
   lo := R.P.lo
   lk := fun p hp => R.P.lk p (has_put.mp hp) }
  Pe := ⟨⟨_, hD, K.stored x k t2⟩, R.Pe.lo⟩
  W := R.W.put hx'
  z := fun p bs' hm => by
   rcases mem_put hm with h1 | ⟨rfl, _, b', hb', rfl⟩
   ·exact Nat.le_succ_of_le (R.z p bs' h1)
   ·have := R.z _ b' hb'
    simp; lia
  bl := by
   have e1 : (bkv (S.put x k).below κ).length = (bkv S.below κ).length := by rw [bkv_put]
   rw [bkv_len, bkv_len] at e1
   rw [e1]; exact Nat.le_succ_of_le R.bl
  el := Nat.le_trans (storeE_len) (Nat.succ_le_succ R.el)
  dep := fun q hq => R.dep q (has_put.mp hq)
  V := R.V.keep fun c o hc ee => kf c o (R.own c hc) ee
  nb := R.nb
  ne := R.ne
  na := R.na
  ns := R.ns
  sh := ⟨zs, ps, s1.at fun o ee => kp _ o (off R.oa) (plE s1) ee, s2, s3, Nat.le_succ_of_le s4⟩
  st := ⟨ys, t1.at fun o ee => kp _ o (off R.os) (plE t1) ee, t2'.zk fun c o hc ee => ⟨kf c o (R.zo c hc).2.1 ee, hc⟩⟩
  pi := ⟨xs, p1.at fun o ee => kp _ o (off R.op) (plE p1) ee⟩
  oe := off_put R.oe
  oa := off_put R.oa
  os := off_put R.os
  op := off_put R.op
  ap := R.ap
  own := fun c hc => ⟨off_put (R.own c hc).1, (R.own c hc).2⟩
  zo := fun c hc => ⟨let ⟨o, ee⟩ := (R.zo c hc).1; ⟨o, kf c o (R.zo c hc).2.1 ee⟩, ⟨off_put (R.zo c hc).2.1.1, (R.zo c hc).2.1.2⟩, (R.zo c hc).2.2⟩
  old := fun c o ee => ⟨(R.old c o ee).1, kf c o (R.zo c (R.old c o ee).1).2.1 (R.old c o ee).2⟩ }
end
end
section
section
variable {w : World} {A : Around} {E : Value → Shared → Prop} {s : Shared} {L : Nat} {F : Nat → Obj → Prop} {S : St} {n : Nat} {κ : Path → Nat} {b e a σ π : Nat} {Z : Nat → Prop} {told : List PyData} {m : Str → Option Value}
theorem ev_lists {c : Bool} {env : Env} {kk : Nat} {p1 p2 p3 : Pos} {Q : Value → Shared → Prop} (h : ∀ C tz s₂, Sx s s₂ → (∀ c o, s.heap.get? c = some o → s₂.heap.get? c = some o) → s₂.heap.PlainList C (if c = true then [Value.str (toS []) tz] else []).toArray → Q (.ref C) s₂) :
  if c = true then wpAny (Md w) A (eval (.List [.Constant (.str "") kk p1] p2) env) Q E s else wpAny (Md w) A (eval (.List [] p3) env) Q E s := by
 cases c with
 | true =>
  rw [if_pos rfl]
  refine ev_List (Constant_str ?_)
  exact h _ s.toks _ (.trans (s' := s) (.refl s) ⟨rfl, rfl, rfl⟩) (fun c o ee => Heap.get?_push_of_some _ ee) ⟨0, Heap.get?_push_size _ rfl⟩
 | false =>
  rw [if_neg (by simp)]
  refine ev_List0 ?_
  exact h _ 0 _ ⟨rfl, rfl, rfl⟩ (fun c o ee => Heap.get?_push_of_some _ ee) ⟨0, Heap.get?_push_size _ rfl⟩
theorem plain_turnP {x : Path} {k : Int} {tv : Tok} (hA : Ok A 840 840) (R : PlAt w L F S n κ b e a σ π Z told s.heap m) (hlen : told.length ≤ 1000) (hn : n ≤ 1000) (hx : x.length ≤ 3) (dn : Dn "P" x (.int k tv) m) :
  wpAny (Md w) A (execs plnBody (ePln L)) (PlEnd w L F (turnR S (.P x k)).1 (n + 7) σ π (told ++ [(turnR S (.P x k)).2]) m s) E s := by
 refine wpAny_abs fun Q hQ => ?_
 refine plain_start hA R (by lia) (by lia) (by decide) (by decide) dn fun s₁ κ₁ m₁ x₁ R₁ K₁ d₁ ht hst => ?_
 obtain ⟨t, hk⟩ := d₁.kind
 obtain ⟨u, hw⟩ := d₁.word
 have hmv := d₁.more
 refine wpAny_execs_cons (wpAny_If (wpAny_isTrue_BoolOp (wpAny_allTrue_And_cons (wpAny_isTrue_Compare1 (R₁.V.rd (v := .str "P" t) (Constant_str (eq_str (wpAny_truthy_bool ?_))) hk)))))
 rw [if_pos (by decide)]
 refine wpAny_allTrue_And_cons (wpAny_isTrue_value (R₁.V.rd (v := .bool (gone S [] x).2) (wpAny_truthy_bool ?_) hst))
 have R₁' : ∀ {tk : Nat}, PlAt w L F (gone S [] x).1 (n + x.length) κ₁ b e a σ π Z told ({ s₁ with toks := tk } : Shared).heap m₁ := R₁
 cases hg : (gone S [] x).2 with
 | true =>
  rw [if_pos rfl]
  refine wpAny_allTrue_And_nil ?_
  rw [if_pos rfl]
  have hthere : has (gone S [] x).1.below x = true := by simpa using gone_there x S [] R.W.root hg
  have e1 : (turnR S (.P x k)).1 = (gone S [] x).1.put x k := by show (if _ then _ else _) = _; rw [if_pos hg]
  rw [e1] at hQ
  generalize (gone S [] x).1 = G at R₁ R₁' hthere hQ
  obtain ⟨bs, hb⟩ := has_iff.mp hthere
  obtain ⟨vs, hP, hvs⟩ := R₁.P.k x bs hb
  obtain ⟨kvs, D, K⟩ := R₁.Pe.d
  have hbs : bs.length ≤ n + x.length := R₁.z x bs hb
  have hvl : vs.length = bs.length := by rw [StrsAre.len hvs, List.length_map]
  have hkv : kvs.length ≤ n + x.length := by rw [K.len]; exact R₁.el
  have hem : (valueAt kvs (toS x)).isSome = has G.ends x := by
   rcases K.at (p := x) with ⟨k', t', h1, h2⟩ | ⟨h1, h2⟩
   ·rw [h2]
    cases e9 : has G.ends x with
    | true => rfl
    | false => rw [look_none.mpr e9] at h1; cases h1
   ·rw [h2, look_none.mp h1]; rfl
  refine wpAny_execs_cons (wpAny_Expr (ev_Method (ev_Sub (R₁.V.rd (v := .ref b) (R₁.V.rd (v := .str (toS x) u) (gip_ty (R₁.P.d.ty' rfl) slot_dict_getitem.lookup ⟨rfl, pd_getItem R₁.P.d (v := .ref (κ₁ x)) (by rw [bkv_at, if_pos hthere]) ?_⟩) hw) R₁.nb))))
  intro pl
  refine getm_extend hP (cw_builtin (ev_IfExp (wpAny_isTrue_Compare1 (R₁.V.rd (v := .str (toS x) u) (R₁.V.rd (v := .ref e) (notin_of (pd_contains D R₁.Pe.lo (wpAny_truthy_bool ?_))) R₁.ne) hw))))
  rw [hem]
  refine ev_lists fun C tz s₂ x₂ k₂ hC => ?_
  refine list_extend (hP.at fun o ee => k₂ _ _ ee) hC (by split <;> simp <;> lia) fun h₃ hl₃ k₃ => ?_
  have hke : κ₁ x ≠ e := fun ex => R₁.oe.2 x hthere ex.symm
  have kx : ∀ c, OwnA (ePln L) c → c ≠ κ₁ x := fun c hc => (R₁.own c hc).1.2 x hthere
  have V₃ : Vars h₃ (ePln L) m₁ := R₁.V.keep fun c o hc ee => k₃ c o (kx c hc) (k₂ c o ee)
  have D₃ : PD w h₃ e kvs := D.at fun o ee => k₃ _ o (Ne.symm hke) (k₂ _ _ ee)
  refine wpAny_execs_cons (wpAny_Assign_Subscript (V₃.rd (v := .int k tv) (V₃.rd (v := .ref e) (V₃.rd (v := .str (toS x) u) ?_ hw) R₁.ne) hmv))
  refine pd_setItem D₃ (by rw [sizeLine_eq]; lia) fun s₄ x₄ D₄ k₄ => ?_
  have R₄ : PlAt w L F (G.put x k) (n + x.length + 1) κ₁ b e a σ π Z told s₄.heap m₁ := R₁.ent (t := tz) (t2 := tv) hb hvs K (by
   have e9 : (if (!has G.ends x) = true then [Value.str (toS []) tz] else []) = if has G.ends x = true then [] else [Value.str (toS []) tz] := by cases has G.ends x <;> rfl
   rw [e9] at hl₃
   exact hl₃.at fun o ee => k₄ _ o hke ee) D₄ fun c o h1 h2 ee => k₄ c o h2 (k₃ c o h1 (k₂ c o ee))
  refine wpAny_execs_nil ?_
  refine plain_tail R₄ (by lia) ht .none fun s₅ x₅ R₅ => hQ _ ⟨rfl, _, _, _, _, _, _, ?_, R₅.le (by lia), K₁⟩
  exact ((x₁.go x₂).go x₄).trans x₅
 | false =>
  rw [if_neg (by simp), if_neg (by simp)]
  refine wpAny_execs_cons (wpAny_If (wpAny_isTrue_Compare1 (R₁.V.rd (v := .str "P" t) (Constant_str (eq_str (wpAny_truthy_bool ?_))) hk)))
  rw [if_neg (by decide)]
  refine wpAny_execs_cons (wpAny_If (wpAny_isTrue_BoolOp (wpAny_allTrue_And_cons (wpAny_isTrue_Compare1 (R₁.V.rd (v := .str "P" t) (Constant_str (eq_str (wpAny_truthy_bool ?_))) hk)))))
  rw [if_neg (by decide), if_neg (by decide)]
  refine wpAny_execs_cons (wpAny_If (wpAny_isTrue_Compare1 (R₁.V.rd (v := .str "P" t) (Constant_str (eq_str (wpAny_truthy_bool ?_))) hk)))
  rw [if_neg (by decide)]
  refine wpAny_execs_nil (wpAny_execs_nil (wpAny_execs_nil (wpAny_execs_nil ?_)))
  have e1 : (turnR S (.P x k)).1 = (gone S [] x).1 := by show (if _ then _ else _) = _; rw [if_neg (by rw [hg]; simp)]
  rw [e1] at hQ
  refine plain_tail (s := { s₁ with toks := _ }) R₁' (by lia) ht .none fun s₄ x₄ R₄ => hQ _ ⟨rfl, _, _, _, _, _, _, ?_, R₄.le (by lia), K₁⟩
  exact x₁.go x₄
end
end
section
section
variable {w : World} {A : Around} {E : Value → Shared → Prop} {s : Shared} {L : Nat} {F : Nat → Obj → Prop} {S : St} {n : Nat} {κ : Path → Nat} {b e a σ π : Nat} {Z : Nat → Prop} {told : List PyData} {m : Str → Option Value}
theorem plain_startT {x : Path} {c : Nat} {mv : Value} {Q : Flow → Shared → Prop} (hA : Ok A 840 840) (R : PlAt w L F S n κ b e a σ π Z told s.heap m) (hn : n ≤ 10000) (hx : x.length ≤ 5) (dn : Dn "T" (x ++ [c]) mv m)
  (h : ∀ s' κ' m', Sx s s' → PlAt w L F (gone S [] x).1 (n + x.length) κ' b e a σ π Z told s'.heap m' → Kept m m' → Dn "T" (x ++ [c]) mv m' → wpAny (Md w) A (execs (plnBody.drop 3) (ePln L)) Q E s') :
  wpAny (Md w) A (execs plnBody (ePln L)) Q E s := by
 obtain ⟨t, hk⟩ := dn.kind
 obtain ⟨u, hw⟩ := dn.word
 refine wpAny_execs_cons (Assign_Tuple_swapped (names := ["way", "told"]) (ev_Tuple (ev_IfExp (wpAny_isTrue_Compare1 (R.V.rd (v := .str "T" t) (Constant_str (eq_str (wpAny_truthy_bool ?_))) hk)))))
 rw [if_pos (by decide)]
 refine ev_slice (R.V.rd (v := .str (toS (x ++ [c])) u) (wpAny_pure (wpAny_UnaryOp (wpAny_Constant_int (neg_int ⟨x ++ [c], u, none, some (-1, _), rfl, rfl, rfl, by rw [List.length_append]; simp; lia, fun s₀ t₀ g₀ => ?_⟩)))) hw)
 simp only [Option.map_none, Option.map_some]
 rw [psl_init]
 have k₀ : ∀ c o, s.heap.get? c = some o → s₀.heap.get? c = some o := g₀.keep
 refine wpAny_Constant_none ?_
 refine swp2 hA.h (Heap.get?_push_size _ rfl) rfl rfl fun s₁ g₁ => ?_
 have k₁ : ∀ c o, s.heap.get? c = some o → s₁.heap.get? c = some o := fun c o ee => g₁.keep _ _ (Heap.get?_push_of_some _ (k₀ _ _ ee))
 have R₁ := R.grow k₁
 refine R₁.put (x := "told") fun s₂ x₂ R₂ _ => R₂.put (x := "way") fun s₃ x₃ R₃ _ => ?_
 have x₃' : Sx s s₃ := (((Sx.refl s).go g₀.sx).go g₁.sx).trans (x₂.trans x₃)
 have d₃ := (dn.set (m := m) (y := "told") (v := .none) (by decide)).set (y := "way") (v := .str (toS x) t₀) (by decide)
 have K₃ : Kept m (set (set m "told" .none) "way" (.str (toS x) t₀)) := ((Kept.refl m).set (by decide)).set (by decide)
 have hy₃ : set (set m "told" .none) "way" (.str (toS x) t₀) "way" = some (.str (toS x) t₀) := set_self
 generalize set (set m "told" .none) "way" (.str (toS x) t₀) = m₃ at *
 obtain ⟨t', hk₃⟩ := d₃.kind
 refine wpAny_execs_cons (wpAny_If (wpAny_isTrue_Compare1 (R₃.V.rd (v := .str "T" t') (Constant_str (eq_str (wpAny_truthy_bool ?_))) hk₃)))
 rw [if_neg (by decide)]
 refine wpAny_execs_nil ?_
 have R₃' := R₃.grow (h' := s₃.heap) fun _ _ ee => ee
 refine wpAny_execs_cons (wpAny_Assign_Name (ev_Call (glob (v := .ref 277) R₃.bs (cw_callable (R₃.V.rd (v := .ref b) (R₃.V.rd (v := .ref a) (R₃.V.rd (v := .str (toS x) t₀) ⟨fnCallable R₃.bs (o277p6 w.params) _, ?_⟩ hy₃) R₃.na) R₃.nb)))))
 refine plain_gone (hA.le (by decide) (by decide)) R₃' hn (by lia) fun s₄ κ' x₄ R₄ => ?_
 refine R₄.put (x := "stays") fun s₅ x₅ R₅ _ => ?_
 exact h s₅ κ' _ ((x₃'.go x₄).trans x₅) R₅ (K₃.set (by decide)) (d₃.set (by decide))
theorem PlAt.swapT {h h' : Heap} (R : PlAt w L F S n κ b e a σ π Z told h m) {x : Path} (hx : x ≠ []) {m' : Str → Option Value} {κ' : Path → Nat} {b' e' a' : Nat} {zs : List Value} {ps : List Path} (kp : ∀ c o, ¬ OwnA (ePln L) c → h.get? c = some o → h'.get? c = some o) (V' : Vars h' (ePln L) m')
  (P' : PB w h' b' (S.drop x).below κ') (Pe' : PE w h' e' (S.drop x).ends) (s1 : h'.PlainList a' zs.toArray) (s2 : StrsAre zs (ps.map toS)) (s3 : ∀ p, p ∈ ps ↔ p ∈ (S.drop x).shut) (s4 : ps.length ≤ n)
  (lb : h.objs.size ≤ b') (le : h.objs.size ≤ e') (la : h.objs.size ≤ a') (lk : ∀ p, has (S.drop x).below p = true → h.objs.size ≤ κ' p)
  (oe : Off (S.drop x).below κ' b' e') (oa : Off (S.drop x).below κ' b' a')
  (nb : m' "below" = some (.ref b')) (ne : m' "ends" = some (.ref e')) (na : m' "shut" = some (.ref a')) (ns : m' "story" = some (.ref σ)) : PlAt w L F (S.drop x) n κ' b' e' a' σ π Z told h' m' := by
 obtain ⟨ys, t1, t2⟩ := R.st
 obtain ⟨xs, p1⟩ := R.pi
 have lt : ∀ {c d : Nat}, (∃ o, h.get? c = some o) → h.objs.size ≤ d → c ≠ d := fun ⟨o, e1⟩ hd => Nat.ne_of_lt (Nat.lt_of_lt_of_le (Heap.lt_size e1) hd)
 have farN : ∀ {c : Nat}, (∃ o, h.get? c = some o) → c ≠ σ → c ≠ π → Far (S.drop x) κ' b' e' a' σ π c := fun hc h1 h2 => ⟨⟨lt hc lb, fun p hp => lt hc (lk p hp)⟩, lt hc le, lt hc la, h1, h2⟩
 have exs : ∀ {x : Nat} {vs : Array Value}, h.PlainList x vs → ∃ o, h.get? x = some o := fun ⟨nn, e1⟩ => ⟨_, e1⟩
 have os : ¬ OwnA (ePln L) σ := fun ho => (R.own σ ho).2.2.2.1 rfl
 have op : ¬ OwnA (ePln L) π := fun ho => (R.own π ho).2.2.2.2 rfl
 have hsub : (S.drop x).below.length ≤ S.below.length := by
  show (List.map _ _).length ≤ _
  rw [List.length_map]
  exact List.length_filter_le _ _
 exact {
  b0 := R.b0
  P := P'
  Pe := Pe'
  W := R.W.drop hx
  z := R.z.drop x
  bl := Nat.le_trans hsub R.bl
  el := Nat.le_trans (List.length_filter_le _ _) R.el
  dep := fun q hq => R.dep q (mem_dropB hq).1
  V := V'
  nb := nb
  ne := ne
  na := na
  ns := ns
  sh := ⟨zs, ps, s1, s2, s3, s4⟩
  st := ⟨ys, t1.at fun o ee => kp _ o os ee, t2.zk fun c o hc ee => ⟨kp c o (R.zo c hc).2.2 ee, hc⟩⟩
  pi := ⟨xs, p1.at fun o ee => kp _ o op ee⟩
  oe := oe
  oa := oa
  os := ⟨lt (exs t1) lb, fun p hp => lt (exs t1) (lk p hp)⟩
  op := ⟨lt (exs p1) lb, fun p hp => lt (exs p1) (lk p hp)⟩
  ap := ⟨Ne.symm (lt (exs t1) la), Ne.symm (lt (exs p1) la), R.ap.2.2⟩
  own := fun c hc => farN (R.V.own hc) (R.own c hc).2.2.2.1 (R.own c hc).2.2.2.2
  zo := fun c hc => ⟨let ⟨o, ee⟩ := (R.zo c hc).1; ⟨o, kp c o (R.zo c hc).2.2 ee⟩, farN (R.zo c hc).1 (R.zo c hc).2.1.2.2.2.1 (R.zo c hc).2.1.2.2.2.2, (R.zo c hc).2.2⟩
  old := fun c o ee => ⟨(R.old c o ee).1, kp c o (R.zo c (R.old c o ee).1).2.2 (R.old c o ee).2⟩ }
end
end
section
section
variable {w : World} {A : Around} {E : Value → Shared → Prop} {s : Shared} {L : Nat} {F : Nat → Obj → Prop} {S : St} {n : Nat} {κ : Path → Nat} {b e a σ π : Nat} {Z : Nat → Prop} {told : List PyData} {m : Str → Option Value}
theorem stmt_shut {py spos : Pos} {L a : Nat} {m : Str → Option Value} {zs : List Value} {ps : List Path} {x : Path} {t2 : Tok} {Q : Flow → Shared → Prop} {q1 q5 pos r1 r2 r3 r4 r5 r6 r7 r8 r9 : Pos} (hh : A.handled = none) (B : Bs w s.heap) (V : Vars s.heap (ePln L) m) (hz : s.heap.PlainList a zs.toArray) (hzs : StrsAre zs (ps.map toS))
  (hw : m "word" = some (.str (toS x) t2)) (hb : m "shut" = some (.ref a)) (hpl : ∀ p ∈ ps, p.length ≤ 1000) (hxl : x.length ≤ 1000) (hln : ps.length ≤ 100000)
  (h : ∀ D s' ys, Sx s s' → (∀ c o, c ≠ L → s.heap.get? c = some o → s'.heap.get? c = some o) → Vars s'.heap (ePln L) (set m "shut" (.ref D)) → s.heap.objs.size ≤ D → s'.heap.PlainList D ys.toArray → StrsAre ys ((ps.filter fun p => !under x p).map toS) → Q .next s') (hsw : swapsWith (.ListComp (.Name "path" q1)
   [⟨.Name "path" q5, .Name "shut" r1, [.Compare (.Subscript (.Name "path" r2) (.Slice none (some (.Call (.Name "len" r3) [.Name "word" r4] [] r5)) none r6) r7) [.NotEq] [.Name "word" r8] r9], 0⟩] scS pos) (some (.Name "shut" py)) spos.line (ePln L) = pure true := by rfl) :
  wpAny (Md w) A (exec (.Assign [.Name "shut" py] (.ListComp (.Name "path" q1)
   [⟨.Name "path" q5, .Name "shut" r1, [.Compare (.Subscript (.Name "path" r2) (.Slice none (some (.Call (.Name "len" r3) [.Name "word" r4] [] r5)) none r6) r7) [.NotEq] [.Name "word" r8] r9], 0⟩] scS pos) spos) (ePln L)) Q E s := by
 have hvl : zs.length = ps.length := by rw [StrsAre.len hzs, List.length_map]
 refine lcompS (y := "shut") (s₀ := s) (cl := [("word", L + 3)]) V (by
  intro p hp; simp at hp; subst hp
  exact ⟨rfl, fun e0 => absurd (show some NameKind.cell = some .local from e0) (by decide)⟩) (V.rd (v := .ref a) (comp_list (ds := ps.map fun p => if (!under x p) = true then some (PyData.str (toS p)) else none) hh (.refl _) (fun _ _ e => e) (Nat.le_refl _) hz.isList (by rw [List.size_toArray, hvl]; exact hln) (by rw [List.length_map, List.size_toArray, hvl]) ?_ ?_) hb) hsw rfl (by kernel_rfl)
 ·intro C cenv hcenv hsC it i v od s' m' E'' hvi hod hit V' hm' k'
  obtain ⟨y, tg, hy, rfl⟩ := strs_at hzs (i := i) (v := v) (by simpa using hvi)
  rw [List.getElem?_map] at hy
  obtain ⟨p, hg, rfl⟩ := Option.map_eq_some_iff.mp hy
  have hpl' := hpl p (List.mem_of_getElem? hg)
  have hod' : od = if (!under x p) = true then some (PyData.str (toS p)) else none := by
   rw [List.getElem?_map, hg] at hod
   exact (Option.some.inj hod).symm
  have hloc : cenv.locals = C := by rw [hcenv]; rfl
  have vok : varOk cenv "path" = true ∧ varOk cenv "word" = true := by rw [hcenv]; exact ⟨rfl, rfl⟩
  have hkl : cenv.kindOf "path" = some .local ∧ cenv.scope.kind = .function ∧ cenv.kindOf "len" = some .globalImplicit ∧ cenv.globals = 3 ∧ cenv.builtins = 0 := by rw [hcenv]; exact ⟨rfl, rfl, rfl, rfl, rfl⟩
  clear hod hvi hit hg hy hcenv
  refine turn_name hloc hkl.1 (fun y hy => by
   simp only [List.lookup] at hy
   split at hy
   ·rename_i h2; rw [beq_iff_eq.mp h2]; decide
   ·cases hy) V' hm' hsC k' fun s₃ m₃ G1 G0 V₃ hp₃ hm₃ k₃ hC₃ g1 g0 => ?_
  have hw₃ : m₃ "word" = some (.str (toS x) t2) := (hm₃ "word" rfl).trans hw
  refine wpAny_tests_one (test_under (B.grow k₃) V₃ hp₃ hw₃ hpl' hxl vok.1 vok.2 (fun s₄ g₄ => ?_) hkl.2.1 hkl.2.2.1 hkl.2.2.2.1 hkl.2.2.2.2)
  cases hu : under x p with
  | true =>
   rw [hu, if_neg (by simp)] at hod'
   rw [show (!true) = false from rfl, if_neg (by simp)]
   exact g0 _ hod' g₄
  | false =>
   rw [hu, if_pos (by simp)] at hod'
   rw [show (!false) = true from rfl, if_pos rfl]
   exact (V₃.grow g₄.keep).rd (v := .str (toS p) tg) (g1 _ _ _ hod' g₄ (.str _ _)) hp₃ rfl vok.1
 ·rw [filt_eq]
  intro D s' ys x' k' V' hsD hP' hI
  exact h D s' ys x' k' V' hsD hP' (strs_of hI)
theorem plain_turnT {x : Path} {c : Nat} {k : Int} {mv : Value} (hA : Ok A 840 800) (R : PlAt w L F S n κ b e a σ π Z told s.heap m) (hlen : told.length ≤ 1000) (hn : n ≤ 1000) (hx : x.length ≤ 2) (dn : Dn "T" (x ++ [c]) mv m) :
  wpAny (Md w) A (execs plnBody (ePln L)) (PlEnd w L F (turnR S (.T x c k)).1 (n + 7) σ π (told ++ [(turnR S (.T x c k)).2]) m s) E s := by
 refine wpAny_abs fun Q hQ => ?_
 refine plain_startT (hA.le (by decide) (by decide)) R (by lia) (by lia) dn fun s₁ κ₁ m₁ x₁ R₁ K₁ d₁ => ?_
 rw [show (turnR S (.T x c k)).1 = (gone S [] x).1.drop (x ++ [c]) from rfl, show (turnR S (.T x c k)).2 = .list (drawn (gone S [] x).1 8 (x ++ [c])) from rfl] at hQ
 obtain ⟨t, hk⟩ := d₁.kind
 obtain ⟨u, hw⟩ := d₁.word
 refine wpAny_execs_cons (wpAny_If (wpAny_isTrue_BoolOp (wpAny_allTrue_And_cons (wpAny_isTrue_Compare1 (R₁.V.rd (v := .str "T" t) (Constant_str (eq_str (wpAny_truthy_bool ?_))) hk)))))
 rw [if_neg (by decide), if_neg (by decide)]
 refine wpAny_execs_cons (wpAny_If (wpAny_isTrue_Compare1 (R₁.V.rd (v := .str "T" t) (Constant_str (eq_str (wpAny_truthy_bool ?_))) hk)))
 rw [if_neg (by decide)]
 refine wpAny_execs_cons (wpAny_If (wpAny_isTrue_BoolOp (wpAny_allTrue_And_cons (wpAny_isTrue_Compare1 (R₁.V.rd (v := .str "T" t) (Constant_str (eq_str (wpAny_truthy_bool ?_))) hk)))))
 rw [if_neg (by decide), if_neg (by decide)]
 refine wpAny_execs_cons (wpAny_If (wpAny_isTrue_Compare1 (R₁.V.rd (v := .str "T" t) (Constant_str (eq_str (wpAny_truthy_bool ?_))) hk)))
 rw [if_pos (by decide)]
 generalize (gone S [] x).1 = G at R₁ hQ
 have hy0 : x ++ [c] ≠ [] := by simp
 have hyl : 1 ≤ (x ++ [c]).length ∧ (x ++ [c]).length ≤ 3 := by rw [List.length_append]; simp; lia
 generalize x ++ [c] = y at hw d₁ hy0 hyl hQ
 refine wpAny_execs_cons (wpAny_Assign_Name (ev_Call (glob (v := .ref 282) R₁.bs (cw_callable (R₁.V.rd (v := .ref b) (R₁.V.rd (v := .ref e) (R₁.V.rd (v := .str (toS y) u) ⟨fnCallable R₁.bs (o282p6 w.params) _, ?_⟩ hw) R₁.ne) R₁.nb)))))
 have zG : Sz 100000 G := R₁.z.le (by lia)
 refine call_drawn 8 (by decide) (by decide) (hA.le (by decide) (by decide)) R₁.bs R₁.P R₁.Pe R₁.W.l zG (by lia) (fun q hq _ => by have := R₁.dep q hq; lia) fun vD s₂ g₂ hD => ?_
 have k₂ : ∀ c o, s₁.heap.get? c = some o → s₂.heap.get? c = some o := g₂.keep
 have R₂ : PlAt w L F G (n + x.length) κ₁ b e a σ π (fun c => Z c ∨ (s₁.heap.objs.size ≤ c ∧ ∃ o, s₂.heap.get? c = some o)) told s₂.heap m₁ :=
  (R₁.grow k₂).zadd (fun c hc => .inl hc) fun c hc => hc.imp id fun ⟨h1, h2⟩ => ⟨h2, R₁.fresh h1⟩
 have hD₂ : Is (fun c => Z c ∨ (s₁.heap.objs.size ≤ c ∧ ∃ o, s₂.heap.get? c = some o)) s₂.heap vD (.list (drawn G 8 y)) := hD.within fun c o h1 ee => .inr ⟨h1, o, ee⟩
 generalize (fun c => Z c ∨ (s₁.heap.objs.size ≤ c ∧ ∃ o, s₂.heap.get? c = some o)) = Z₂ at R₂ hD₂
 refine R₂.put (x := "told") fun s₃ x₃ R₃ k₃ => ?_
 have hD₃ : Is Z₂ s₃.heap vD (.list (drawn G 8 y)) := hD₂.zk fun c o hc ee => ⟨k₃ c o (fun eL => (R₂.zo c hc).2.2 (.inl eL)) ee, hc⟩
 have d₃ := d₁.set (y := "told") (v := vD) (by decide)
 have K₃ : Kept m (set m₁ "told" vD) := K₁.set (by decide)
 have ht₃ : set m₁ "told" vD "told" = some vD := set_self
 have x₃' : Sx s s₃ := (x₁.go g₂.sx).trans x₃
 generalize set m₁ "told" vD = m₃ at R₃ d₃ K₃ ht₃
 clear R₂ hD₂ hD R₁ k₂ k₃ g₂ x₃ x₁ hk hw d₁ K₁ zG
 obtain ⟨u₃, hw₃⟩ := d₃.word
 have bsAt : ∀ h', (∀ c o, ¬ OwnA (ePln L) c → s₃.heap.get? c = some o → h'.get? c = some o) → Bs w h' := fun h' k => let ⟨h₀, B, hf⟩ := R₃.b0; B.grow fun c o ee => k c o (R₃.zo c (R₃.old c o (hf c o ee)).1).2.2 (R₃.old c o (hf c o ee)).2
 have gl : ∀ p bs, (p, bs) ∈ G.below → ∀ g ∈ bs, g.length ≤ 1 := fun p bs hm g hg => by
  rcases (R₃.W.kids p bs hm).2 g hg with ⟨rfl, _⟩ | ⟨c', rfl, _⟩ <;> simp
 refine wpAny_execs_cons (wpAny_Assign_Name (comp_below (S := G) (x := y) hA.h R₃.bs R₃.V R₃.P R₃.W hw₃ R₃.nb (fun p bs hm => by have := R₃.z p bs hm; lia) (fun p hp => by have := R₃.dep p hp; lia) (by lia) gl (by have := R₃.bl; lia) fun D₁ s₄ κ' g₄ hD1 P₄ hκ => ?_))
 have k₄ : ∀ c o, s₃.heap.get? c = some o → s₄.heap.get? c = some o := g₄.keep
 have own3 : ∀ c, OwnA (ePln L) c → c < s₃.heap.objs.size := fun c hc => let ⟨o, ho⟩ := R₃.V.own hc; Heap.lt_size ho
 have o1 : OwnA (ePln L) (L + 1) := .inr ⟨"below", rfl⟩
 have o2 : OwnA (ePln L) (L + 2) := .inr ⟨"ends", rfl⟩
 have o0 : OwnA (ePln L) L := .inl rfl
 refine (R₃.V.grow k₄).sxc (x := "below") (c := L + 1) rfl rfl fun s₅ x₅ V₅ k₅ => ?_
 have kk₅ : ∀ c o, ¬ OwnA (ePln L) c → s₃.heap.get? c = some o → s₅.heap.get? c = some o := fun c o hc ee => k₅ c o (fun x => hc (x ▸ o1)) (k₄ c o ee)
 have up₅ : ∀ c o, s₃.heap.objs.size ≤ c → s₄.heap.get? c = some o → s₅.heap.get? c = some o := fun c o hc ee => k₅ c o (Nat.ne_of_gt (Nat.lt_of_lt_of_le (own3 _ o1) hc)) ee
 have P₅ : PB w s₅.heap D₁ (G.drop y).below κ' := P₄.keep (fun o ee => up₅ _ _ hD1 ee) fun p hp o ee => up₅ _ _ (hκ p hp) ee
 have Pe₅ : PE w s₅.heap e G.ends := R₃.Pe.at' fun o ee => kk₅ _ _ (fun ho => (R₃.own e ho).2.1 rfl) ee
 have nm₅ : ∀ z : Str, z ≠ "below" → set m₃ "below" (.ref D₁) z = m₃ z := fun z hz => set_ne hz
 have nb₅ : set m₃ "below" (.ref D₁) "below" = some (.ref D₁) := set_self
 generalize set m₃ "below" (.ref D₁) = m₅ at V₅ nm₅ nb₅
 have sz₅ : s₃.heap.objs.size ≤ s₅.heap.objs.size := by
  obtain ⟨o, _, _, eo, _⟩ := P₅.objD
  exact Nat.le_of_lt (Nat.lt_of_le_of_lt hD1 (Heap.lt_size eo))
 refine wpAny_execs_cons (wpAny_Assign_Name (comp_ends (S := G) (x := y) hA.h (bsAt _ kk₅) V₅ Pe₅ R₃.W ((nm₅ "word" (by decide)).trans hw₃) ((nm₅ "ends" (by decide)).trans R₃.ne) (fun p hp => by
  obtain ⟨bs, hb, _⟩ := R₃.W.ends p hp
  have := R₃.dep p (has_iff.mpr ⟨bs, hb⟩); lia) (by lia) (by have := R₃.el; lia) fun D₂ s₆ g₆ hD2 Pe₆ => ?_))
 have k₆ : ∀ c o, s₅.heap.get? c = some o → s₆.heap.get? c = some o := g₆.keep
 refine (V₅.grow k₆).sxc (x := "ends") (c := L + 2) rfl rfl fun s₇ x₇ V₇ k₇ => ?_
 have kk₇ : ∀ c o, ¬ OwnA (ePln L) c → s₅.heap.get? c = some o → s₇.heap.get? c = some o := fun c o hc ee => k₇ c o (fun x => hc (x ▸ o2)) (k₆ c o ee)
 have nown : ∀ c, s₃.heap.objs.size ≤ c → ¬ OwnA (ePln L) c := fun c hc ho => Nat.lt_irrefl _ (Nat.lt_of_lt_of_le (own3 c ho) hc)
 have P₇ : PB w s₇.heap D₁ (G.drop y).below κ' := P₅.keep (fun o ee => kk₇ _ _ (nown _ hD1) ee) fun p hp o ee => kk₇ _ _ (nown _ (hκ p hp)) ee
 have Pe₇ : PE w s₇.heap D₂ (G.drop y).ends := Pe₆.at' fun o ee => k₇ _ _ (Nat.ne_of_gt (Nat.lt_of_lt_of_le (own3 _ o2) (Nat.le_trans sz₅ hD2))) ee
 obtain ⟨zs, ps, s1, s2, s3, s4⟩ := R₃.sh
 have oa : ¬ OwnA (ePln L) a := fun ho => (R₃.own a ho).2.2.1 rfl
 have s1₇ : s₇.heap.PlainList a zs.toArray := s1.at fun o ee => kk₇ _ _ oa (kk₅ _ _ oa ee)
 have nm₇ : ∀ z : Str, z ≠ "ends" → set m₅ "ends" (.ref D₂) z = m₅ z := fun z hz => set_ne hz
 have ne₇ : set m₅ "ends" (.ref D₂) "ends" = some (.ref D₂) := set_self
 generalize set m₅ "ends" (.ref D₂) = m₇ at V₇ nm₇ ne₇
 have sz₇ : s₅.heap.objs.size ≤ s₇.heap.objs.size := by
  obtain ⟨_, ⟨_, _, eo, _⟩, _⟩ := Pe₇.d
  exact Nat.le_of_lt (Nat.lt_of_le_of_lt hD2 (Heap.lt_size eo))
 refine wpAny_execs_cons (stmt_shut (x := y) hA.h (bsAt _ fun c o hc ee => kk₇ c o hc (kk₅ c o hc ee)) V₇ s1₇ s2 ((nm₇ "word" (by decide)).trans ((nm₅ "word" (by decide)).trans hw₃)) ((nm₇ "shut" (by decide)).trans ((nm₅ "shut" (by decide)).trans R₃.na)) (fun p hp => by
  have := R₃.dep p (R₃.W.shutk p ((s3 p).mp hp)); lia) (by lia) (by lia) fun D₃ s₉ ys x₉ k₉ V₉ hD3 hl₉ hys => ?_)
 have kk₉ : ∀ c o, ¬ OwnA (ePln L) c → s₇.heap.get? c = some o → s₉.heap.get? c = some o := fun c o hc ee => k₉ c o (fun x => hc (x ▸ o0)) ee
 have hD3' := Nat.le_trans sz₅ (Nat.le_trans sz₇ hD3)
 have lt5 : ∀ p, has (G.drop y).below p = true → κ' p < s₅.heap.objs.size := fun p hp => let ⟨_, _, _, ek, _⟩ := P₅.objK hp; Heap.lt_size ek
 have lt5b : D₁ < s₅.heap.objs.size := let ⟨_, _, _, eo, _⟩ := P₅.objD; Heap.lt_size eo
 have R₉ : PlAt w L F (G.drop y) (n + x.length) κ' D₁ D₂ D₃ σ π Z₂ told s₉.heap (set m₇ "shut" (.ref D₃)) := by
  refine R₃.swapT hy0 (zs := ys) (ps := ps.filter fun p => !under y p) (fun c o hc ee => kk₉ c o hc (kk₇ c o hc (kk₅ c o hc ee))) V₉ ?_ ?_ ?_ hys ?_ ?_ hD1 (Nat.le_trans sz₅ hD2) hD3' hκ ?_ ?_ ?_ ?_ ?_ ?_
  ·exact P₇.keep (fun o ee => kk₉ _ _ (nown _ hD1) ee) fun p hp o ee => kk₉ _ _ (nown _ (hκ p hp)) ee
  ·exact Pe₇.at' fun o ee => kk₉ _ _ (nown _ (Nat.le_trans sz₅ hD2)) ee
  ·exact hl₉
  ·intro p
   show _ ↔ p ∈ G.shut.filter fun p => !under y p
   rw [List.mem_filter, List.mem_filter, s3]
  ·exact Nat.le_trans (List.length_filter_le _ _) s4
  ·exact ⟨Nat.ne_of_gt (Nat.lt_of_lt_of_le lt5b hD2), fun p hp => Nat.ne_of_gt (Nat.lt_of_lt_of_le (lt5 p hp) hD2)⟩
  ·exact ⟨Nat.ne_of_gt (Nat.lt_of_lt_of_le lt5b (Nat.le_trans sz₇ hD3)), fun p hp => Nat.ne_of_gt (Nat.lt_of_lt_of_le (lt5 p hp) (Nat.le_trans sz₇ hD3))⟩
  ·exact (set_ne (by decide)).trans ((nm₇ "below" (by decide)).trans nb₅)
  ·exact (set_ne (by decide)).trans ne₇
  ·exact set_self
  ·exact (set_ne (by decide)).trans ((nm₇ "story" (by decide)).trans ((nm₅ "story" (by decide)).trans R₃.ns))
 have hD₉ : Is Z₂ s₉.heap vD (.list (drawn G 8 y)) := hD₃.zk fun c o hc ee => ⟨let hc' := (R₃.zo c hc).2.2; kk₉ c o hc' (kk₇ c o hc' (kk₅ c o hc' ee)), hc⟩
 have ht₉ : set m₇ "shut" (.ref D₃) "told" = some vD := (set_ne (by decide)).trans ((nm₇ "told" (by decide)).trans ((nm₅ "told" (by decide)).trans ht₃))
 have K₉ : Kept m (set m₇ "shut" (.ref D₃)) := by
  have : Kept m m₇ := ⟨(nm₇ _ (by decide)).trans ((nm₅ _ (by decide)).trans K₃.root), (nm₇ _ (by decide)).trans ((nm₅ _ (by decide)).trans K₃.story), (nm₇ _ (by decide)).trans ((nm₅ _ (by decide)).trans K₃.pieces), (nm₇ _ (by decide)).trans ((nm₅ _ (by decide)).trans K₃.k), (nm₇ _ (by decide)).trans ((nm₅ _ (by decide)).trans K₃.text)⟩
  exact this.set (by decide)
 refine wpAny_execs_nil (wpAny_execs_nil (wpAny_execs_nil (wpAny_execs_nil ?_)))
 refine plain_tail R₉ (by lia) ht₉ hD₉ fun sₑ xₑ Rₑ => hQ _ ⟨rfl, _, _, _, _, _, _, ?_, Rₑ.le (by lia), K₉⟩
 exact (((x₃'.go g₄.sx).trans x₅).trans ((g₆.sx.trans x₇).trans x₉)).trans xₑ
end
end
section
open PySem.MeetsSeq in
theorem list_ne_sz (l : Addr) (items : Array Value) (n : Nat) (b : Addr) (items2 : Array Value) (n2 : Nat) (hc0 : (items.size != items2.size) = true) :
  Meets (Builtin.«list.__ne__» ⟨[.ref l, .ref b], []⟩) (fun _ R s => s.heap.get? l = some { cls := .type "list", dict := none, data := .seq items n, slots := #[] } ∧ s.heap.get? b = some { cls := .type "list", dict := none, data := .seq items2 n2, slots := #[] } ∧ R (.ok (.ret (Value.bool (CmpOp.NotEq == CmpOp.NotEq)))) { s with heap := s.heap, toks := s.toks }) :=
 .of_wp fun prog w A R s h => by obtain ⟨hp, g, d, tk, os⟩ := s; obtain ⟨hl, hb, h⟩ := h; have f1 := PySem.AutoSeq1.idx_int; have f2 := PySem.AutoSeq1.sub_tuple_tuple; have f3 := PySem.AutoSeq1.sub_list_list; have f4 := PySem.AutoSeq1.sub_tuple_list; have f5 := PySem.AutoSeq1.sub_list_tuple; wp_walk using PySem.AutoSeq1.wpAny_loadPart' hl, PySem.AutoSeq1.wpAny_loadPart' hb; exact ⟨_, rfl, h⟩
theorem ne_nil {w : World} {A : Around} {E : Value → Shared → Prop} {s : Shared} {a b : Addr} {xs : List Value} {ns : List Str} {Q : Value → Shared → Prop} (ha : s.heap.PlainList a xs.toArray) (hb : s.heap.PlainList b #[]) (hi : StrsAre xs ns) (hu : A.units + 64 < cLine) (h : Q (.bool (!decide (ns = []))) s) :
  wpAny (Md w) A (compareOp .NotEq (.ref a) (.ref b)) Q E s := by
 cases hi with
 | nil => exact ke_ne_ints (xs := []) (ys := []) ha.isList hb.isList .nil .nil hu h
 | cons x t r =>
  obtain ⟨n, e⟩ := ha
  obtain ⟨n2, e2⟩ := hb
  exact richCompare_meets_room (op := .NotEq) ⟨_, e, rfl⟩ ⟨_, e2, rfl⟩ PySem.F.slot_list_ne PySem.F.entry_list_ne (PySem.F.args_list_ne_2 _ _) (list_ne_sz a _ n b _ n2 (by simp)) ⟨e, e2, by simp, h⟩ (by lia)
end
section
noncomputable def endW (S : St) (z : Path) (k : Nat) : Path := if kidsOf S (z.take k) = [] then z.take k else wayL S (z.take k) (z.drop k)
theorem way_start {S : St} {z : Path} (hz : z ≠ []) : endW S z 1 = wayL S [] z := by
 cases z with
 | nil => exact absurd rfl hz
 | cons c r =>
  unfold endW
  rw [wayL]
  rfl
theorem way_full {S : St} {z : Path} {k : Nat} (h : z.length ≤ k) : endW S z k = z.take k := by
 unfold endW
 split
 ·rfl
 ·rw [List.drop_of_length_le h]; rfl
theorem way_stop {S : St} {z : Path} {k : Nat} (h : kidsOf S (z.take k) = []) : endW S z k = z.take k := if_pos h
theorem way_step {S : St} {z : Path} {k : Nat} (hk : k < z.length) (h : kidsOf S (z.take k) ≠ []) : endW S z k = endW S z (k + 1) := by
 have e1 : z.drop k = z[k] :: z.drop (k + 1) := by rw [List.drop_eq_getElem_cons hk]
 have e2 : z.take (k + 1) = z.take k ++ [z[k]] := by rw [List.take_add_one, List.getElem?_eq_getElem hk]; rfl
 unfold endW
 rw [if_neg h, e1, wayL, e2]
noncomputable def turnP (S : St) : Deed → St × PyData
 | .G x y => ((gone S [] (wayL S [] (x ++ y))).1, .tuple [.int (best S.ends (x ++ y)).1, .int (best S.ends (x ++ y)).2])
 | d => turnR S d
end
section
def NZ (S : St) : Prop := ∀ kv ∈ S.ends, kv.2 ≠ 0 ∧ kv.1 ≠ []
theorem St0_nz : NZ St0 := fun kv h => nomatch h
theorem kids_of_ends {S : St} (W : WF S) {q r : Path} (h : has S.ends (q ++ r) = true) : kidsOf S q ≠ [] := by
 obtain ⟨bs, hb, he⟩ := W.ends _ h
 cases r with
 | nil =>
  rw [List.append_nil] at hb
  unfold kidsOf
  rw [mem_look W.nd hb]
  exact List.ne_nil_of_mem he
 | cons c r =>
  have h1 : has S.below ((q ++ [c]) ++ r) = true := by
   rw [List.append_assoc]
   exact has_iff.mpr ⟨bs, hb⟩
  obtain ⟨b2, hb2, hc⟩ := W.up q c (prefix_has W r _ h1)
  unfold kidsOf
  rw [mem_look W.nd hb2]
  exact List.ne_nil_of_mem hc
theorem endv_nz {S : St} (Z : NZ S) {q : Path} : endv S q = 0 ↔ ¬ has S.ends q = true := by
 unfold endv
 cases h : look S.ends q with
 | none => simp [look_none.mp h]
 | some k =>
  have := (Z _ (look_mem h)).1
  simp only [Option.getD_some]
  exact ⟨fun e => absurd e this, fun e => absurd (has_iff.mpr ⟨k, look_mem h⟩) e⟩
def Found (S : St) (t : Path) (m : Nat) (r : Int × Nat) : Prop := ((r.2 = 0 ∧ r.1 = 0) ∨ (has S.ends (t.take r.2) = true ∧ r.1 = endv S (t.take r.2) ∧ r.2 ≤ t.length)) ∧ ∀ k, k ≤ m → has S.ends (t.take k) = true → k ≤ r.2
theorem lng_found {S : St} (W : WF S) (Z : NZ S) : ∀ (rest p : Path) (r : Int × Nat), Found S (p ++ rest) p.length r → Found S (p ++ rest) (p ++ rest).length (lng S p rest r)
 | [], p, r, h => by rw [List.append_nil] at h ⊢; exact h
 | c :: rest, p, r, h => by
  have e : p ++ c :: rest = (p ++ [c]) ++ rest := by simp
  have tk : (p ++ c :: rest).take (p.length + 1) = p ++ [c] := by rw [e]; exact List.take_left' (by simp)
  unfold lng
  split
  ·rename_i hk
   refine ⟨h.1, fun k hk1 hk2 => ?_⟩
   rcases Nat.lt_or_ge k (p.length + 1) with l | l
   ·exact h.2 k (by lia) hk2
   ·have e2 : (p ++ c :: rest).take k = (p ++ [c]) ++ rest.take (k - (p.length + 1)) := by
     rw [e, List.take_append, List.take_of_length_le (by simp; lia)]
     simp
    rw [e2] at hk2
    exact absurd hk (kids_of_ends W hk2)
  ·rename_i hk
   rw [e] at h ⊢
   refine lng_found W Z rest (p ++ [c]) _ ?_
   rw [e] at tk
   have lp : (p ++ [c]).length = p.length + 1 := by simp
   by_cases hz : endv S (p ++ [c]) = 0
   ·rw [if_pos hz]
    refine ⟨h.1, fun k hk1 hk2 => ?_⟩
    rw [lp] at hk1
    rcases Nat.lt_or_ge k (p.length + 1) with l | l
    ·exact h.2 k (by lia) hk2
    ·have : k = p.length + 1 := by lia
     subst this
     rw [tk] at hk2
     exact absurd hk2 ((endv_nz Z).mp hz)
   ·rw [if_neg hz]
    refine ⟨.inr ⟨?_, ?_, ?_⟩, fun k hk1 hk2 => ?_⟩
    ·show has S.ends (((p ++ [c]) ++ rest).take (p.length + 1)) = true
     rw [tk]
     cases hh : has S.ends (p ++ [c]) with
     | true => rfl
     | false => exact absurd ((endv_nz Z).mpr (by rw [hh]; simp)) hz
    ·show endv S (p ++ [c]) = endv S (((p ++ [c]) ++ rest).take (p.length + 1))
     rw [tk]
    ·show p.length + 1 ≤ ((p ++ [c]) ++ rest).length
     rw [List.length_append, lp]; lia
    ·rw [lp] at hk1; exact hk1
theorem lens_mem {l : List (Path × Int)} {t : Path} {k : Nat} : k ∈ lens l t ↔ k ≤ t.length ∧ has l (t.take k) = true := by
 unfold lens
 rw [List.mem_map]
 constructor
 ·rintro ⟨⟨q, n⟩, hm, rfl⟩
  rw [List.mem_filter] at hm
  have h2 : t.take q.length = q := of_decide_eq_true hm.2
  refine ⟨?_, ?_⟩
  ·show q.length ≤ t.length
   have := congrArg List.length h2
   rw [List.length_take] at this
   lia
  ·show has l (t.take q.length) = true
   rw [h2]; exact has_iff.mpr ⟨n, hm.1⟩
 ·rintro ⟨hk, h⟩
  obtain ⟨n, hn⟩ := has_iff.mp h
  have hl : (t.take k).length = k := by rw [List.length_take]; lia
  refine ⟨_, List.mem_filter.mpr ⟨hn, ?_⟩, hl⟩
  show decide (t.take (t.take k).length = t.take k) = true
  rw [hl]; simp
theorem best_of_found {S : St} (Z : NZ S) {t : Path} {r : Int × Nat} (h : Found S t t.length r) : r = best S.ends t := by
 have hne : ¬ has S.ends [] = true := fun h => by
  obtain ⟨n, hn⟩ := has_iff.mp h
  exact (Z _ hn).2 rfl
 have e : bestN S.ends t = r.2 := by
  unfold bestN
  refine Nat.le_antisymm ?_ ?_
  ·rcases List.mem_cons.mp (foldl_mem (lens S.ends t) 0) with e | hm
   ·rw [e]; exact Nat.zero_le _
   ·obtain ⟨h1, h2⟩ := lens_mem.mp hm
    exact h.2 _ h1 h2
  ·rcases h.1 with ⟨h1, _⟩ | ⟨h1, _, h3⟩
   ·rw [h1]; exact Nat.zero_le _
   ·exact le_foldl _ _ _ (.inr (lens_mem.mpr ⟨h3, h1⟩))
 obtain ⟨a, b⟩ := r
 have e : bestN S.ends t = b := e
 unfold best
 rw [e]
 congr 1
 rcases h.1 with ⟨h1, h2⟩ | ⟨h1, h2, h3⟩
 ·have h1 : b = 0 := h1
  have h2 : a = 0 := h2
  rw [h2, h1]
  show 0 = endv S []
  exact ((endv_nz Z).mpr hne).symm
 ·exact h2
theorem lng_best {S : St} (W : WF S) (Z : NZ S) (t : Path) : lng S [] t (0, 0) = best S.ends t := by
 refine best_of_found Z ?_
 have := lng_found W Z t [] (0, 0) ⟨.inl ⟨rfl, rfl⟩, fun k hk _ => hk⟩
 simpa using this
theorem best_win {l : List (Path × Int)} (h6 : ∀ kv ∈ l, kv.1.length ≤ 6) (t : Path) : best l (t.take 6) = best l t := by
 have e : lens l (t.take 6) = lens l t := by
  unfold lens
  congr 1
  refine List.filter_congr fun kv hkv => ?_
  rw [List.take_take, Nat.min_eq_left (h6 kv hkv)]
 have en : bestN l (t.take 6) = bestN l t := by unfold bestN; rw [e]
 have hn : bestN l t ≤ 6 := by
  rcases List.mem_cons.mp (foldl_mem (lens l t) 0) with e0 | hm
  ·show List.foldl max 0 (lens l t) ≤ 6
   rw [e0]; exact Nat.zero_le _
  ·obtain ⟨kv, hkv, hl⟩ := List.mem_map.mp hm
   have h1 := h6 kv (List.mem_filter.mp hkv).1
   show List.foldl max 0 (lens l t) ≤ 6
   rw [← hl]; exact h1
 unfold best
 rw [en, List.take_take, Nat.min_eq_left hn]
noncomputable def pcsP (l : List (Path × Int)) : Nat → Path → List PyData
 | 0, _ => []
 | f + 1, t => if t = [] then [] else pieceOf (best l t) :: pcsP l f (t.drop (max 1 (best l t).2))
theorem pcs_eq {S : St} (W : WF S) (Z : NZ S) (h6 : ∀ kv ∈ S.ends, kv.1.length ≤ 6) : ∀ (f : Nat) (t : Path), pcsR S f t = pcsP S.ends f t
 | 0, t => rfl
 | f + 1, t => by
  unfold pcsR pcsP
  rw [lng_best W Z, best_win h6, pcs_eq W Z h6 f]
theorem turn_eq {S : St} (W : WF S) (Z : NZ S) (d : Deed) : turnP S d = turnR S d := by
 cases d with
 | G x y =>
  show (_, PyData.tuple _) = (_, PyData.tuple _)
  rw [lng_best W Z]
 | _ => rfl
theorem storeE_nz {l : List (Path × Int)} {x : Path} {n : Int} (hz : ∀ kv ∈ l, kv.2 ≠ 0 ∧ kv.1 ≠ []) (hn : n ≠ 0) (hx : x ≠ []) : ∀ kv ∈ storeE l x n, kv.2 ≠ 0 ∧ kv.1 ≠ [] := by
 intro kv h
 unfold storeE at h
 split at h
 ·obtain ⟨q, k⟩ := kv
  rcases mem_onKey.mp h with ⟨_, h1⟩ | ⟨rfl, _, _, rfl⟩
  ·exact hz _ h1
  ·exact ⟨hn, hx⟩
 ·rcases List.mem_append.mp h with h1 | h1
  ·exact hz _ h1
  ·rw [List.mem_singleton] at h1
   subst h1
   exact ⟨hn, hx⟩
theorem turnR_nz {S : St} (Z : NZ S) {d : Deed} (ok : d.ok) : NZ (turnR S d).1 := by
 have g : ∀ x, NZ (gone S [] x).1 := fun x kv h => Z kv (by rw [(gone_ends x S []).1] at h; exact h)
 cases d with
 | P x n =>
  show NZ (if _ then _ else _)
  split
  ·have h0 : n ≠ 0 := by have := ok.2.2.1; lia
   exact storeE_nz (g x) h0 ok.2.1
  ·exact g x
 | L x n => exact g x
 | F x n =>
  show NZ (if _ then _ else _)
  split
  ·exact g x
  ·exact g x
 | T x c n => exact fun kv h => g x kv (List.mem_filter.mp h).1
 | G x y => exact g _
theorem runR_nz : ∀ (ds : List Deed) {S : St} {told : List PyData}, NZ S → (∀ d ∈ ds, d.ok) → NZ (runR S told ds).1
 | [], _, _, Z, _ => Z
 | d :: ds, _, _, Z, ok => runR_nz ds (turnR_nz Z (ok d List.mem_cons_self)) fun e he => ok e (List.mem_cons_of_mem _ he)
theorem ends6 {S : St} (W : WF S) (D : Dep S) : ∀ kv ∈ S.ends, kv.1.length ≤ 6 := fun kv hkv => by
 obtain ⟨bs, hb, _⟩ := W.ends kv.1 (has_iff.mpr ⟨kv.2, hkv⟩)
 exact D kv.1 (has_iff.mpr ⟨bs, hb⟩)
noncomputable def runP (S : St) (told : List PyData) : List Deed → St × List PyData
 | [] => (S, told)
 | d :: ds => runP (turnP S d).1 (told ++ [(turnP S d).2]) ds
theorem run_eq : ∀ (ds : List Deed) {S : St} (told : List PyData), WF S → NZ S → (∀ d ∈ ds, d.ok) → runP S told ds = runR S told ds
 | [], _, _, _, _, _ => rfl
 | d :: ds, S, told, W, Z, ok => by
  rw [runP, runR, turn_eq W Z]
  exact run_eq ds _ (turnR_wf W) (turnR_nz Z (ok d List.mem_cons_self)) fun e he => ok e (List.mem_cons_of_mem _ he)
end
section
section
variable {w : World} {A : Around} {E : Value → Shared → Prop} {s : Shared} {L : Nat} {F : Nat → Obj → Prop} {S : St} {n : Nat} {κ : Path → Nat} {b e a σ π : Nat} {Z : Nat → Prop} {told : List PyData} {m : Str → Option Value}
theorem ev_sliceG {env : Env} {value : Expr} {lower upper : Option Expr} {p pos : Pos} {Q : Value → Shared → Prop}
  (h : wpAny (Md w) A (eval value env) (fun o s₁ => wpAny (Md w) A (evalPart lower env) (fun vl s₂ => wpAny (Md w) A (evalPart upper env) (fun vu s₃ =>
   ∃ x t l u, o = .str (toS x) t ∧ vl = partValue l ∧ vu = partValue u ∧ x.length ≤ 100000 ∧ ∀ s' t', Grow s₃ s' → Q (.str (toS (psl x (l.map (·.1)) (u.map (·.1)))) t') s') E s₂) E s₁) E s) :
  wpAny (Md w) A (eval (.Subscript value (.Slice lower upper none p) pos) env) Q E s := by
 have key : wpAny (Md w) A (eval value env) (fun o s₁ => wpAny (Md w) A (eval (.Slice lower upper none p) env) (fun i s₂ => s₂.TypeIs o "str" ∧ wpAny (Md w) A (getItem o i) Q E s₂) E s₁) E s := by
  refine wpAny_mono h (fun o s₁ h₁ => wpAny_Slice (wpAny_mono h₁ (fun vl s₂ h₂ => wpAny_mono h₂ (fun vu s₃ h₃ => ?_) fun _ _ e => e) fun _ _ e => e)) fun _ _ e => e
  obtain ⟨x, t, l, u, rfl, rfl, rfl, hx, hq⟩ := h₃
  rw [evalPart_none]
  exact wpAny_pure ⟨typeIs_str _ _ t, wpAny_getItem_str_slice (l := l) (u := u) (st := none) ⟨_, Heap.get?_push_size _ rfl, rfl, rfl⟩ rfl (slice_post hx fun t' k => hq _ t' (.of fun b o e => Heap.get?_push_of_some _ e))⟩
 rw [eval_Subscript]
 refine wpAny_bind (wpAny_mono key (fun o s₁ h₁ => wpAny_bind (wpAny_holding (wpAny_mono h₁ (fun i s₂ h₂ => wpAny_bind (wpAny_standAt ?_)) fun _ _ x => x))) fun _ _ x => x)
 have fin : wpAny (Md w) A (operate [i, o] (getItem o i)) (fun r s₃ => wpAny (Md w) A (letTemporaryGo value o r >>= fun _ => pure r) Q E s₃) E s₂ :=
  wpAny_operating (wpAny_mono h₂.2 (fun r s₃ h₃ => wpAny_bind (wpAny_letTemporaryGo (wpAny_pure h₃))) fun _ _ x => x)
 refine wpAny_bind ?_
 rw [getitemInPython_of_ne h₂.1.not_modules]
 refine wpAny_bind (wpAny_specialOf h₂.1 PySem.F.slot_str_getitem.lookup ?_)
 first
  | exact wpAny_pure (wpAny_bind fin)
  | exact wpAny_bind (wpAny_pure (wpAny_bind fin))
  | exact wpAny_bind fin
theorem PlAt.endlen {h : Heap} (R : PlAt w L F S n κ b e a σ π Z told h m) : ∀ kv ∈ S.ends, kv.1.length ≤ 6 := fun kv hkv => by
 obtain ⟨bs, hb, _⟩ := R.W.ends kv.1 (has_iff.mpr ⟨kv.2, hkv⟩)
 exact R.dep kv.1 (has_iff.mpr ⟨bs, hb⟩)
theorem plain_tail' {hh : Heap} {v : Value} {dt : PyData} (R : PlAt w L F S n κ b e a σ π Z told hh m) (hlen : told.length ≤ 100000) (ht : m "told" = some v) (hv : Is Z hh v dt) {Q : Flow → Shared → Prop}
  (h : ∀ s', Sx s s' → PlAt w L F S n κ b e a σ π Z (told ++ [dt]) s'.heap m → Q .next s') (hs : s.heap = hh := by rfl) : wpAny (Md w) A (execs (plnBody.drop 4) (ePln L)) Q E s := by
 subst hs; exact plain_tail R hlen ht hv h
theorem plain_restG {x p : Path} {mv v : Value} {dt : PyData} {t : Tok} (hA : Ok A 830 800) (R : PlAt w L F S n κ b e a σ π Z told s.heap m) (hlen : told.length ≤ 1000) (hn : n ≤ 1000) (hp : p.length ≤ 6) (dn : Dn "G" x mv m) (ht : m "told" = some v) (hw : m "way" = some (.str (toS p) t)) (hIs : Is Z s.heap v dt) :
  wpAny (Md w) A (execs (plnBody.drop 2) (ePln L)) (PlEnd w L F (gone S [] p).1 (n + 7) σ π (told ++ [dt]) m s) E s := by
 refine wpAny_abs fun Q hQ => ?_
 refine wpAny_execs_cons (wpAny_Assign_Name (ev_Call (glob (v := .ref 277) R.bs (cw_callable (R.V.rd (v := .ref b) (R.V.rd (v := .ref a) (R.V.rd (v := .str (toS p) t) ⟨fnCallable R.bs (o277p6 w.params) _, ?_⟩ hw) R.na) R.nb)))))
 refine plain_goneZ (hA.le (by decide) (by decide)) (R.grow (h' := s.heap) fun _ _ ee => ee) (by lia) hp fun s₁ κ₁ x₁ R₁ kz => ?_
 refine R₁.put (x := "stays") fun s₂ x₂ R₂ k₂ => ?_
 have hIs₂ : Is Z s₂.heap v dt := hIs.zk fun c o hc ee => ⟨k₂ c o (fun eL => (R.zo c hc).2.2 (.inl eL)) (kz c o hc ee), hc⟩
 have d₂ := dn.set (y := "stays") (v := .bool (gone S [] p).2) (by decide)
 have ht₂ : set m "stays" (.bool (gone S [] p).2) "told" = some v := (set_ne (by decide)).trans ht
 have K₂ : Kept m (set m "stays" (.bool (gone S [] p).2)) := (Kept.refl m).set (by decide)
 have x₂' : Sx s s₂ := ((Sx.refl s).go x₁).trans x₂
 generalize set m "stays" (.bool (gone S [] p).2) = m₂ at *
 obtain ⟨t', hk⟩ := d₂.kind
 refine wpAny_execs_cons (wpAny_If (wpAny_isTrue_BoolOp (wpAny_allTrue_And_cons (wpAny_isTrue_Compare1 (R₂.V.rd (v := .str "G" t') (Constant_str (eq_str (wpAny_truthy_bool ?_))) hk)))))
 rw [if_neg (by decide), if_neg (by decide)]
 refine wpAny_execs_cons (wpAny_If (wpAny_isTrue_Compare1 (R₂.V.rd (v := .str "G" t') (Constant_str (eq_str (wpAny_truthy_bool ?_))) hk)))
 rw [if_neg (by decide)]
 refine wpAny_execs_cons (wpAny_If (wpAny_isTrue_BoolOp (wpAny_allTrue_And_cons (wpAny_isTrue_Compare1 (R₂.V.rd (v := .str "G" t') (Constant_str (eq_str (wpAny_truthy_bool ?_))) hk)))))
 rw [if_neg (by decide), if_neg (by decide)]
 refine wpAny_execs_cons (wpAny_If (wpAny_isTrue_Compare1 (R₂.V.rd (v := .str "G" t') (Constant_str (eq_str (wpAny_truthy_bool ?_))) hk)))
 rw [if_neg (by decide)]
 refine wpAny_execs_nil (wpAny_execs_nil (wpAny_execs_nil (wpAny_execs_nil ?_)))
 refine plain_tail' R₂ (by lia) ht₂ hIs₂ fun s₃ x₃ R₃ => hQ _ ⟨rfl, _, _, _, _, _, _, ?_, R₃.le (by lia), K₂⟩
 exact x₂'.go x₃
end
noncomputable def gWhile : Stmt := match plnBody[1]?.getD (.Pass default) with
 | .If _ b _ _ => b[1]?.getD (.Pass default)
 | _ => .Pass default
noncomputable def gCond : Expr := match gWhile with
 | .While c _ _ _ => c
 | _ => .Constant .none 0 default
noncomputable def gStep : List Stmt := forBody gWhile
structure GAt (w : World) (L : Nat) (F : Nat → Obj → Prop) (S : St) (n : Nat) (κ : Path → Nat) (b e a σ π : Nat) (Z : Nat → Prop) (told : List PyData) (x y : Path) (tv : Tok) (r : Nat) (dt : PyData) (k : Nat) (h : Heap) (m : Str → Option Value) : Prop where
 R : PlAt w L F S n κ b e a σ π Z told h m
 d : Dn "G" x (.str (toS y) tv) m
 t : m "told" = some (.ref r)
 wy : ∃ t, m "way" = some (.str (toS ((x ++ y).take k)) t)
 i : Is Z h (.ref r) dt
inductive GW (w : World) (L : Nat) (F : Nat → Obj → Prop) (S : St) (n : Nat) (κ : Path → Nat) (b e a σ π : Nat) (Z : Nat → Prop) (told : List PyData) (x y : Path) (tv : Tok) (r : Nat) (dt : PyData) (m₀ : Str → Option Value) (s₀ : Shared) (nn : Nat) (s' : Shared) : Prop
 | mk (k : Nat) (m : Str → Option Value) (en : nn = (x ++ y).length - k) (h1 : 1 ≤ k) (h2 : k ≤ (x ++ y).length) (hE : endW S (x ++ y) k = wayL S [] (x ++ y)) (xx : Sx s₀ s') (G : GAt w L F S n κ b e a σ π Z told x y tv r dt k s'.heap m) (K : Kept m₀ m) : GW w L F S n κ b e a σ π Z told x y tv r dt m₀ s₀ nn s'
section
variable {w : World} {A : Around} {E : Value → Shared → Prop} {s : Shared} {L : Nat} {F : Nat → Obj → Prop} {S : St} {n : Nat} {κ : Path → Nat} {b e a σ π : Nat} {Z : Nat → Prop} {told : List PyData} {m : Str → Option Value} {x y : Path} {tv : Tok} {r k : Nat} {dt : PyData}
theorem GAt.grow {h h' : Heap} (G : GAt w L F S n κ b e a σ π Z told x y tv r dt k h m) (kh : ∀ c o, h.get? c = some o → h'.get? c = some o) : GAt w L F S n κ b e a σ π Z told x y tv r dt k h' m := ⟨G.R.grow kh, G.d, G.t, G.wy, G.i.zk fun c o hc ee => ⟨kh c o ee, hc⟩⟩
theorem g_cond {Q : Bool → Shared → Prop} (hA : Ok A 830 800) (hx : x.length ≤ 3) (hy : y.length ≤ 3) (hk : k ≤ (x ++ y).length) (G : GAt w L F S n κ b e a σ π Z told x y tv r dt k s.heap m)
  (h0 : ∀ s', (∀ c o, s.heap.get? c = some o → s'.heap.get? c = some o) → Sx s s' → k = (x ++ y).length ∨ kidsOf S ((x ++ y).take k) = [] → Q false s')
  (h1 : ∀ s', (∀ c o, s.heap.get? c = some o → s'.heap.get? c = some o) → Sx s s' → k < (x ++ y).length → kidsOf S ((x ++ y).take k) ≠ [] → Q true s') : wpAny (Md w) A (isTrue gCond (ePln L) (eval gCond (ePln L))) Q E s := by
 obtain ⟨tk₉, hk₉⟩ := G.d.kind
 obtain ⟨u₉, hx₉⟩ := G.d.word
 obtain ⟨tw, hw₉⟩ := G.wy
 have hy₉ := G.d.more
 have R₉ := G.R
 refine wpAny_isTrue_BoolOp (wpAny_allTrue_And_cons (wpAny_isTrue_Compare1 (R₉.V.rd (v := .str (toS ((x ++ y).take k)) tw) (wpAny_BinOp (R₉.V.rd (v := .str (toS x) u₉) (R₉.V.rd (v := .str (toS y) tv) (add_str (fun t5 k5 => PyProof.Rows.ne_str (wpAny_truthy_bool ?_)) (by rw [toS_len, toS_len, sizeLine_eq]; lia)) hy₉) hx₉)) hw₉)))
 rw [toS_app]
 by_cases hkl : k = (x ++ y).length
 ·rw [show (toS ((x ++ y).take k) != toS (x ++ y)) = false from by rw [hkl, List.take_length]; simp, if_neg (by simp)]
  exact h0 _ (fun _ _ ee => ee) ⟨rfl, rfl, rfl⟩ (.inl hkl)
 have hf : (toS ((x ++ y).take k) != toS (x ++ y)) = true := by
  rw [bne_iff_ne]
  intro ee
  have := congrArg List.length (toS_inj ee)
  rw [List.length_take] at this
  lia
 rw [hf, if_pos rfl]
 clear hf
 refine wpAny_allTrue_And_cons (wpAny_isTrue_Compare1 (ev_Method (R₉.V.rd (v := .ref b) (fun pl => pd_getm R₉.P.d (cw_builtin (R₉.V.rd (v := .str (toS ((x ++ y).take k)) tw) (ev_List0 (pd_get (R₉.P.d.at fun o ee => Heap.get?_push_of_some _ ee) R₉.P.lo (ev_List0 ?_))) hw₉))) R₉.nb)))
 have hval : ∃ (l : Nat) (xs : List Value), (valueAt (bkv S.below κ) (toS ((x ++ y).take k))).getD (.ref s.heap.objs.size) = .ref l ∧ ((s.heap.push { cls := .type "list", data := .seq #[] }).push { cls := .type "list", data := .seq #[] }).PlainList l xs.toArray ∧ StrsAre xs ((kidsOf S ((x ++ y).take k)).map toS) := by
  rw [bkv_at]
  by_cases hp : has S.below ((x ++ y).take k) = true
  ·obtain ⟨bs, hb⟩ := has_iff.mp hp
   obtain ⟨vs, hP, hvs⟩ := R₉.P.k _ bs hb
   refine ⟨κ ((x ++ y).take k), vs, by rw [if_pos hp]; rfl, hP.at fun o ee => Heap.get?_push_of_some _ (Heap.get?_push_of_some _ ee), ?_⟩
   unfold kidsOf
   rw [mem_look R₉.W.nd hb]
   exact hvs
  ·refine ⟨s.heap.objs.size, [], by rw [if_neg hp]; rfl, ⟨0, Heap.get?_push_of_some _ (Heap.get?_push_size _ rfl)⟩, ?_⟩
   rw [kids_none hp]; exact .nil
 obtain ⟨l, xs, hv, hl, hxs⟩ := hval
 refine fgtW s ((s.heap.push { cls := .type "list", data := .seq #[] }).push { cls := .type "list", data := .seq #[] }) rfl ⟨rfl, rfl, rfl⟩ fun s₁₀ x₁₀ e₁₀ => ?_
 rw [show (valueAt (bkv S.below κ) (toS ((x ++ y).take k))).getD (Value.ref s.heap.objs.size) = .ref l from hv]
 refine ne_nil (xs := xs) (ns := (kidsOf S ((x ++ y).take k)).map toS) (by rw [e₁₀]; exact hl) (by rw [e₁₀]; exact ⟨0, Heap.get?_push_size _ rfl⟩) hxs (by have := hA.u; show _ < 9900; lia) (wpAny_truthy_bool ?_)
 have up' : ∀ c o, s.heap.get? c = some o → s₁₀.heap.get? c = some o := fun c o ee => by rw [e₁₀]; exact Heap.get?_push_of_some _ (Heap.get?_push_of_some _ ee)
 clear hl hv e₁₀ hxs hw₉ hx₉ hy₉ hk₉ R₉
 by_cases hkd : kidsOf S ((x ++ y).take k) = []
 ·rw [show (!decide ((kidsOf S ((x ++ y).take k)).map toS = [])) = false from by rw [hkd]; rfl, if_neg (by simp)]
  exact h0 _ up' x₁₀ (.inr hkd)
 ·rw [show (!decide ((kidsOf S ((x ++ y).take k)).map toS = [])) = true from by simpa using hkd, if_pos rfl]
  exact wpAny_allTrue_And_nil (h1 _ up' x₁₀ (Nat.lt_of_le_of_ne hk hkl) hkd)
theorem g_step {Q : Flow → Shared → Prop} (hx : x.length ≤ 3) (hy : y.length ≤ 3) (hk : k ≤ (x ++ y).length) (G : GAt w L F S n κ b e a σ π Z told x y tv r dt k s.heap m)
  (h : ∀ s' m', Sx s s' → GAt w L F S n κ b e a σ π Z told x y tv r dt (k + 1) s'.heap m' → Kept m m' → Q .next s') : wpAny (Md w) A (execs gStep (ePln L)) Q E s := by
 obtain ⟨u₉, hx₉⟩ := G.d.word
 obtain ⟨tw, hw₉⟩ := G.wy
 have hup : ∀ tt : Tok, Value.int (((toS ((x ++ y).take k)).length : Int) + 1) tt = partValue (some (((k + 1 : Nat) : Int), tt)) := fun tt => by
  rw [toS_len, List.length_take, Nat.min_eq_left hk]; rfl
 have hl : (x ++ y).length ≤ 6 := by rw [List.length_append]; lia
 refine wpAny_execs_cons (wpAny_Assign_Name (ev_sliceG (wpAny_BinOp (G.R.V.rd (v := .str (toS x) u₉) (G.R.V.rd (v := .str (toS y) tv) (add_str (fun t6 k6 => wpAny_pure (wpAny_BinOp (ev_Call (blt (v := .builtin "len") G.R.bs (cw_builtin (G.R.V.rd (v := .str (toS ((x ++ y).take k)) tw) (len_str (by rw [toS_len, List.length_take]; lia) (wpAny_Constant_int (add_int ⟨x ++ y, t6, none, some (((k + 1 : Nat) : Int), _), by rw [toS_app], rfl, hup _, by lia, fun s₁ t₁ g₁ => ?_⟩))) hw₉)))))) (by rw [toS_len, toS_len, sizeLine_eq]; lia)) G.d.more) hx₉))))
 simp only [Option.map_none, Option.map_some]
 rw [psl_to']
 have G₁ := G.grow g₁.keep
 refine G₁.R.put (x := "way") fun s₂ x₂ R₂ k₂ => ?_
 exact wpAny_execs_nil (h s₂ _ (((Sx.refl s).go g₁.sx).trans x₂) ⟨R₂, G.d.set (by decide), (set_ne (by decide)).trans G.t, ⟨_, set_self⟩, G₁.i.zk fun c o hc ee => ⟨k₂ c o (fun eL => (G₁.R.zo c hc).2.2 (.inl eL)) ee, hc⟩⟩ ((Kept.refl m).set (by decide)))
theorem g_loop {Q : Flow → Shared → Prop} {nn : Nat} {m₀ : Str → Option Value} {s₀ : Shared} (hA : Ok A 830 800) (hx : x.length ≤ 3) (hy : y.length ≤ 3) (J : GW w L F S n κ b e a σ π Z told x y tv r dt m₀ s₀ nn s)
  (h : ∀ k s' m', Sx s₀ s' → GAt w L F S n κ b e a σ π Z told x y tv r dt k s'.heap m' → Kept m₀ m' → (x ++ y).take k = wayL S [] (x ++ y) → Q .next s') : wpAny (Md w) A (exec gWhile (ePln L)) Q E s := by
 refine wpAny_While (codeAny_whileLoop (GW w L F S n κ b e a σ π Z told x y tv r dt m₀ s₀) ?_ nn J)
 rintro nn s₁ ⟨k, m₁, rfl, h1, h2, hE, x₁, G, K⟩
 refine g_cond hA hx hy h2 G (fun s₂ kh x₂ hw => ?_) fun s₂ kh x₂ hlt hkd => ?_
 ·rw [if_neg (by simp)]
  refine wpAny_execs_nil (h k s₂ m₁ (x₁.trans x₂) (G.grow kh) K ?_)
  rw [← hE]
  rcases hw with e | e
  ·rw [way_full (by lia)]
  ·rw [way_stop e]
 ·rw [if_pos rfl]
  refine g_step hx hy h2 (G.grow kh) fun s₃ m₃ x₃ G₃ K₃ => ?_
  exact ⟨(x ++ y).length - (k + 1), by lia, k + 1, m₃, rfl, by lia, hlt, (way_step hlt hkd).symm.trans hE, (x₁.trans x₂).trans x₃, G₃, ⟨K₃.root.trans K.root, K₃.story.trans K.story, K₃.pieces.trans K.pieces, K₃.k.trans K.k, K₃.text.trans K.text⟩⟩
theorem plain_turnG (hA : Ok A 830 800) (R : PlAt w L F S n κ b e a σ π Z told s.heap m) (hlen : told.length ≤ 1000) (hn : n ≤ 1000) (hx : x.length ≤ 3) (hy : y.length ≤ 3) (hx0 : x ≠ []) (dn : Dn "G" x (.str (toS y) tv) m) :
  wpAny (Md w) A (execs plnBody (ePln L)) (PlEnd w L F (turnP S (.G x y)).1 (n + 7) σ π (told ++ [(turnP S (.G x y)).2]) m s) E s := by
 have e1 : (turnP S (.G x y)).1 = (gone S [] (wayL S [] (x ++ y))).1 := rfl
 have e2 : (turnP S (.G x y)).2 = .tuple [.int (best S.ends (x ++ y)).1, .int (best S.ends (x ++ y)).2] := rfl
 rw [e1]
 generalize hdt : (turnP S (.G x y)).2 = dt at e2 ⊢
 clear hdt e1
 obtain ⟨t, hk⟩ := dn.kind
 obtain ⟨u, hw⟩ := dn.word
 refine wpAny_execs_cons (Assign_Tuple_swapped (names := ["way", "told"]) (ev_Tuple (ev_IfExp (wpAny_isTrue_Compare1 (R.V.rd (v := .str "G" t) (Constant_str (eq_str (wpAny_truthy_bool ?_))) hk)))))
 rw [if_neg (by decide)]
 refine R.V.rd (v := .str (toS x) u) (wpAny_Constant_none ?_) hw
 refine swp2 hA.h (Heap.get?_push_size _ rfl) rfl rfl fun s₁ g₁ => ?_
 have R₁ := R.grow fun c o ee => g₁.keep _ _ (Heap.get?_push_of_some _ ee)
 refine R₁.put (x := "told") fun s₂ x₂ R₂ _ => R₂.put (x := "way") fun s₃ x₃ R₃ _ => ?_
 have x₃' : Sx s s₃ := ((Sx.refl s).go g₁.sx).trans (x₂.trans x₃)
 have d₃ := (dn.set (m := m) (y := "told") (v := .none) (by decide)).set (y := "way") (v := .str (toS x) u) (by decide)
 have K₃ : Kept m (set (set m "told" .none) "way" (.str (toS x) u)) := ((Kept.refl m).set (by decide)).set (by decide)
 generalize set (set m "told" .none) "way" (.str (toS x) u) = m₃ at *
 clear R₁ R₂ R x₂ x₃ g₁ hk hw dn
 obtain ⟨t', hk₃⟩ := d₃.kind
 obtain ⟨u', hw₃⟩ := d₃.word
 refine wpAny_execs_cons (wpAny_If (wpAny_isTrue_Compare1 (R₃.V.rd (v := .str "G" t') (Constant_str (eq_str (wpAny_truthy_bool ?_))) hk₃)))
 rw [if_pos (by decide)]
 refine wpAny_execs_cons (Assign_Tuple_swapped (names := ["way", "told"]) (ev_Tuple (ev_slice (R₃.V.rd (v := .str (toS x) u') (wpAny_pure (wpAny_Constant_int (k := 0) (pos := ⟨214, 31, 214, 32⟩) ⟨x, u', none, some (((1 : Nat) : Int), _), rfl, rfl, rfl, by lia, fun s₄ t₄ g₄ => ?_⟩)) hw₃))))
 simp only [Option.map_none, Option.map_some]
 rw [psl_to']
 have R₄ := R₃.grow g₄.keep
 refine ev_Call (glob (v := .ref 287) R₄.bs (cw_callable (R₄.V.rd (v := .ref e) (wpAny_BinOp (R₄.V.rd (v := .str (toS x) u') (R₄.V.rd (v := .str (toS y) tv) (add_str (fun t5 k5 => ?_) (by rw [toS_len, toS_len, sizeLine_eq]; lia)) d₃.more) hw₃)) R₄.ne)))
 rw [toS_app]
 have hz0 : x ++ y ≠ [] := by simp [hx0]
 have hzl : (x ++ y).length ≤ 6 := by rw [List.length_append]; lia
 have htk : x.take 1 = (x ++ y).take 1 := by
  cases x with
  | nil => exact absurd rfl hx0
  | cons c r => rfl
 refine ⟨fnCallable R₄.bs (o287p6 w.params) _, call_best (hA.le (by decide) (by decide)) R₄.bs R₄.Pe (by lia) (by have := R₄.el; lia) (fun kv hkv => by have := R₄.endlen kv hkv; lia) fun r s₅ t1 t2 g₅ hr hor => ?_⟩
 have R₅ : PlAt w L F S n κ b e a σ π (fun c => Z c ∨ c = r) told s₅.heap m₃ :=
  (R₄.grow g₅.keep).zadd (fun c hc => .inl hc) fun c hc => hc.imp id fun h1 => by rw [h1]; exact ⟨⟨_, hor⟩, R₄.fresh hr⟩
 have hIs₅ : Is (fun c => Z c ∨ c = r) s₅.heap (.ref r) dt := by
  rw [e2]
  exact .tuple (.inr rfl) hor rfl rfl (.cons (.int _ _) (.cons (.int _ _) .nil))
 generalize (fun c => Z c ∨ c = r) = Z₂ at R₅ hIs₅
 clear e2
 refine swp2 hA.h (Heap.get?_push_size _ rfl) rfl rfl fun s₆ g₆ => ?_
 have k₆ : ∀ c o, s₅.heap.get? c = some o → s₆.heap.get? c = some o := fun c o ee => g₆.keep _ _ (Heap.get?_push_of_some _ ee)
 have R₆ := R₅.grow k₆
 have x₆ : Sx s s₆ := ((x₃'.go g₄.sx).go g₅.sx).go g₆.sx
 have hIs₆ : Is Z₂ s₆.heap (.ref r) dt := hIs₅.zk fun c o hc ee => ⟨k₆ c o ee, hc⟩
 clear R₅ hIs₅ R₄ R₃ k₆ g₆ g₅ g₄ hor hr hk₃ hw₃
 refine R₆.put (x := "told") fun s₇ x₇ R₇ k₇ => R₇.put (x := "way") fun s₈ x₈ R₈ k₈ => ?_
 have hIs₈ : Is Z₂ s₈.heap (.ref r) dt := hIs₆.zk fun c o hc ee => ⟨k₈ c o (fun eL => (R₆.zo c hc).2.2 (.inl eL)) (k₇ c o (fun eL => (R₆.zo c hc).2.2 (.inl eL)) ee), hc⟩
 refine wpAny_execs_cons (g_loop hA hx hy (m₀ := m) (s₀ := s) ⟨1, _, rfl, Nat.le_refl _, List.length_pos_iff.mpr hz0, way_start hz0, x₆.trans (x₇.trans x₈), ⟨R₈, (d₃.set (y := "told") (v := .ref r) (by decide)).set (y := "way") (v := .str (toS (x.take 1)) t₄) (by decide), (set_ne (by decide)).trans set_self, ⟨t₄, by rw [← htk]; exact set_self⟩, hIs₈⟩, (K₃.set (by decide)).set (by decide)⟩ fun k s₉ m₉ x₉ G K₉ hway => wpAny_execs_nil ?_)
 obtain ⟨tw, hw₉⟩ := G.wy
 rw [← hway]
 refine wpAny_mono (plain_restG hA G.R hlen hn (by rw [List.length_take]; lia) G.d G.t hw₉ G.i) (fun f s' hf => ?_) fun _ _ e => e
 obtain ⟨rfl, κ', b', e', a', Z', m', xx, RR, KK⟩ := hf
 exact ⟨rfl, κ', b', e', a', Z', m', x₉.trans xx, RR, ⟨KK.root.trans K₉.root, KK.story.trans K₉.story, KK.pieces.trans K₉.pieces, KK.k.trans K₉.k, KK.text.trans K₉.text⟩⟩
end
end
section
theorem PD.of {w : World} {h : Heap} {a : Nat} {kvs : KVs} (x : h.DictOf (sk w) a kvs) : PD w h a kvs := by
 obtain ⟨⟨c, d, dt, sl⟩, es, ep, e, ⟨h1, h2, h3⟩, h4, k, p, n⟩ := x
 cases h1; cases h2; cases h3; cases h4
 exact ⟨es, ep, e, k, p, n⟩
section
variable {w : World} {A : Around} {E : Value → Shared → Prop} {s : Shared} {env : Env}
theorem ev_D0 {kk : Nat} {pos p1 p2 : Pos} {Q : Value → Shared → Prop}
  (h : ∀ s', Sx s s' → (∀ c o, s.heap.get? c = some o → s'.heap.get? c = some o) → PD w s'.heap s.heap.objs.size [(toS [], .ref (s.heap.objs.size + 1))] → s'.heap.PlainList (s.heap.objs.size + 1) #[] → Q (.ref s.heap.objs.size) s') :
  wpAny (Md w) A (eval (.Dict [some (.Constant (.str "") kk p1)] [.List [] p2] pos) env) Q E s := by
 with_reducible refine wpAny_Dict_walk (knd := sk w) ?_ ?_ ?_ ?_ ?_
 ·rfl
 ·rfl
 ·simp
 ·simp
 refine pairTrees_cons_walk ?_
 refine Constant_str ?_
 refine ev_List0 ?_
 refine pairTrees_nil_walk ?_
 have e1 : (s.heap.push { cls := .type "dict", data := .dict #[] }).objs.size = s.heap.objs.size + 1 := Heap.size_push ..
 refine ⟨[(toS [], .ref (s.heap.objs.size + 1))], ?_, ?_, fun h' hd hs => ?_⟩
 ·exact ⟨str_is w _ _, by rw [← e1], trivial⟩
 ·exact ⟨_, #[], 0, Heap.get?_push_of_some _ (Heap.get?_push_size _ rfl), ⟨rfl, rfl, rfl⟩, rfl, (DK.nil w).keys, (DK.nil w).pairs, (DK.nil w).nodup⟩
 ·have hne : s.heap.objs.size + 1 ≠ s.heap.objs.size := Nat.succ_ne_self _
  refine h _ ⟨rfl, rfl, rfl⟩ (fun c o ee => (hs.2 c (Nat.ne_of_lt (Heap.lt_size ee))).trans (Heap.get?_push_of_some _ (Heap.get?_push_of_some _ ee))) (PD.of ?_) ⟨0, (hs.2 _ hne).trans ?_⟩
  ·exact hd
  ·rw [← e1]; exact Heap.get?_push_size _ rfl
theorem asg6 {x y z u q r : Str} {p1 p2 p3 p4 p5 p6 pos : Pos} {k : Nat} {t : Addr} {o : Obj} {a b c d e f : Value} {n : Nat} {Q : Unit → Shared → Prop} (hh : A.handled = none) (ho : s.heap.get? t = some o) (hc : o.cls = .type "tuple") (hd : o.data = .seq #[a, b, c, d, e, f] n)
  (h : ∀ s', Grow s s' → wpAny (Md w) A (storeName env x a) (fun _ s₁ => wpAny (Md w) A (storeName env y b) (fun _ s₂ => wpAny (Md w) A (storeName env z c) (fun _ s₃ => wpAny (Md w) A (storeName env u d) (fun _ s₄ => wpAny (Md w) A (storeName env q e) (fun _ s₅ => wpAny (Md w) A (storeName env r f) Q E s₅) E s₄) E s₃) E s₂) E s₁) E s') :
  wpAny (Md w) A (assign (.Tuple [.Name x p1, .Name y p2, .Name z p3, .Name u p4, .Name q p5, .Name r p6] k pos) env (.ref t)) Q E s := by
 refine wpAny_assign_Tuple (items := #[a, b, c, d, e, f]) hh ⟨o, ho, hc, n, hd⟩ rfl rfl fun h' he => ?_
 refine aio_cons (wpAny_assign_Name (wpAny_mono (h _ (.of fun b o e => he b o (Nat.ne_of_lt (Heap.lt_size e)) e)) (fun _ s₁ h₁ => ?_) fun _ _ e => e))
 refine aio_cons (wpAny_assign_Name (wpAny_mono h₁ (fun _ s₂ h₂ => ?_) fun _ _ e => e))
 refine aio_cons (wpAny_assign_Name (wpAny_mono h₂ (fun _ s₃ h₃ => ?_) fun _ _ e => e))
 refine aio_cons (wpAny_assign_Name (wpAny_mono h₃ (fun _ s₄ h₄ => ?_) fun _ _ e => e))
 refine aio_cons (wpAny_assign_Name (wpAny_mono h₄ (fun _ s₅ h₅ => ?_) fun _ _ e => e))
 exact aio_cons (wpAny_assign_Name (wpAny_mono h₅ (fun _ _ h' => aio_nil h') fun _ _ e => e))
theorem Vars.sxo {M : Model} {m : Str → Option Value} {x : Str} {v : Value} {Q : Unit → Shared → Prop} (V : Vars s.heap env m)
  (h : ∀ s', Sx s s' → Vars s'.heap env (set m x v) → (∀ c o, ¬ OwnA env c → s.heap.get? c = some o → s'.heap.get? c = some o) → Q () s') (hk : varOk env x = true := by rfl) : wpAny M A (storeName env x v) Q E s :=
 V.sx (fun s' b x' V' hb k => h s' x' V' fun c o hc ee => k c o (fun e => hc (e ▸ hb)) ee) hk
end
structure PNm (π : Nat) (text : Path) (m : Str → Option Value) : Prop where
 pieces : m "pieces" = some (.ref π)
 text : ∃ t, m "text" = some (.str (toS text) t)
 k : ∃ u, m "k" = some (.int 0 u)
theorem PNm.kept {π : Nat} {text : Path} {m m' : Str → Option Value} (x : PNm π text m) (k : Kept m m') : PNm π text m' := ⟨k.pieces.trans x.pieces, k.text ▸ x.text, k.k ▸ x.k⟩
section
variable {w : World} {A : Around} {E : Value → Shared → Prop} {s : Shared} {L : Nat}
theorem own_pln {c : Nat} (h : OwnA (ePln L) c) : L ≤ c ∧ c ≤ L + 3 := by
 rcases h with rfl | ⟨x, hx⟩
 ·exact ⟨Nat.le_refl _, Nat.le_add_right _ _⟩
 ·have := mem_of_lookup hx
  have e : (ePln L).cells = ([("word", L + 3), ("ends", L + 2), ("below", L + 1)] : List (Str × Addr)) := rfl
  rw [e] at this
  simp only [List.mem_cons, List.not_mem_nil, or_false, Prod.mk.injEq] at this
  rcases this with ⟨_, rfl⟩ | ⟨_, rfl⟩ | ⟨_, rfl⟩ <;> exact ⟨by lia, by lia⟩
theorem plain_init {q1 q2 q3 q4 q5 q6 q7 q8 r1 r2 r3 r4 r5 r6 r7 r8 pos : Pos} {k1 k2 k3 k4 : Nat} {h₀ : Heap} {m : Str → Option Value} {text : Path} {t : Tok} {dl : Nat} {Q : Flow → Shared → Prop} (hA : Ok A 900 900) (B : Bs w h₀) (k₀ : ∀ c o, h₀.get? c = some o → s.heap.get? c = some o) (h0L : h₀.objs.size ≤ L) (V : Vars s.heap (ePln L) m)
  (hd : m "deeds" = some (.ref dl)) (htx : m "text" = some (.str (toS text) t))
  (h : ∀ s' κ b e a σ π m', Sx s s' → PlAt w L (fun c o => h₀.get? c = some o) St0 0 κ b e a σ π (fun c => ∃ o, h₀.get? c = some o) [] s'.heap m' → PNm π text m' → m' "deeds" = some (.ref dl) → Q .next s') :
  wpAny (Md w) A (exec (.Assign [.Tuple [.Name "below" q1, .Name "ends" q2, .Name "shut" q3, .Name "story" q4, .Name "pieces" q5, .Name "k" q6] k1 q7]
   (.Tuple [.Dict [some (.Constant (.str "") k2 r1)] [.List [] r2] r3, .Dict [] [] r4, .List [] r5, .List [] r6, .List [] r7, .Constant (.int 0) k3 r8] k4 q8) pos) (ePln L)) Q E s := by
 refine Assign_Tuple ?_
 refine ev_Tuple ?_
 show wpAny _ _ (eval _ _) _ _ _
 with_reducible refine ev_D0 ?_
 intro s₁ x₁ k₁ D₁ C₁
 refine wpAny_Dict_empty ?_
 refine ev_List0 ?_
 refine ev_List0 ?_
 refine ev_List0 ?_
 refine wpAny_Constant_int ?_
 have sz : ∀ (h : Heap) (o : Obj), (h.push o).objs.size = h.objs.size + 1 := fun h o => Heap.size_push ..
 refine asg6 hA.h (Heap.get?_push_size _ rfl) rfl rfl fun s₂ g₂ => ?_
 simp only [sz]
 generalize hb : s.heap.objs.size = b at D₁ C₁ ⊢
 have hlt : b + 1 < s₁.heap.objs.size := let ⟨_, e⟩ := C₁; Heap.lt_size e
 generalize hN : s₁.heap.objs.size = N at *
 have k₂ : ∀ c o, s₁.heap.get? c = some o → s₂.heap.get? c = some o := fun c o ee => g₂.keep _ _ (Heap.get?_push_of_some _ (Heap.get?_push_of_some _ (Heap.get?_push_of_some _ (Heap.get?_push_of_some _ (Heap.get?_push_of_some _ ee)))))
 have o0 : s₂.heap.get? N = some { cls := .type "dict", data := .dict #[] } := g₂.keep _ _ (Heap.get?_push_of_some _ (Heap.get?_push_of_some _ (Heap.get?_push_of_some _ (Heap.get?_push_of_some _ (by rw [← hN]; exact Heap.get?_push_size _ rfl)))))
 have o123 : s₂.heap.get? (N + 1) = some { cls := .type "list", data := .seq #[] } ∧ s₂.heap.get? (N + 1 + 1) = some { cls := .type "list", data := .seq #[] } ∧ s₂.heap.get? (N + 1 + 1 + 1) = some { cls := .type "list", data := .seq #[] } := by
  have hp : ∀ (h : Heap) (o : Obj) (n : Nat), o.isFreed = false → h.objs.size = n → (h.push o).get? n = some o := fun h o n f e => e ▸ Heap.get?_push_size _ f
  refine ⟨g₂.keep _ _ (Heap.get?_push_of_some _ (Heap.get?_push_of_some _ (Heap.get?_push_of_some _ (hp _ _ _ rfl ?_)))), g₂.keep _ _ (Heap.get?_push_of_some _ (Heap.get?_push_of_some _ (hp _ _ _ rfl ?_))), g₂.keep _ _ (Heap.get?_push_of_some _ (hp _ _ _ rfl ?_))⟩
  ·rw [← hN]; exact sz _ _
  ·rw [← hN]; exact (sz _ _).trans (congrArg (· + 1) (sz _ _))
  ·rw [← hN]; exact (sz _ _).trans (congrArg (· + 1) ((sz _ _).trans (congrArg (· + 1) (sz _ _))))
 obtain ⟨o1, o2, o3⟩ := o123
 have x₂ : Sx s s₂ := x₁.go g₂.sx
 clear g₂
 have hle : ∀ c, OwnA (ePln L) c → c < b := fun c hc => by
  obtain ⟨o, ho⟩ := V.own hc
  rw [← hb]; exact Heap.lt_size ho
 have hLb : L < b := hle L (.inl rfl)
 have V₂ : Vars s₂.heap (ePln L) m := V.grow fun c o ee => k₂ c o (k₁ c o ee)
 refine V₂.sxo (x := "below") fun s₃ x₃ V₃ k₃ => V₃.sxo (x := "ends") fun s₄ x₄ V₄ k₄ => V₄.sxo (x := "shut") fun s₅ x₅ V₅ k₅ => V₅.sxo (x := "story") fun s₆ x₆ V₆ k₆ => V₆.sxo (x := "pieces") fun s₇ x₇ V₇ k₇ => V₇.sxo (x := "k") fun s₈ x₈ V₈ k₈ => ?_
 have kk : ∀ c o, ¬ OwnA (ePln L) c → s₂.heap.get? c = some o → s₈.heap.get? c = some o := fun c o hc ee => k₈ c o hc (k₇ c o hc (k₆ c o hc (k₅ c o hc (k₄ c o hc (k₃ c o hc ee)))))
 have x₈' : Sx s s₈ := ((((((x₂.go x₃).go x₄).go x₅).go x₆).go x₇).go x₈)
 clear k₃ k₄ k₅ k₆ k₇ k₈ V₃ V₄ V₅ V₆ V₇ x₃ x₄ x₅ x₆ x₇ x₈
 obtain ⟨m₈, ⟨mb, me, ma, ms, mp, mk, mt, md⟩, V₈⟩ : ∃ m₈, (m₈ "below" = some (.ref b) ∧ m₈ "ends" = some (.ref N) ∧ m₈ "shut" = some (.ref (N + 1)) ∧ m₈ "story" = some (.ref (N + 1 + 1)) ∧ m₈ "pieces" = some (.ref (N + 1 + 1 + 1)) ∧ (∃ u, m₈ "k" = some (.int 0 u)) ∧ m₈ "text" = some (.str (toS text) t) ∧ m₈ "deeds" = some (.ref dl)) ∧ Vars s₈.heap (ePln L) m₈ := by
  refine ⟨_, ?_, V₈⟩
  exact ⟨(set_ne (by decide)).trans ((set_ne (by decide)).trans ((set_ne (by decide)).trans ((set_ne (by decide)).trans ((set_ne (by decide)).trans set_self)))),
   (set_ne (by decide)).trans ((set_ne (by decide)).trans ((set_ne (by decide)).trans ((set_ne (by decide)).trans set_self))),
   (set_ne (by decide)).trans ((set_ne (by decide)).trans ((set_ne (by decide)).trans set_self)),
   (set_ne (by decide)).trans ((set_ne (by decide)).trans set_self), (set_ne (by decide)).trans set_self, ⟨_, set_self⟩,
   (set_ne (by decide)).trans ((set_ne (by decide)).trans ((set_ne (by decide)).trans ((set_ne (by decide)).trans ((set_ne (by decide)).trans ((set_ne (by decide)).trans htx))))),
   (set_ne (by decide)).trans ((set_ne (by decide)).trans ((set_ne (by decide)).trans ((set_ne (by decide)).trans ((set_ne (by decide)).trans ((set_ne (by decide)).trans hd)))))⟩
 have hi : ∀ c, b ≤ c → ¬ OwnA (ePln L) c := fun c hc ho => Nat.lt_irrefl _ (Nat.lt_of_lt_of_le (hle c ho) hc)
 have hbN : b ≤ N := by lia
 have B8 : 303 ≤ b := by have := B.n; lia
 have hold : ∀ c o, h₀.get? c = some o → c < b ∧ ¬ OwnA (ePln L) c := fun c o ee => by
  have h1 := Heap.lt_size ee
  exact ⟨Nat.lt_trans (Nat.lt_of_lt_of_le h1 h0L) hLb, fun ho => Nat.lt_irrefl _ (Nat.lt_of_lt_of_le (Nat.lt_of_lt_of_le h1 h0L) (own_pln ho).1)⟩
 have far : ∀ c, c < b → Far St0 (fun _ => b + 1) b N (N + 1) (N + 1 + 1) (N + 1 + 1 + 1) c := fun c hc =>
  ⟨⟨Nat.ne_of_lt hc, fun p _ => Nat.ne_of_lt (Nat.lt_succ_of_lt hc)⟩, by lia, by lia, by lia, by lia⟩
 refine h s₈ (fun _ => b + 1) b N (N + 1) (N + 1 + 1) (N + 1 + 1 + 1) m₈ x₈' ?_ ⟨mp, ⟨t, mt⟩, mk⟩ md
 ·exact {
   b0 := ⟨h₀, B, fun _ _ ee => ee⟩
   P := {
    d := D₁.at fun o ee => kk _ o (hi _ (Nat.le_refl _)) (k₂ _ _ ee)
    k := fun p bs hm => by
     rcases List.mem_singleton.mp hm with e
     obtain ⟨rfl, rfl⟩ := Prod.mk.inj e
     obtain ⟨nn, e1⟩ := C₁
     exact ⟨[], ⟨nn, kk _ _ (hi _ (Nat.le_succ _)) (k₂ _ _ e1)⟩, .nil⟩
    inj := fun p q hp hq _ => (St0_has.mp hp).trans (St0_has.mp hq).symm
    lo := B8
    lk := fun _ _ => Nat.le_succ_of_le B8 }
   Pe := ⟨⟨[], ⟨#[], 0, kk _ _ (hi _ hbN) o0, DK.nil w⟩, .nil⟩, Nat.le_trans B8 hbN⟩
   W := St0_wf
   z := St0_sz
   bl := Nat.le_refl _
   el := Nat.le_refl _
   dep := St0_dep
   V := V₈
   nb := mb
   ne := me
   na := ma
   ns := ms
   sh := ⟨[], [], ⟨0, kk _ _ (hi _ (by lia)) o1⟩, .nil, fun p => Iff.rfl, Nat.le_refl _⟩
   st := ⟨[], ⟨0, kk _ _ (hi _ (by lia)) o2⟩, .nil⟩
   pi := ⟨(), ⟨0, kk _ _ (hi _ (by lia)) o3⟩⟩
   oe := ⟨by lia, fun p _ => by show N ≠ b + 1; lia⟩
   oa := ⟨by lia, fun p _ => by show N + 1 ≠ b + 1; lia⟩
   os := ⟨by lia, fun p _ => by show N + 1 + 1 ≠ b + 1; lia⟩
   op := ⟨by lia, fun p _ => by show N + 1 + 1 + 1 ≠ b + 1; lia⟩
   ap := ⟨by lia, by lia, by lia⟩
   own := fun c hc => far c (hle c hc)
   zo := fun c ⟨o, ee⟩ => ⟨⟨o, kk c o (hold c o ee).2 (k₂ c o (k₁ c o (k₀ c o ee)))⟩, far c (hold c o ee).1, (hold c o ee).2⟩
   old := fun c o ee => ⟨⟨o, ee⟩, kk c o (hold c o ee).2 (k₂ c o (k₁ c o (k₀ c o ee)))⟩ }
end
end
section
theorem psl_from (x : Path) (k : Nat) (h : k ≤ x.length) : psl x (some (k : Int)) none = x.drop k := by
 unfold psl clipN
 simp only
 rw [if_neg (show ¬ ((k : Int) < 0) by lia), show (max 0 (min (k : Int) (x.length : Int))).toNat = k from by lia]
 rw [List.take_of_length_le (by simp)]
noncomputable def pcBody : List Stmt := forBody ((fnBody 72)[3]?.getD (.Pass default))
structure PcAt (w : World) (L : Nat) (h₁ : Heap) (l : List (Path × Int)) (e π : Nat) (text : Path) (k : Nat) (pd : List PyData) (h : Heap) (m : Str → Option Value) : Prop where
 bs : Bs w h₁
 Pe : PE w h₁ e l
 V : Vars h (ePln L) m
 kp : ∀ c o, c ≠ L → c ≠ π → h₁.get? c = some o → h.get? c = some o
 bs' : Bs w h
 Pe' : PE w h e l
 ne : m "ends" = some (.ref e)
 text : ∃ t, m "text" = some (.str (toS text) t)
 k : ∃ u, m "k" = some (.int k u)
 pieces : m "pieces" = some (.ref π)
 p : ∃ zs, h.PlainList π zs.toArray ∧ IsAll (fun c => c ≠ L ∧ c ≠ π) h zs pd
 own : ∀ c, OwnA (ePln L) c → c ≠ π
 lo : 303 ≤ L ∧ 303 ≤ π
 eo : e ≠ L ∧ e ≠ π
 n1 : L < h₁.objs.size ∧ π < h₁.objs.size
structure KeptP (m m' : Str → Option Value) : Prop where
 story : m' "story" = m "story"
 tree : m' "tree" = m "tree"
 ends : m' "ends" = m "ends"
 text : m' "text" = m "text"
 pieces : m' "pieces" = m "pieces"
theorem KeptP.refl (m : Str → Option Value) : KeptP m m := ⟨rfl, rfl, rfl, rfl, rfl⟩
theorem KeptP.trans {m m' m'' : Str → Option Value} (x : KeptP m m') (y : KeptP m' m'') : KeptP m m'' := ⟨y.story.trans x.story, y.tree.trans x.tree, y.ends.trans x.ends, y.text.trans x.text, y.pieces.trans x.pieces⟩
theorem KeptP.set {m m' : Str → Option Value} {x : Str} {v : Value} (k : KeptP m m') (h : (["story", "tree", "ends", "text", "pieces"] : List Str).contains x = false) : KeptP m (set m' x v) := by
 have ne : ∀ y ∈ (["story", "tree", "ends", "text", "pieces"] : List Str), y ≠ x := fun y hy e => by
  subst e
  rw [List.contains_iff_mem.mpr hy] at h; cases h
 exact ⟨(set_ne (ne _ (by simp))).trans k.story, (set_ne (ne _ (by simp))).trans k.tree, (set_ne (ne _ (by simp))).trans k.ends, (set_ne (ne _ (by simp))).trans k.text, (set_ne (ne _ (by simp))).trans k.pieces⟩
theorem Bs.but {w : World} {h₁ h : Heap} {L π : Nat} (B : Bs w h₁) (hl : 303 ≤ L ∧ 303 ≤ π) (k : ∀ c o, c ≠ L → c ≠ π → h₁.get? c = some o → h.get? c = some o) : Bs w h :=
 B.mono (fun c o hc _ ee => k c o (Nat.ne_of_lt (Nat.lt_of_lt_of_le hc hl.1)) (Nat.ne_of_lt (Nat.lt_of_lt_of_le hc hl.2)) ee) (let ⟨o, ho⟩ := B.f 100 (by decide); ⟨o, k _ _ (Nat.ne_of_lt (Nat.lt_of_lt_of_le (by decide) hl.1)) (Nat.ne_of_lt (Nat.lt_of_lt_of_le (by decide) hl.2)) ho⟩)
section
variable {w : World} {A : Around} {E : Value → Shared → Prop} {s : Shared} {L : Nat} {h₁ h h' : Heap} {l : List (Path × Int)} {e π k : Nat} {text : Path} {pd : List PyData} {m m' : Str → Option Value}
theorem PcAt.to (C : PcAt w L h₁ l e π text k pd h m) (V' : Vars h' (ePln L) m') (K : KeptP m m') {k' : Nat} (hk : ∃ u, m' "k" = some (.int (k' : Nat) u)) (kk : ∀ c o, c ≠ L → c ≠ π → h.get? c = some o → h'.get? c = some o) {pd' : List PyData}
  (hp : ∃ zs, h'.PlainList π zs.toArray ∧ IsAll (fun c => c ≠ L ∧ c ≠ π) h' zs pd') : PcAt w L h₁ l e π text k' pd' h' m' :=
 have kp : ∀ c o, c ≠ L → c ≠ π → h₁.get? c = some o → h'.get? c = some o := fun c o h1 h2 ee => kk c o h1 h2 (C.kp c o h1 h2 ee)
 {
  bs := C.bs
  Pe := C.Pe
  V := V'
  kp := kp
  bs' := C.bs.but C.lo kp
  Pe' := C.Pe.at' fun o ee => kp _ o C.eo.1 C.eo.2 ee
  ne := K.ends.trans C.ne
  text := K.text ▸ C.text
  k := hk
  pieces := K.pieces.trans C.pieces
  p := hp
  own := C.own
  lo := C.lo
  eo := C.eo
  n1 := C.n1 }
theorem plain_piece (hA : Ok A 850 820) (C : PcAt w L h₁ l e π text k pd s.heap m) (hk : k < text.length) (ht : text.length ≤ 1000) (hl : l.length ≤ 1000) (hl6 : ∀ kv ∈ l, kv.1.length ≤ 6) (hpd : pd.length ≤ 1000) :
  wpAny (Md w) A (execs pcBody (ePln L)) (fun f s' => f = .next ∧ ∃ m', Sx s s' ∧ PcAt w L h₁ l e π text (k + max 1 (best l (text.drop k)).2) (pd ++ [pieceOf (best l (text.drop k))]) s'.heap m' ∧ KeptP m m') E s := by
 refine wpAny_abs fun Q hQ => ?_
 obtain ⟨t, htx⟩ := C.text
 obtain ⟨u, hku⟩ := C.k
 have V := C.V
 refine wpAny_execs_cons (Assign_Tuple (ev_Call (glob (v := .ref 287) C.bs' (cw_callable (V.rd (v := .ref e) (ev_slice (V.rd (v := .str (toS text) t) (V.rd (v := .int k u) (wpAny_pure ⟨text, t, some ((k : Int), u), none, rfl, rfl, rfl, by lia, fun s₁ t₁ g₁ => ?_⟩) hku) htx)) C.ne)))))
 simp only [Option.map_some, Option.map_none]
 rw [psl_from text k (Nat.le_of_lt hk)]
 have k₁ : ∀ c o, s.heap.get? c = some o → s₁.heap.get? c = some o := g₁.keep
 refine ⟨fnCallable (C.bs'.grow k₁) (o287p6 w.params) _, call_best (hA.le (by decide) (by decide)) (C.bs'.grow k₁) (C.Pe'.at' fun o ee => k₁ _ _ ee) (by rw [List.length_drop]; lia) (by lia) (fun kv hkv => by have := hl6 kv hkv; lia) fun r s₂ ua ub g₂ hr hor => ?_⟩
 have k₂ : ∀ c o, s.heap.get? c = some o → s₂.heap.get? c = some o := fun c o ee => g₂.keep c o (k₁ c o ee)
 have x₂ : Sx s s₂ := g₁.sx.trans g₂.sx
 refine asgx hA.h hor rfl rfl fun s₃ g₃ => ?_
 have k₃ : ∀ c o, s.heap.get? c = some o → s₃.heap.get? c = some o := fun c o ee => g₃.keep c o (k₂ c o ee)
 have x₃ : Sx s s₃ := x₂.trans g₃.sx
 generalize best l (text.drop k) = bst at *
 obtain ⟨a, bz⟩ := bst
 refine (V.grow k₃).sxl (x := "number") fun s₄ x₄ V₄ k₄ => V₄.sxl (x := "size") fun s₅ x₅ V₅ k₅ => ?_
 have kk₅ : ∀ c o, c ≠ L → s.heap.get? c = some o → s₅.heap.get? c = some o := fun c o hc ee => k₅ c o hc (k₄ c o hc (k₃ c o ee))
 have x₅' : Sx s s₅ := (x₃.trans x₄).trans x₅
 have hnum : set (set m "number" (.int a ua)) "size" (.int bz ub) "number" = some (.int a ua) := (set_ne (by decide)).trans set_self
 have hsz : set (set m "number" (.int a ua)) "size" (.int bz ub) "size" = some (.int bz ub) := set_self
 have K₅ : KeptP m (set (set m "number" (.int a ua)) "size" (.int bz ub)) := ((KeptP.refl m).set (by decide)).set (by decide)
 have hk₅ : set (set m "number" (.int a ua)) "size" (.int bz ub) "k" = some (.int k u) := (set_ne (by decide)).trans ((set_ne (by decide)).trans hku)
 obtain ⟨zs, hP, hI⟩ := C.p
 have hLπ : π ≠ L := fun e' => C.own L (.inl rfl) e'.symm
 have C₅ : PcAt w L h₁ l e π text k pd s₅.heap (set (set m "number" (.int a ua)) "size" (.int bz ub)) := C.to V₅ K₅ ⟨u, hk₅⟩ (fun c o h1 _ ee => kk₅ c o h1 ee) ⟨zs, hP.at fun o ee => kk₅ _ _ hLπ ee, hI.keep (fun c o hc ee _ => kk₅ c o hc.1 ee) fun _ h => h⟩
 generalize set (set m "number" (.int a ua)) "size" (.int bz ub) = m₅ at V₅ C₅ hnum hsz K₅ hk₅
 clear k₅ k₄ k₃ k₂ k₁ g₃ g₂ g₁ hP hI C V₄ V hr hor
 obtain ⟨zs, hP, hI⟩ := C₅.p
 refine wpAny_execs_cons (wpAny_Expr (ev_Method (V₅.rd (v := .ref π) (fun pl => getm_append hP (cw_builtin (ev_Tuple (V₅.rd (v := .int a ua) (V₅.rd (v := .int bz ub) (wpAny_Compare1 (V₅.rd (v := .int a ua) (wpAny_Constant_int (PyProof.Rows.eq_int (wpAny_Compare1 (V₅.rd (v := .int a ua) (wpAny_Constant_int (PyProof.Rows.lt_int (wpAny_Compare1 (V₅.rd (v := .int a ua) (wpAny_Constant_int (PyProof.Rows.ge_int ?_)) hnum)))) hnum)))) hnum)) hsz) hnum)))) C₅.pieces)))
 have up : ∀ c o, s₅.heap.get? c = some o → (s₅.heap.push (tupO [.int a ua, .int bz ub, .bool (a == 0), .bool (decide (a < 256)), .bool (decide (a ≥ 256))])).get? c = some o := fun c o ee => Heap.get?_push_of_some _ ee
 refine wpAny_list_append_plain (hP.at fun o ee => up _ _ ee) (fun h' hl S' => ?_) (by rw [List.size_toArray, hI.len, sizeLine_eq]; lia)
 have kS : ∀ c o, c ≠ π → s₅.heap.get? c = some o → h'.get? c = some o := fun c o hc ee => (S'.2 c hc).trans (up c o ee)
 have V₆ : Vars h' (ePln L) m₅ := V₅.keep fun c o hc ee => kS c o (C₅.own c hc) ee
 have e1 : zs.toArray.push (Value.ref s₅.heap.objs.size) = (zs ++ [Value.ref s₅.heap.objs.size]).toArray := by simp
 rw [e1] at hl
 have hnew : s₅.heap.objs.size ≠ L ∧ s₅.heap.objs.size ≠ π := by
  obtain ⟨oL, hoL⟩ := V₅.own (.inl rfl)
  obtain ⟨_, e2⟩ := hP
  exact ⟨Nat.ne_of_gt (Heap.lt_size hoL), Nat.ne_of_gt (Heap.lt_size e2)⟩
 have hI₆ : IsAll (fun c => c ≠ L ∧ c ≠ π) h' (zs ++ [Value.ref s₅.heap.objs.size]) (pd ++ [pieceOf (a, bz)]) :=
  (hI.keep (fun c o hc ee _ => kS c o hc.2 ee) fun _ h => h).snoc (.tuple hnew ((S'.2 _ hnew.2).trans (Heap.get?_push_size _ rfl)) rfl rfl (.cons (.int _ _) (.cons (.int _ _) (.cons (.bool _) (.cons (.bool _) (.cons (.bool _) .nil))))))
 have C₆ : PcAt w L h₁ l e π text k (pd ++ [pieceOf (a, bz)]) h' m₅ := C₅.to V₆ (.refl _) ⟨u, hk₅⟩ (fun c o _ h2 ee => kS c o h2 ee) ⟨_, hl, hI₆⟩
 refine wpAny_execs_cons (wpAny_AugAssign_Name (V₆.ld (x := "k") (v := .int k u) (by rfl) hk₅ ?_))
 refine ev_Call (blt (v := .builtin "max") C₆.bs' (cw_builtin (wpAny_Constant_int (V₆.rd (v := .int bz ub) (max_two_ints hA.h fun h₇ tk k₇ => ?_) hsz))))
 rw [show (if (bz : Int) > 1 then Value.int (bz : Int) ub else Value.int 1 _) = Value.int ((max 1 bz : Nat) : Int) (if (bz : Int) > 1 then ub else _) from by
  split
  ·congr 1; lia
  ·congr 1; lia]
 refine iadd_int ?_
 have V₇ := V₆.grow k₇
 refine V₇.sxl (x := "k") fun s₈ x₈ V₈ k₈ => ?_
 have kk₈ : ∀ c o, c ≠ L → h'.get? c = some o → s₈.heap.get? c = some o := fun c o hc ee => k₈ c o hc (k₇ c o ee)
 have K₈ := fun v => K₅.set (x := "k") (v := v) (by decide)
 refine wpAny_execs_nil (hQ _ ⟨rfl, _, ?_, C₆.to V₈ ((KeptP.refl _).set (by decide)) ⟨_, by rw [show (((k + max 1 ((a, bz) : Int × Nat).2 : Nat)) : Int) = (k : Int) + ((max 1 bz : Nat) : Int) from by push_cast; rfl]; exact set_self⟩ (fun c o h1 _ ee => kk₈ c o h1 ee) ⟨_, hl.at fun o ee => kk₈ _ _ hLπ ee, hI₆.keep (fun c o hc ee _ => kk₈ c o hc.1 ee) fun _ h => h⟩, K₈ _⟩)
 exact x₅'.go x₈
end
end
section
theorem runP_snoc : ∀ (ds : List Deed) (S : St) (told : List PyData) (d : Deed), runP S told (ds ++ [d]) = ((turnP (runP S told ds).1 d).1, (runP S told ds).2 ++ [(turnP (runP S told ds).1 d).2])
 | [], S, told, d => rfl
 | e :: ds, S, told, d => by rw [List.cons_append, runP, runP_snoc ds, runP]
theorem runP_len : ∀ (ds : List Deed) {S : St} {told : List PyData}, (runP S told ds).2.length = told.length + ds.length
 | [], _, _ => rfl
 | d :: ds, _, told => by
  rw [runP, runP_len ds, List.length_append, List.length_cons, List.length_cons, List.length_nil]
  lia
section
variable {w : World} {L : Nat} {F : Nat → Obj → Prop} {h h' : Heap} {S : St} {n : Nat} {κ : Path → Nat} {b e a σ π : Nat} {Z : Nat → Prop} {told : List PyData} {m : Str → Option Value}
theorem PlAt.zsub (R : PlAt w L F S n κ b e a σ π Z told h m) {Z' : Nat → Prop} (sub : ∀ c, Z' c → Z c) (hs : ∀ c o, Z c → h.get? c = some o → (∃ vs n, o.data = .seq vs n) → Z' c) (hf : ∀ c o, F c o → Z' c) : PlAt w L F S n κ b e a σ π Z' told h m :=
 { R with
  st := let ⟨ys, t1, t2⟩ := R.st; ⟨ys, t1, t2.withinS hs⟩
  zo := fun c hc => R.zo c (sub c hc)
  old := fun c o ee => ⟨hf c o ee, (R.old c o ee).2⟩ }
theorem PlAt.move (R : PlAt w L F S n κ b e a σ π Z told h m) {I : Nat} (hI : Far S κ b e a σ π I ∧ ¬ OwnA (ePln L) I) (hz : ¬ Z I) (k : ∀ c o, c ≠ I → h.get? c = some o → h'.get? c = some o) : PlAt w L F S n κ b e a σ π Z told h' m := by
 obtain ⟨zs, ps, s1, s2, s3, s4⟩ := R.sh
 obtain ⟨ys, t1, t2⟩ := R.st
 obtain ⟨xs, p1⟩ := R.pi
 have ne : ∀ c, Z c → c ≠ I := fun c hc x => hz (x ▸ hc)
 exact { R with
  P := R.P.keep (fun o ee => k _ _ (Ne.symm hI.1.1.1) ee) fun p hp o ee => k _ _ (Ne.symm (hI.1.1.2 p hp)) ee
  Pe := R.Pe.at' fun o ee => k _ _ (Ne.symm hI.1.2.1) ee
  V := R.V.keep fun c o hc ee => k c o (fun x => hI.2 (x ▸ hc)) ee
  sh := ⟨zs, ps, s1.at fun o ee => k _ _ (Ne.symm hI.1.2.2.1) ee, s2, s3, s4⟩
  st := ⟨ys, t1.at fun o ee => k _ _ (Ne.symm hI.1.2.2.2.1) ee, t2.zk fun c o hc ee => ⟨k c o (ne c hc) ee, hc⟩⟩
  pi := ⟨xs, p1.at fun o ee => k _ _ (Ne.symm hI.1.2.2.2.2) ee⟩
  zo := fun c hc => ⟨let ⟨o, ee⟩ := (R.zo c hc).1; ⟨o, k c o (ne c hc) ee⟩, (R.zo c hc).2⟩
  old := fun c o ee => ⟨(R.old c o ee).1, k c o (ne c (R.old c o ee).1) (R.old c o ee).2⟩ }
end
section
variable {w : World} {A : Around} {E : Value → Shared → Prop} {s : Shared}
theorem plain_turn {L : Nat} {F : Nat → Obj → Prop} {S : St} {n : Nat} {κ : Path → Nat} {b e a σ π : Nat} {Z : Nat → Prop} {told : List PyData} {m : Str → Option Value} {d : Deed} {kd wd : Str} {md : PyData} {ta tb : Tok} {vc : Value} (hA : Ok A 830 800) (R : PlAt w L F S n κ b e a σ π Z told s.heap m) (hlen : told.length ≤ 1000) (hn : n ≤ 1000) (ok : d.ok)
  (hd : d.data = .tuple [.str kd, .str wd, md]) (hvc : Is (fun _ => True) s.heap vc md) (hk : m "kind" = some (.str kd ta)) (hw : m "word" = some (.str wd tb)) (hm : m "more" = some vc) :
  wpAny (Md w) A (execs plnBody (ePln L)) (PlEnd w L F (turnP S d).1 (n + 7) σ π (told ++ [(turnP S d).2]) m s) E s := by
 cases d with
 | P x k =>
  cases hd
  obtain ⟨tc, rfl⟩ := hvc.asInt
  exact plain_turnP (hA.le (by decide) (by decide)) R hlen hn ok.1 ⟨⟨_, hk⟩, ⟨_, hw⟩, hm⟩
 | L x k =>
  cases hd
  exact plain_turnL (k := k) (hA.le (by decide) (by decide)) R hlen hn ok ⟨⟨_, hk⟩, ⟨_, hw⟩, hm⟩
 | F x k =>
  cases hd
  exact plain_turnF (k := k) (hA.le (by decide) (by decide)) R hlen hn ok ⟨⟨_, hk⟩, ⟨_, hw⟩, hm⟩
 | T x c k =>
  cases hd
  exact plain_turnT (k := k) (hA.le (by decide) (by decide)) R hlen hn ok ⟨⟨_, hk⟩, ⟨_, hw⟩, hm⟩
 | G x y =>
  cases hd
  obtain ⟨tc, rfl⟩ := hvc.asStr
  exact plain_turnG hA R hlen hn ok.1 ok.2.1 ok.2.2 ⟨⟨_, hk⟩, ⟨_, hw⟩, hm⟩
inductive PI (w : World) (s₀ : Shared) (ds : List Deed) (text : Path) (L σ π I i : Nat) (s' : Shared) : Prop
 | mk (κ : Path → Nat) (b e a : Nat) (Z : Nat → Prop) (m : Str → Option Value) (x : Sx s₀ s') (R : PlAt w L (fun c o => s₀.heap.get? c = some o) (runP St0 [] (ds.take i)).1 (7 * i) κ b e a σ π Z (runP St0 [] (ds.take i)).2 s'.heap m) (N : PNm π text m) (f : Far (runP St0 [] (ds.take i)).1 κ b e a σ π I) (o : ¬ OwnA (ePln L) I) (z : ¬ Z I) : PI w s₀ ds text L σ π I i s'
section
variable {s₀ : Shared} {ds : List Deed} {text : Path} {L σ π I dl i : Nat} {vs : Array Value}
theorem PI.turn {oI : Obj} {κ : Path → Nat} {b e a : Nat} {Z : Nat → Prop} {S : St} {n : Nat} {told : List PyData} {m : Str → Option Value} (J : PlAt w L (fun c o => s₀.heap.get? c = some o ∨ (c = I ∧ o = oI)) S n κ b e a σ π Z told s.heap m) (B : Bs w s₀.heap) (hI : s₀.heap.get? I = none) (hd : ∀ vs n, oI.data ≠ .seq vs n) :
  PlAt w L (fun c o => s₀.heap.get? c = some o) S n κ b e a σ π (fun c => Z c ∧ c ≠ I) told s.heap m :=
 (J.fsub (F' := fun c o => s₀.heap.get? c = some o) (fun c o ee => .inl ee) ⟨s₀.heap, B, fun c o ee => ee⟩).zsub (fun c hc => hc.1) (fun c o hc ee ⟨vs', nn, hd'⟩ => ⟨hc, fun x => by
  rw [x, (J.old I oI (.inr ⟨rfl, rfl⟩)).2] at ee; cases ee; exact hd _ _ hd'⟩) fun c o ee => ⟨(J.old c o (.inl ee)).1, fun x => by rw [x, hI] at ee; cases ee⟩
theorem plain_step {v : Value} {G : Flow → Shared → Prop} {tg : Expr} {p1 p2 p3 p4 : Pos} {k : Nat} (tge : tg = .Tuple [.Name "kind" p1, .Name "word" p2, .Name "more" p3] k p4) (hA : Ok A 830 800) (B : Bs w s₀.heap) (hvs : vs.size = ds.length) (ok : ∀ d ∈ ds, d.ok) (hlen : ds.length ≤ 100) (hI : s₀.heap.get? I = none) (hl : s₀.heap.IsList dl vs) (hall : IsAll (fun _ => True) s₀.heap vs.toList (ds.map Deed.data))
  (hi : i < vs.size) (hvi : vs[i]? = some v) (J : PI w s₀ ds text L σ π I i s) (hSt : ItAt I dl vs (i + 1) s.heap) (g : ∀ s', PI w s₀ ds text L σ π I (i + 1) s' → ItAt I dl vs (i + 1) s'.heap → G .next s') :
  wpAny (Md w) A (letOwnedTupleGo tg (.ref I) v) (fun _ s₁ => wpAny (Md w) A (assign tg (ePln L) v) (fun _ s₂ => wpAny (Md w) A (execs plnBody (ePln L)) G E s₂) E s₁) E s := by
 subst tge
 rw [hvs] at hi
 have hdd : ds[i]? = some ds[i] := List.getElem?_eq_getElem hi
 obtain ⟨κ, b, e, a, Z, m, hx, R, hN, hf, ho, hz⟩ := J
 have oki := ok _ (List.mem_of_getElem? hdd)
 have hS : runP St0 [] (ds.take (i + 1)) = ((turnP (runP St0 [] (ds.take i)).1 ds[i]).1, (runP St0 [] (ds.take i)).2 ++ [(turnP (runP St0 [] (ds.take i)).1 ds[i]).2]) := by rw [List.take_add_one, hdd]; exact runP_snoc ..
 have htold : (runP St0 [] (ds.take i)).2.length ≤ 1000 := by
  rw [runP_len, List.length_take]
  simp only [List.length_nil]
  lia
 have hn : 7 * i ≤ 1000 := by lia
 obtain ⟨t3, o3, n3, kd, wd, md, ta, tb, vc, rfl, ho3, hc3, hd3, hvc, hdata⟩ := hall.deed hvi hdd
 generalize ds[i] = d at *
 generalize (runP St0 [] (ds.take i)).1 = S at *
 generalize (runP St0 [] (ds.take i)).2 = told at *
 clear hdd hvi hlen ok hall
 refine wpAny_letOwnedTupleGo_listiter hSt.1 (asg3 hA.h (R.old _ _ ho3).2 hc3 hd3 fun s₁ g₁ => ?_)
 have R₁ := R.grow g₁.keep
 refine R₁.V.sx3 (by decide) (by decide) (by decide) fun s₂ m₂ x₂ V₂ mk mw mm hm k₂ => ?_
 have hst := hm "story" (by decide) (by decide) (by decide)
 have R₂ := R₁.loc V₂ k₂ (hm _ (by decide) (by decide) (by decide)) (hm _ (by decide) (by decide) (by decide)) (hm _ (by decide) (by decide) (by decide)) hst
 have hN₂ : PNm π text m₂ := hN.kept ⟨hm _ (by decide) (by decide) (by decide), hst, hm _ (by decide) (by decide) (by decide), hm _ (by decide) (by decide) (by decide), hm _ (by decide) (by decide) (by decide)⟩
 have x₂' := (hx.go g₁.sx).go x₂
 have hSt₂ := hSt.1.at fun o ee => k₂ _ _ ho (g₁.keep _ _ ee)
 clear hm k₂ V₂ R₁ g₁ x₂ hSt R hN hst
 obtain ⟨oI, hoI, hcI, hdI⟩ := id hSt₂
 have hno : ∀ vs n, oI.data ≠ .seq vs n := fun _ _ x => by rw [hdI] at x; cases x
 have RI : PlAt w L (fun c o => s₀.heap.get? c = some o ∨ (c = I ∧ o = oI)) S (7 * i) κ b e a σ π (fun c => Z c ∨ c = I) told s₂.heap m₂ :=
  (R₂.zadd (Z' := fun c => Z c ∨ c = I) (fun c hc => .inl hc) fun c hc => hc.imp id fun e => by rw [e]; exact ⟨⟨_, hoI⟩, hf, ho⟩).fadd (fun c o ee => .inl ee) fun c o ee => ee.imp id fun ⟨e1, e2⟩ => by rw [e1, e2]; exact ⟨.inr rfl, hoI⟩
 refine wpAny_mono (plain_turn hA RI htold hn oki hdata (hvc.keep (fun c o _ ee _ => (R₂.old c o ee).2) fun _ h => h) mk mw mm) (fun f s₃ hf3 => ?_) fun _ _ e => e
 obtain ⟨rfl, κ', b', e', a', Z', m', x₃, R₃, K₃⟩ := hf3
 have hI3 := R₃.old I oI (.inr ⟨rfl, rfl⟩)
 refine g s₃ ⟨κ', b', e', a', fun c => Z' c ∧ c ≠ I, m', x₂'.trans x₃, ?_, hN₂.kept K₃, ?_, ho, fun hc => hc.2 rfl⟩ ⟨⟨oI, hI3.2, hcI, hdI⟩, hl.at fun o ee => (R₃.old _ _ (.inl ee)).2⟩
 ·rw [hS]; exact PI.turn R₃ B hI hno
 ·rw [hS]; exact (R₃.zo I hI3.1).2.1
inductive PW (w : World) (s₀ : Shared) (h₁ : Heap) (l : List (Path × Int)) (text : Path) (L e π : Nat) (m₀ : Str → Option Value) (nn : Nat) (s' : Shared) : Prop
 | mk (k f : Nat) (pd : List PyData) (m : Str → Option Value) (en : nn = text.length - k) (x : Sx s₀ s') (C : PcAt w L h₁ l e π text k pd s'.heap m) (K : KeptP m₀ m) (hl : pd.length ≤ k) (hf : (text.drop k).length ≤ f) (hp : pd ++ pcsP l f (text.drop k) = pcsP l text.length text) : PW w s₀ h₁ l text L e π m₀ nn s'
theorem PW.next {h₁ : Heap} {l : List (Path × Int)} {e k f : Nat} {m₀ m : Str → Option Value} {pd : List PyData} {s' : Shared} (hk : k < text.length) (x : Sx s₀ s') (C : PcAt w L h₁ l e π text (k + max 1 (best l (text.drop k)).2) (pd ++ [pieceOf (best l (text.drop k))]) s'.heap m) (K : KeptP m₀ m)
  (hl : pd.length ≤ k) (hf : (text.drop k).length ≤ f) (hp : pd ++ pcsP l f (text.drop k) = pcsP l text.length text) : ∃ j, j < text.length - k ∧ PW w s₀ h₁ l text L e π m₀ j s' := by
 have hk1 : 1 ≤ max 1 (best l (text.drop k)).2 := Nat.le_max_left ..
 have hne : text.drop k ≠ [] := by
  intro e
  have := congrArg List.length e
  simp at this
  lia
 have hf0 : (text.drop k).length ≠ 0 := fun e => hne (List.length_eq_zero_iff.mp e)
 obtain ⟨f, rfl⟩ : ∃ g, f = g + 1 := ⟨f - 1, by lia⟩
 refine ⟨text.length - (k + max 1 (best l (text.drop k)).2), by lia, _, f, _, m, rfl, x, C, K, ?_, ?_, ?_⟩
 ·rw [List.length_append]; simp only [List.length_cons, List.length_nil]; lia
 ·rw [← List.drop_drop, List.length_drop]; lia
 ·rw [← hp, List.append_assoc]
  congr 1
  conv => rhs; rw [pcsP, if_neg hne]
  rw [List.drop_drop]
  rfl
noncomputable def plnWhile : List Stmt := (fnBody 72).drop 3
theorem plain_while {h₁ : Heap} {l : List (Path × Int)} {e : Nat} {m₀ : Str → Option Value} {vT : Value} {Q : Flow → Shared → Prop} (hA : Ok A 830 800) (htl : text.length ≤ 1000) (hel : l.length ≤ 1000) (h6 : ∀ kv ∈ l, kv.1.length ≤ 6) (x : Sx s₀ s) (C : PcAt w L h₁ l e π text 0 [] s.heap m₀) (hs : m₀ "story" = some (.ref σ)) (hT : m₀ "tree" = some vT)
  (h : ∀ s' zs, Sx s₀ s' → (∀ c o, c ≠ L → c ≠ π → h₁.get? c = some o → s'.heap.get? c = some o) → s'.heap.PlainList π zs.toArray → IsAll (fun c => c ≠ L ∧ c ≠ π) s'.heap zs (pcsP l text.length text) → Q (.ret (.ref s'.heap.objs.size)) { s' with heap := s'.heap.push (tupO [.ref σ, vT, .ref π, vT]) }) : wpAny (Md w) A (execs plnWhile (ePln L)) Q E s := by
 refine wpAny_execs_cons (wpAny_While (codeAny_whileLoop (PW w s₀ h₁ l text L e π m₀) ?_ text.length ⟨0, text.length, [], m₀, rfl, x, C, .refl _, Nat.le_refl _, by simp, by simp⟩))
 rintro nn s₄ ⟨k, f, pd, m₄, rfl, x₄, C₄, K₄, hpl, hf, hpd⟩
 obtain ⟨tt, htx⟩ := C₄.text
 obtain ⟨u, hku⟩ := C₄.k
 refine wpAny_isTrue_Compare1 (C₄.V.rd (v := .int k u) (ev_Call (blt (v := .builtin "len") C₄.bs' (cw_builtin (C₄.V.rd (v := .str (toS text) tt) (len_str (by rw [toS_len]; lia) (PyProof.Rows.lt_int (wpAny_truthy_bool ?_))) htx)))) hku)
 rw [toS_len]
 by_cases hk : k < text.length
 ·rw [if_pos (by simpa using hk)]
  refine wpAny_mono (plain_piece (s := { s₄ with toks := s₄.toks + 1 + 1 }) (hA.le (by decide) (by decide)) C₄ hk htl hel h6 (by lia)) (fun fl s₅ hfl => ?_) fun _ _ e => e
  obtain ⟨rfl, m₅, x₅, C₅, K₅⟩ := hfl
  exact PW.next hk (x₄.go x₅) C₅ (K₄.trans K₅) hpl hf hpd
 ·rw [if_neg (by simpa using hk)]
  refine wpAny_execs_nil ?_
  have hkl : text.drop k = [] := List.drop_of_length_le (Nat.le_of_not_lt hk)
  rw [hkl] at hpd
  have hpd' : pd = pcsP l text.length text := by
   rw [← hpd]
   cases f <;> simp [pcsP]
  obtain ⟨zs, hPz, hIz⟩ := C₄.p
  have htr₄ : m₄ "tree" = some vT := K₄.tree.trans hT
  refine wpAny_execs_cons (wpAny_Return_some (ev_Tuple (C₄.V.rd (v := .ref σ) (C₄.V.rd (v := vT) (C₄.V.rd (v := .ref π) (C₄.V.rd (v := vT) ?_ htr₄) C₄.pieces) htr₄) (K₄.story.trans hs))))
  rw [hpd'] at hIz
  exact h _ zs (x₄.trans ⟨rfl, rfl, rfl⟩) C₄.kp hPz hIz
noncomputable def plnRest : List Stmt := (fnBody 72).drop 2
theorem plain_rest {Q : Flow → Shared → Prop} (hA : Ok A 830 800) (B : Bs w s₀.heap) (hL3 : 303 ≤ L) (hvs : vs.size = ds.length) (hlen : ds.length ≤ 100) (htl : text.length ≤ 1000) (J : PI w s₀ ds text L σ π I vs.size s)
  (h : ∀ v s', Sx s₀ s' → (∀ b o, s₀.heap.get? b = some o → s'.heap.get? b = some o) →
   Is (fun _ => True) s'.heap v (.tuple [.list (runP St0 [] ds).2, .list (drawn (runP St0 [] ds).1 8 []), .list (pcsP (runP St0 [] ds).1.ends text.length text), .list (drawn (runP St0 [] ds).1 8 [])]) → Q (.ret v) s') : wpAny (Md w) A (execs plnRest (ePln L)) Q E s := by
 obtain ⟨κ, b, e, a, Z, m, hx, R, hN, _, _, _⟩ := J
 rw [hvs, List.take_of_length_le (Nat.le_refl _)] at R
 generalize (runP St0 [] ds).1 = S at R h
 generalize (runP St0 [] ds).2 = story at R h
 refine wpAny_execs_cons (wpAny_Assign_Name (ev_Call (glob (v := .ref 282) R.bs (cw_callable (R.V.rd (v := .ref b) (R.V.rd (v := .ref e) (Constant_str ⟨fnCallable R.bs (o282p6 w.params) _, ?_⟩) R.ne) R.nb)))))
 refine call_drawn 8 (p := []) (by decide) (by decide) (hA.le (by decide) (by decide)) R.bs R.P R.Pe R.W.l (R.z.le (by lia)) (by decide) (fun q hq _ => by have := R.dep q hq; simp; lia) fun vT s₂ g₂ hT => ?_
 have R₂ : PlAt w L (fun c o => s₀.heap.get? c = some o) S (7 * ds.length) κ b e a σ π (fun c => Z c ∨ (s.heap.objs.size ≤ c ∧ ∃ o, s₂.heap.get? c = some o)) story s₂.heap m :=
  (R.grow g₂.keep).zadd (fun c hc => .inl hc) fun c hc => hc.imp id fun ⟨h1, h2⟩ => ⟨h2, R.fresh h1⟩
 have hT₂ : Is (fun c => Z c ∨ (s.heap.objs.size ≤ c ∧ ∃ o, s₂.heap.get? c = some o)) s₂.heap vT (.list (drawn S 8 [])) := hT.within fun c o h1 ee => .inr ⟨h1, o, ee⟩
 generalize (fun c => Z c ∨ (s.heap.objs.size ≤ c ∧ ∃ o, s₂.heap.get? c = some o)) = Z₂ at R₂ hT₂
 refine R₂.put (x := "tree") fun s₃ x₃ R₃ k₃ => ?_
 have hT₃ : Is Z₂ s₃.heap vT (.list (drawn S 8 [])) := hT₂.zk fun c o hc ee => ⟨k₃ c o (fun eL => (R₂.zo c hc).2.2 (.inl eL)) ee, hc⟩
 have hN₃ : PNm π text (set m "tree" vT) := hN.kept ((Kept.refl m).set (by decide))
 have hmT : set m "tree" vT "tree" = some vT := set_self
 have x₃' : Sx s₀ s₃ := (hx.go g₂.sx).trans x₃
 generalize set m "tree" vT = m₃ at R₃ hN₃ hmT
 clear hT₂ hT R₂ k₃ x₃ g₂ R hx hN
 obtain ⟨ys, ⟨n1, e1⟩, hIy⟩ := R₃.st
 obtain ⟨_, hPp⟩ := R₃.pi
 have hoe : ∀ c, OwnA (ePln L) c → c ≠ e := fun c hc => (R₃.own c hc).2.1
 have heπ : e ≠ π := fun ex => by
  obtain ⟨o2, es, kk, e2, hd2⟩ := R₃.objE
  obtain ⟨nn, e4⟩ := hPp
  rw [ex, e4] at e2; cases e2; cases hd2
 have hπ3 : 303 ≤ π := by
  rcases Nat.lt_or_ge π 303 with l | l
  ·obtain ⟨o, hob⟩ := B.f π l
   exact absurd rfl (R₃.zo π (R₃.old π o hob).1).2.1.2.2.2.2
  ·exact l
 have C₃ : PcAt w L s₃.heap S.ends e π text 0 [] s₃.heap m₃ := ⟨R₃.bs, R₃.Pe, R₃.V, fun _ _ _ _ ee => ee, R₃.bs, R₃.Pe, R₃.ne, hN₃.text, hN₃.k, hN₃.pieces, ⟨[], hPp, .nil⟩, fun c hc => (R₃.own c hc).2.2.2.2, ⟨hL3, hπ3⟩, ⟨fun ex => hoe L (.inl rfl) ex.symm, heπ⟩, ⟨let ⟨o, ho⟩ := R₃.V.own (.inl rfl); Heap.lt_size ho, let ⟨nn, e4⟩ := hPp; Heap.lt_size e4⟩⟩
 refine plain_while hA htl (Nat.le_trans R₃.el (by lia)) R₃.endlen x₃' C₃ R₃.ns hmT fun s₄ zs x₄ kp ⟨n2, e2⟩ hIz => ?_
 have up : ∀ c o, s₄.heap.get? c = some o → (s₄.heap.push (tupO [.ref σ, vT, .ref π, vT])).get? c = some o := fun c o e => Heap.get?_push_of_some _ e
 have kz : ∀ c o, Z₂ c → s₃.heap.get? c = some o → (s₄.heap.push (tupO [.ref σ, vT, .ref π, vT])).get? c = some o := fun c o hc ee => up c o (kp c o (fun x => (R₃.zo c hc).2.2 (.inl x)) (R₃.zo c hc).2.1.2.2.2.2 ee)
 have hT₅ : Is (fun _ => True) (s₄.heap.push (tupO [.ref σ, vT, .ref π, vT])) vT (.list (drawn S 8 [])) := (hT₃.keep (N' := Z₂) (fun c o hc ee _ => kz c o hc ee) fun _ h => h).within fun _ _ _ _ => trivial
 refine h (.ref s₄.heap.objs.size) _ (x₄.go .of) (fun c o ee => kz c o (R₃.old c o ee).1 (R₃.old c o ee).2) (.tuple trivial (Heap.get?_push_size _ rfl) rfl rfl ?_)
 exact .cons (.list trivial (up _ _ (kp _ _ (fun ex => (R₃.own L (.inl rfl)).2.2.2.1 ex.symm) R₃.ap.2.2 e1)) rfl rfl ((hIy.keep (N' := Z₂) (fun c o hc ee _ => kz c o hc ee) fun _ h => h).within fun _ _ _ _ => trivial)) (.cons hT₅ (.cons (.list trivial (up _ _ e2) rfl rfl (hIz.keep (.grow up) fun _ _ => trivial)) (.cons hT₅ .nil)))
end
theorem call_plain {ds : List Deed} {text : Path} {dl : Nat} {t : Tok} {Q : Value → Shared → Prop} (hA : Ok A 820 780) (B : Bs w s.heap) (ok : ∀ d ∈ ds, d.ok) (hlen : ds.length ≤ 100) (htl : text.length ≤ 1000)
  (hd : Is (fun _ => True) s.heap (.ref dl) (.list (ds.map Deed.data)))
  (h : ∀ v s', Sx s s' → (∀ b o, s.heap.get? b = some o → s'.heap.get? b = some o) →
   Is (fun _ => True) s'.heap v (.tuple [.list (runP St0 [] ds).2, .list (drawn (runP St0 [] ds).1 8 []), .list (pcsP (runP St0 [] ds).1.ends text.length text), .list (drawn (runP St0 [] ds).1 8 [])]) → Q v s') :
  wpAny (Md w) A (call (.ref 292) [.ref dl, .str (toS text) t]) Q E s := by
 refine enter (fd := fdL 72 "_law_plain" 291) (o := o292p6 w.params) (binds := [("deeds", .ref dl), ("text", .str (toS text) t)]) B hA (by lia) fun h₁ tk E' V hk hown => ?_
 have hA' : Ok (A.deeper (ePln s.heap.objs.size)) 830 800 := (hA.deeper (ePln s.heap.objs.size)).le (by decide) (by decide)
 rw [show callEnvC (fdL 72 "_law_plain" 291) s.heap.objs.size 292 = ePln s.heap.objs.size from rfl] at V hown ⊢
 have hL3 : 303 ≤ s.heap.objs.size := B.n
 have hLe : s.heap.objs.size ≤ s.heap.objs.size := Nat.le_refl _
 obtain ⟨m₁, hm₁, hm₂, V⟩ : ∃ m₁, m₁ "deeds" = some (.ref dl) ∧ m₁ "text" = some (.str (toS text) t) ∧ Vars h₁ (ePln s.heap.objs.size) m₁ := ⟨_, by rfl, by rfl, V⟩
 generalize A.deeper (ePln s.heap.objs.size) = A' at hA' ⊢
 obtain ⟨l, ol, vs, nl, e, _, hol, hcl, hdl, hall⟩ := hd.itemsL
 cases e
 have hl : s.heap.IsList dl vs := ⟨ol, hol, hcl, nl, hdl⟩
 have hvs : vs.size = ds.length := by
  have := hall.len
  simpa using this
 refine wpAny_execs_cons ?_
 with_reducible refine plain_init (s := { s with heap := h₁, toks := tk }) (hA'.le (by decide) (by decide)) B hk hLe V hm₁ hm₂ ?_
 intro s₇ κ₀ b₀ e₀ a₀ σ π m₇ x₇ R₇ N₇ hdl₇
 have x₇' : Sx s s₇ := Sx.trans (s' := { s with heap := h₁, toks := tk }) ⟨rfl, rfl, rfl⟩ x₇
 clear x₇ V hk hown hd
 refine wpAny_execs_cons (wpAny_For (R₇.V.rd (v := .ref dl) ?_ hdl₇))
 refine wpAny_pyIter_list (hl.at fun o ee => (R₇.old _ _ ee).2) ?_
 obtain ⟨farI, ownI⟩ := R₇.fresh (Nat.le_refl _)
 have hIF : s.heap.get? s₇.heap.objs.size = none := by
  cases e : s.heap.get? s₇.heap.objs.size with
  | none => rfl
  | some o => exact absurd (Heap.lt_size (R₇.old _ _ e).2) (Nat.lt_irrefl _)
 have hIne : dl ≠ s₇.heap.objs.size := fun e => by rw [← e, hol] at hIF; cases hIF
 have kI : ∀ c o, s₇.heap.get? c = some o → (s₇.heap.push { cls := .type "list_iterator", data := .fields #[.ref dl, .int 0 0] }).get? c = some o := fun c o e => Heap.get?_push_of_some _ e
 have hI0 : (s₇.heap.push { cls := .type "list_iterator", data := .fields #[.ref dl, .int 0 0] }).get? s₇.heap.objs.size = some { cls := .type "list_iterator", data := .fields #[.ref dl, .int 0 0] } := Heap.get?_push_size _ rfl
 generalize s₇.heap.objs.size = I at *
 generalize s.heap.objs.size = L at *
 refine for_walksP (Walks.list hA'.h I dl hIne vs) (PI w s ds text L σ π I) ⟨κ₀, b₀, e₀, a₀, _, m₇, x₇'.trans ⟨rfl, rfl, rfl⟩, R₇.grow kI, N₇, farI, ownI, fun ⟨o, ee⟩ => by rw [hIF] at ee; cases ee⟩ ⟨⟨_, hI0, rfl, rfl⟩, hl.at fun o ee => kI _ _ (R₇.old _ _ ee).2⟩
  (fun i s' h' tk' ⟨κ, b, e, a, Z, m, hx, R, hN, hf, ho, hz⟩ _ hBut => ⟨κ, b, e, a, Z, m, hx.trans .of, R.move ⟨hf, ho⟩ hz (fun c o hb ee => hBut c o (by simpa using hb) ee), hN, hf, ho, hz⟩)
  (fun i v s' E'' G hi hvi J St g1 _ _ _ => plain_step rfl hA' B hvs ok hlen hIF hl hall hi hvi J St g1) fun s' J => plain_rest hA' B hL3 hvs hlen htl J h
end
end
section
noncomputable def wds : List Path := [[40], [41], [91], [93], [58], [44], [59], [43], [45], [42], [47], [124], [38], [60], [62], [61], [46], [37], [123], [125], [61, 61], [33, 61], [60, 61], [62, 61], [126], [94], [60, 60], [62, 62], [42, 42], [43, 61], [45, 61], [42, 61], [47, 61], [37, 61], [38, 61], [124, 61], [94, 61], [60, 60, 61], [62, 62, 61], [42, 42, 61], [47, 47], [47, 47, 61], [64], [64, 61], [45, 62], [46, 46, 46], [58, 61], [33], [120], [121], [120, 120], [120, 121], [121, 120], [121, 121], [120, 120, 121], [120, 121, 120], [120, 121, 121], [121, 120, 120], [121, 120, 121], [121, 121, 120]]
noncomputable def nums : List Nat := List.range' 7 48 ++ List.range' 256 12
noncomputable def wd (i : Nat) : Path := wds.getD i []
noncomputable def nu (i : Nat) : Nat := nums.getD i 0
noncomputable abbrev Row := Nat × Nat × Nat
noncomputable def rowData (r : Row) : PyData := .tuple [.str (toS [r.1]), .int (r.2.1 : Nat), .int (r.2.2 : Nat)]
def rowOk (r : Row) : Prop := (r.1 = 80 ∨ r.1 = 76 ∨ r.1 = 70 ∨ r.1 = 84 ∨ r.1 = 71) ∧ r.2.1 < 60
noncomputable def rowWord (r : Row) : Path := if r.1 = 70 then (wd r.2.1).take (r.2.2 % 4) else if r.1 = 84 then (wd r.2.1).take (r.2.2 % 3 + 1) else wd r.2.1
noncomputable def rowMore (r : Row) : PyData := if r.1 = 71 then .str (toS (wd (r.2.2 % 60))) else .int (nu r.2.1 : Nat)
noncomputable def deedOf (r : Row) : Deed :=
 if r.1 = 80 then .P (rowWord r) (nu r.2.1) else if r.1 = 76 then .L (rowWord r) (nu r.2.1) else if r.1 = 70 then .F (rowWord r) (nu r.2.1)
 else if r.1 = 84 then .T (rowWord r).dropLast ((rowWord r).getLastD 0) (nu r.2.1) else .G (rowWord r) (wd (r.2.2 % 60))
theorem wds_len : wds.length = 60 := by decide
theorem nums_len : nums.length = 60 := by decide
theorem wd_all : (List.range 60).all (fun i => Nat.blt 0 (wd i).length && Nat.ble (wd i).length 3) = true := by decide +kernel
theorem wd_len {i : Nat} (h : i < 60) : 1 ≤ (wd i).length ∧ (wd i).length ≤ 3 := by
 have := List.all_eq_true.mp wd_all i (List.mem_range.mpr h)
 rw [Bool.and_eq_true] at this
 exact ⟨Nat.le_of_ble_eq_true this.1, Nat.le_of_ble_eq_true this.2⟩
noncomputable def aOf (n : Int) : Str := Str.ofString (toString n) ++ (if (n.fmod 2 == 0) = true then (Str.ofString " ") else (Str.ofString ""))
noncomputable def bOf (x : Path) (n : Int) : Str := (if (n.fmod 2 == 0) = true then (Str.ofString " ") else (Str.ofString "")) ++ toS x
noncomputable def pokB (x : Path) (n : Int) : Bool :=
 !(decide ((lineOf x n).length < eqS.length) || decide (Builtin.Str.strKind (lineOf x n) < Builtin.Str.strKind eqS)) &&
 !(Builtin.Str.occurrences (lineOf x n) eqS 0 (lineOf x n).length (limitOf (lineOf x n) 1)).isEmpty &&
 (Builtin.Str.partsBetween (lineOf x n) (Builtin.Str.occurrences (lineOf x n) eqS 0 (lineOf x n).length (limitOf (lineOf x n) 1)) eqS.length == [aOf n, bOf x n]) &&
 Nat.ble (lineOf x n).length 1000 && Nat.ble (aOf n).length 1000 && Nat.ble (bOf x n).length 1000 &&
 (Txt.strip (bOf x n) == toS x) && (PySem.intText? (Txt.strip (aOf n)) == some n) && Nat.ble (Txt.strip (aOf n)).length 640 && decide (0 < n) && decide (n ≤ 1000)
theorem pok_all : (List.range 60).all (fun i => pokB (wd i) (nu i : Nat)) = true := by decide +kernel
theorem pok {i : Nat} (h : i < 60) : (Deed.P (wd i) (nu i : Nat)).ok := by
 have := List.all_eq_true.mp pok_all i (List.mem_range.mpr h)
 unfold pokB at this
 simp only [Bool.and_eq_true, Bool.not_eq_true', beq_iff_eq, decide_eq_true_eq] at this
 obtain ⟨⟨⟨⟨⟨⟨⟨⟨⟨⟨p1, p2⟩, p3⟩, p4⟩, p5⟩, p6⟩, p7⟩, p8⟩, p9⟩, p10⟩, p11⟩ := this
 obtain ⟨w1, w2⟩ := wd_len h
 exact ⟨w2, by intro e; rw [e] at w1; simp at w1, p10, p11, _, _, ⟨p1, p2, p3, Nat.le_of_ble_eq_true p4, Nat.le_of_ble_eq_true p5, Nat.le_of_ble_eq_true p6⟩, p7, p8, Nat.le_of_ble_eq_true p9⟩
theorem rowWord_len {r : Row} (h : rowOk r) : (rowWord r).length ≤ 3 := by
 have := (wd_len h.2).2
 unfold rowWord
 split
 ·rw [List.length_take]; lia
 ·split
  ·rw [List.length_take]; lia
  ·exact this
theorem rowWord_T {r : Row} (h : rowOk r) (h2 : r.1 ≠ 70) : rowWord r ≠ [] := by
 have := (wd_len h.2).1
 intro e
 have e := congrArg List.length e
 unfold rowWord at e
 rw [if_neg h2] at e
 split at e
 ·rw [List.length_take] at e; simp at e; rw [e] at this; simp at this
 ·simp at e; rw [e] at this; simp at this
theorem deedOf_ok {r : Row} (h : rowOk r) : (deedOf r).ok := by
 unfold deedOf
 have hl := rowWord_len h
 split
 ·rename_i e
  have : rowWord r = wd r.2.1 := by unfold rowWord; rw [if_neg (by rw [e]; decide), if_neg (by rw [e]; decide)]
  rw [this]; exact pok h.2
 ·split
  ·exact hl
  ·split
   ·exact hl
   ·split
    ·show (rowWord r).dropLast.length ≤ 2
     rw [List.length_dropLast]; lia
    ·rename_i h1 h2 h3 h4
     exact ⟨hl, (wd_len (Nat.mod_lt _ (by decide))).2, rowWord_T h h3⟩
theorem kinds : (Str.ofString "P" = toS [80] ∧ Str.ofString "L" = toS [76]) ∧ Str.ofString "F" = toS [70] ∧ Str.ofString "T" = toS [84] ∧ Str.ofString "G" = toS [71] := by decide +kernel
theorem deedOf_data {r : Row} (h : rowOk r) : (deedOf r).data = .tuple [.str (toS [r.1]), .str (toS (rowWord r)), rowMore r] := by
 obtain ⟨⟨kP, kL⟩, kF, kT, kG⟩ := kinds
 unfold deedOf rowMore
 rcases h.1 with e | e | e | e | e <;> rw [e]
 ·rw [if_pos rfl, if_neg (by decide), ← kP]; rfl
 ·rw [if_neg (by decide), if_pos rfl, if_neg (by decide), ← kL]; rfl
 ·rw [if_neg (by decide), if_neg (by decide), if_pos rfl, if_neg (by decide), ← kF]; rfl
 ·rw [if_neg (by decide), if_neg (by decide), if_neg (by decide), if_pos rfl, if_neg (by decide), ← kT]
  have hne := rowWord_T h (by rw [e]; decide)
  have : (rowWord r).dropLast ++ [(rowWord r).getLastD 0] = rowWord r := by
   rw [List.getLastD_eq_getLast?, List.getLast?_eq_some_getLast hne, Option.getD_some]
   exact List.dropLast_concat_getLast hne
  show PyData.tuple [_, .str (toS ((rowWord r).dropLast ++ [(rowWord r).getLastD 0])), _] = _
  rw [this]
 ·rw [if_neg (by decide), if_neg (by decide), if_neg (by decide), if_neg (by decide), if_pos rfl, ← kG]; rfl
noncomputable def rows0 : List Row := [(80, 37, 0), (80, 13, 0), (70, 26, 2), (80, 22, 0), (71, 26, 22)]
noncomputable def rows1 : List Row := [(70, 0, 0), (84, 26, 1), (80, 26, 0), (71, 26, 48), (80, 51, 0), (76, 51, 0), (71, 13, 48)]
noncomputable def menu : Path := [80, 80, 76, 70, 71, 84, 80]
noncomputable def rowOf (x : Nat) : Row := (menu.getD (x % 7) 0, x % 60, x % 11 + x / 60)
noncomputable def rowsOf (xs : List Nat) : List Row := rows0 ++ xs.map rowOf ++ rows1
theorem rowOf_ok (x : Nat) : rowOk (rowOf x) := by
 refine ⟨?_, Nat.mod_lt _ (by decide)⟩
 have h : x % 7 < 7 := Nat.mod_lt _ (by decide)
 show menu.getD (x % 7) 0 = 80 ∨ menu.getD (x % 7) 0 = 76 ∨ menu.getD (x % 7) 0 = 70 ∨ menu.getD (x % 7) 0 = 84 ∨ menu.getD (x % 7) 0 = 71
 generalize x % 7 = k at h ⊢
 revert k
 decide
theorem rows_ok {xs : List Nat} : ∀ r ∈ rowsOf xs, rowOk r := by
 intro r h
 unfold rowsOf at h
 rw [List.mem_append, List.mem_append] at h
 rcases h with (h | h) | h
 ·exact (by unfold rowOk; decide : ∀ r ∈ rows0, rowOk r) r h
 ·obtain ⟨x, _, rfl⟩ := List.mem_map.mp h
  exact rowOf_ok x
 ·exact (by unfold rowOk; decide : ∀ r ∈ rows1, rowOk r) r h
noncomputable def deedsOf (xs : List Nat) : List Deed := (rowsOf xs).map deedOf
theorem deeds_ok {xs : List Nat} : ∀ d ∈ deedsOf xs, d.ok := fun d h => by
 obtain ⟨r, hr, rfl⟩ := List.mem_map.mp h
 exact deedOf_ok (rows_ok r hr)
noncomputable def textOf (xs : List Nat) : Path := [60, 60, 61, 61, 120] ++ (xs.map fun x => wd (x % 60)).flatten ++ [36, 60, 61]
theorem text_len (xs : List Nat) : (textOf xs).length ≤ 8 + 3 * xs.length := by
 unfold textOf
 rw [List.length_append, List.length_append]
 have : ((xs.map fun x => wd (x % 60)).flatten).length ≤ 3 * xs.length := by
  induction xs with
  | nil => simp
  | cons x r ih =>
   rw [List.map_cons, List.flatten_cons, List.length_append, List.length_cons]
   have := (wd_len (i := x % 60) (Nat.mod_lt _ (by decide))).2
   lia
 simp only [List.length_cons, List.length_nil]
 lia
noncomputable def toldOf (xs : List Nat) : PyData := .tuple [.list (runR St0 [] (deedsOf xs)).2, .list (drawn (runR St0 [] (deedsOf xs)).1 8 []), .list (pcsR (runR St0 [] (deedsOf xs)).1 (textOf xs).length (textOf xs)), .list (drawn (runR St0 [] (deedsOf xs)).1 8 [])]
theorem told_eq (xs : List Nat) : PyData.tuple [.list (runP St0 [] (deedsOf xs)).2, .list (drawn (runP St0 [] (deedsOf xs)).1 8 []), .list (pcsP (runP St0 [] (deedsOf xs)).1.ends (textOf xs).length (textOf xs)), .list (drawn (runP St0 [] (deedsOf xs)).1 8 [])] = toldOf xs := by
 unfold toldOf
 rw [run_eq _ _ St0_wf St0_nz deeds_ok, pcs_eq (runR_wf _ St0_wf) (runR_nz _ St0_nz deeds_ok) (ends6 (runR_wf _ St0_wf) (runR_dep _ St0_dep deeds_ok))]
end
section
def Fine (k : Nat) (d : PyData) : Prop := d.canLay0 = true ∧ d.depth ≤ k
theorem Fine.le {k k' : Nat} {d : PyData} (h : Fine k d) (hk : k ≤ k') : Fine k' d := ⟨h.1, Nat.le_trans h.2 hk⟩
theorem fine_all {k : Nat} : ∀ {ds : List PyData}, (∀ d ∈ ds, Fine k d) → PyData.canLayAll0 ds = true ∧ PyData.depthAll ds ≤ k
 | [], _ => ⟨rfl, Nat.zero_le _⟩
 | d :: ds, h => by
  obtain ⟨h1, h2⟩ := h d List.mem_cons_self
  obtain ⟨h3, h4⟩ := fine_all fun e he => h e (List.mem_cons_of_mem _ he)
  refine ⟨?_, Nat.max_le.mpr ⟨h2, h4⟩⟩
  show (PyData.canLay0 d && PyData.canLayAll0 ds) = true
  rw [h1, h3]; rfl
theorem fine_list {k : Nat} {ds : List PyData} (h : ∀ d ∈ ds, Fine k d) : Fine (k + 1) (.list ds) := let ⟨a, b⟩ := fine_all h; ⟨a, Nat.succ_le_succ b⟩
theorem fine_tuple {k : Nat} {ds : List PyData} (h : ∀ d ∈ ds, Fine k d) : Fine (k + 1) (.tuple ds) := let ⟨a, b⟩ := fine_all h; ⟨a, Nat.succ_le_succ b⟩
theorem fine_int (k : Nat) (i : Int) : Fine k (.int i) := ⟨rfl, Nat.zero_le _⟩
theorem fine_bool (k : Nat) (b : Bool) : Fine k (.bool b) := ⟨rfl, Nat.zero_le _⟩
theorem fine_none (k : Nat) : Fine k .none := ⟨rfl, Nat.zero_le _⟩
theorem fine_str (k : Nat) {p : Path} (h : ∀ c ∈ p, c < 128) : Fine k (.str (toS p)) := by
 refine ⟨?_, Nat.zero_le _⟩
 show (toS p).cps.all (· < 0x110000) = true
 rw [Array.all_eq_true_iff_forall_mem]
 intro c hc
 have := h c (by simpa [toS] using hc)
 simp; lia
mutual
theorem eqv_self : ∀ (d : PyData), d.canLay0 = true → PyData.eqv d d = true
 | .none, _ => rfl
 | .bool b, _ => by show (b == b) = true; simp
 | .int i, _ => by show (i == i) = true; simp
 | .str x, _ => by show (x == x) = true; simp
 | .list xs, h => by show PyData.eqvAll xs xs = true; exact eqvAll_self xs h
 | .tuple xs, h => by show PyData.eqvAll xs xs = true; exact eqvAll_self xs h
 | .dict _, h => by cases h
theorem eqvAll_self : ∀ (ds : List PyData), PyData.canLayAll0 ds = true → PyData.eqvAll ds ds = true
 | [], _ => rfl
 | d :: ds, h => by
  have h : (PyData.canLay0 d && PyData.canLayAll0 ds) = true := h
  rw [Bool.and_eq_true] at h
  show (PyData.eqv d d && PyData.eqvAll ds ds) = true
  rw [eqv_self d h.1, eqvAll_self ds h.2]; rfl
end
def Cod (S : St) : Prop := ∀ q, has S.below q = true → ∀ c ∈ q, c < 128
theorem Cod.gone {S : St} (C : Cod S) {x : Path} (hx : ∀ c ∈ x, c < 128) : Cod (gone S [] x).1 := fun q hq c hc => by
 rcases gone_new x S [] q hq with h | ⟨_, h, _⟩
 ·exact C q h c hc
 ·exact hx c (by simpa using h.subset hc)
theorem drawn_fine {S : St} (W : WF S) (C : Cod S) : ∀ (f : Nat) (p : Path), ∀ d ∈ drawn S f p, Fine (2 * f) d
 | 0, p => fun d h => nomatch h
 | f + 1, p => fun d h => by
  unfold drawn at h
  obtain ⟨g, hg, rfl⟩ := List.mem_map.mp h
  have hgc : ∀ c ∈ g, c < 128 := by
   cases e : look S.below p with
   | none => rw [e] at hg; cases hg
   | some bs =>
    rw [e] at hg
    rcases (W.kids p bs (look_mem e)).2 g hg with ⟨rfl, _⟩ | ⟨c, rfl, hc⟩
    ·exact fun c h => nomatch h
    ·exact fun c' h' => C _ hc c' (List.mem_append_right _ h')
  show Fine (2 * f + 1 + 1) _
  refine fine_tuple fun d hd => ?_
  rcases List.mem_cons.mp hd with rfl | hd
  ·exact fine_str _ hgc
  ·rw [List.mem_singleton] at hd
   subst hd
   split
   ·exact fine_int _ _
   ·exact fine_list (drawn_fine W C f _)
theorem drawn_list_fine {S : St} (W : WF S) (C : Cod S) (p : Path) : Fine 17 (.list (drawn S 8 p)) := fine_list (drawn_fine W C 8 p)
def Deed.cod : Deed → Prop
 | .P x _ | .L x _ | .F x _ | .T x _ _ => ∀ c ∈ x, c < 128
 | .G x y => ∀ c ∈ x ++ y, c < 128
theorem turnR_cod {S : St} (C : Cod S) {d : Deed} (hd : d.cod) : Cod (turnR S d).1 := by
 cases d with
 | P x n =>
  show Cod (if _ then _ else _)
  split
  ·exact fun q hq => C.gone hd q (has_put.mp hq)
  ·exact C.gone hd
 | L x n => exact C.gone hd
 | F x n =>
  show Cod (if _ then _ else _)
  split
  ·exact fun q hq => C.gone hd q hq
  ·exact C.gone hd
 | T x c n => exact fun q hq => C.gone hd q (has_drop.mp hq).2
 | G x y => exact C.gone fun c hc => hd c (by simpa using (wayL_len S (x ++ y) []).2.subset hc)
theorem turnR_fine {S : St} (W : WF S) (C : Cod S) {d : Deed} (hd : d.cod) : Fine 17 (turnR S d).2 := by
 cases d with
 | P x n => exact fine_none _
 | L x n => exact fine_int _ _
 | F x n => exact fine_none _
 | T x c n => exact drawn_list_fine (gone_wf x S [] W W.root) (C.gone hd) _
 | G x y =>
  refine (fine_tuple (k := 16) fun d h => ?_)
  rcases List.mem_cons.mp h with rfl | h
  ·exact fine_int _ _
  ·rw [List.mem_singleton] at h
   subst h
   exact fine_int _ _
theorem runR_cod : ∀ (ds : List Deed) {S : St} {told : List PyData}, Cod S → (∀ d ∈ ds, d.cod) → Cod (runR S told ds).1
 | [], _, _, C, _ => C
 | d :: ds, _, _, C, h => runR_cod ds (turnR_cod C (h d List.mem_cons_self)) fun e he => h e (List.mem_cons_of_mem _ he)
theorem runR_fine : ∀ (ds : List Deed) {S : St} {told : List PyData}, WF S → Cod S → (∀ d ∈ ds, d.cod) → (∀ d ∈ told, Fine 17 d) → ∀ d ∈ (runR S told ds).2, Fine 17 d
 | [], _, _, _, _, _, h => h
 | d :: ds, _, _, W, C, h, ht => runR_fine ds (turnR_wf W) (turnR_cod C (h d List.mem_cons_self)) (fun e he => h e (List.mem_cons_of_mem _ he)) fun e he => by
  rcases List.mem_append.mp he with he | he
  ·exact ht e he
  ·rw [List.mem_singleton] at he
   subst he
   exact turnR_fine W C (h d List.mem_cons_self)
theorem pcs_fine (S : St) : ∀ (f : Nat) (t : Path), ∀ d ∈ pcsR S f t, Fine 17 d
 | 0, t => fun d h => nomatch h
 | f + 1, t => fun d h => by
  unfold pcsR at h
  split at h
  ·cases h
  ·rcases List.mem_cons.mp h with rfl | h
   ·refine (fine_tuple (k := 16) fun d h => ?_)
    simp only [List.mem_cons, List.not_mem_nil, or_false] at h
    rcases h with rfl | rfl | rfl | rfl | rfl
    ·exact fine_int _ _
    ·exact fine_int _ _
    ·exact fine_bool _ _
    ·exact fine_bool _ _
    ·exact fine_bool _ _
   ·exact pcs_fine S f _ d h
theorem wd_cod_all : (wds.all fun p => p.all fun c => Nat.blt c 128) = true := by decide +kernel
theorem wd_cod (i : Nat) : ∀ c ∈ wd i, c < 128 := by
 unfold wd
 rw [List.getD_eq_getElem?_getD]
 cases e : wds[i]? with
 | none => exact fun c h => nomatch h
 | some p => exact fun c hc => Nat.le_of_ble_eq_true (List.all_eq_true.mp (List.all_eq_true.mp wd_cod_all p (List.mem_of_getElem? e)) c hc)
theorem rowWord_cod (r : Row) : ∀ c ∈ rowWord r, c < 128 := by
 intro c hc
 unfold rowWord at hc
 split at hc
 ·exact wd_cod _ c (List.mem_of_mem_take hc)
 ·split at hc
  ·exact wd_cod _ c (List.mem_of_mem_take hc)
  ·exact wd_cod _ c hc
theorem deedOf_cod (r : Row) : (deedOf r).cod := by
 unfold deedOf
 have h := rowWord_cod r
 split
 ·exact h
 ·split
  ·exact h
  ·split
   ·exact h
   ·split
    ·exact fun c hc => h c (List.dropLast_subset _ hc)
    ·exact fun c hc => (List.mem_append.mp hc).elim (h c) (wd_cod _ c)
theorem deeds_cod {xs : List Nat} : ∀ d ∈ deedsOf xs, d.cod := fun d h => by
 obtain ⟨r, _, rfl⟩ := List.mem_map.mp h
 exact deedOf_cod r
theorem St0_cod : Cod St0 := fun q hq c hc => by rw [St0_has.mp hq] at hc; cases hc
theorem told_fine (xs : List Nat) : Fine 19 (toldOf xs) := by
 have W := runR_wf (deedsOf xs) (told := []) St0_wf
 have C := runR_cod (deedsOf xs) (told := []) St0_cod deeds_cod
 refine fine_tuple fun d h => ?_
 simp only [List.mem_cons, List.not_mem_nil, or_false] at h
 rcases h with rfl | rfl | rfl | rfl
 ·exact fine_list (runR_fine _ St0_wf St0_cod deeds_cod fun d h => nomatch h)
 ·exact (drawn_list_fine W C _).le (by decide)
 ·exact fine_list (pcs_fine _ _ _)
 ·exact (drawn_list_fine W C _).le (by decide)
theorem told_shaped (xs : List Nat) : SeqAt.shaped (toldOf xs) = true := by
 obtain ⟨h1, h2⟩ := told_fine xs
 unfold SeqAt.shaped
 rw [h1, decide_eq_true (Nat.le_trans h2 (by decide : 19 ≤ 64))]; rfl
theorem told_eqv (xs : List Nat) : PyData.eqv (toldOf xs) (toldOf xs) = true := eqv_self _ (told_fine xs).1
end
section
theorem fmod_nat (a b : Nat) : (a : Int).fmod (b : Int) = ((a % b : Nat) : Int) := by
 rw [Int.fmod_eq_emod_of_nonneg _ (Int.natCast_nonneg b)]; rfl
theorem fdiv_nat (a b : Nat) : (a : Int).fdiv (b : Int) = ((a / b : Nat) : Int) := by
 rw [Int.fdiv_eq_ediv_of_nonneg _ (Int.natCast_nonneg b)]; rfl
theorem words_at {vw : List Value} {ps : List Path} (h : StrsAre vw (ps.map toS)) {i : Nat} (hi : i < ps.length) : ∃ t, vw[i]? = some (.str (toS (ps.getD i [])) t) := by
 have hl : vw.length = ps.length := by rw [StrsAre.len h, List.length_map]
 have hv : vw[i]? = some vw[i] := List.getElem?_eq_getElem (by lia)
 obtain ⟨y, tg, hy, e⟩ := strs_at h hv
 rw [List.getElem?_map, List.getElem?_eq_getElem hi] at hy
 refine ⟨tg, ?_⟩
 rw [hv, e, ← Option.some.inj hy, List.getD_eq_getElem?_getD, List.getElem?_eq_getElem hi]
 rfl
theorem NAre.at {vs : List Value} {ns : List Nat} (x : NAre vs ns) : ∀ {i : Nat}, i < ns.length → ∃ t, vs[i]? = some (.int ((ns.getD i 0 : Nat) : Int) t) := by
 induction x with
 | nil => intro i h; simp at h
 | cons n t _ ih =>
  intro i h
  cases i with
  | zero => exact ⟨t, rfl⟩
  | succ i =>
   obtain ⟨t', e⟩ := ih (i := i) (by simpa using h)
   exact ⟨t', by simpa using e⟩
theorem kind_eq (c d : Nat) : (toS [c] == toS [d]) = decide (c = d) := by
 by_cases h : c = d
 ·rw [h]; simp
 ·rw [decide_eq_false h, beq_eq_false_iff_ne]
  intro e
  exact h (List.cons.inj (toS_inj e)).1
section
variable {w : World} {A : Around} {E : Value → Shared → Prop} {s : Shared} {env : Env}
theorem ev_item {x : Str} {e : Expr} {p1 pos : Pos} {m : Str → Option Value} {l i : Nat} {vs : List Value} {v : Value} {Q : Value → Shared → Prop} (V : Vars s.heap env m) (hx : m x = some (.ref l)) (hl : s.heap.PlainList l vs.toArray) (hi : i < 1000) (hv : vs[i]? = some v)
  (h : wpAny (Md w) A (eval e env) (fun iv s₁ => Grow s s₁ ∧ ∃ t, iv = .int (i : Nat) t ∧ Q v s₁) E s) (vk : varOk env x = true) (hd : (x == ("__debug__" : Str)) = false := by decide) (hs : ∀ o i, subscripted e false o i = operate [o, i] (getItem o i) := by intro _ _; rfl) :
  wpAny (Md w) A (eval (.Subscript (.Name x p1) e pos) env) Q E s := by
 refine ev_Sub (V.rd (v := .ref l) (wpAny_mono h (fun iv s₁ h₁ => ?_) fun _ _ e => e) hx rfl vk hd) hs
 obtain ⟨g, t, rfl, hq⟩ := h₁
 have hl₁ : s₁.heap.IsList l vs.toArray := (hl.at fun o ee => g.keep _ _ ee).isList
 exact gip_ty hl₁.typeIs slot_list_getitem.lookup ⟨rfl, wpAny_getItem_list hl₁ (Int.natCast_nonneg i) (by lia) (by rw [Int.toNat_natCast]; simpa using hv) hq⟩
theorem ev_mod {x : Str} {p1 p2 p3 : Pos} {k0 : Nat} {m : Str → Option Value} {a b : Nat} {t : Tok} {Q : Value → Shared → Prop} (V : Vars s.heap env m) (hx : m x = some (.int (a : Nat) t)) (hb : b ≠ 0) (h : ∀ s' t', Grow s s' → s'.heap = s.heap → Q (.int ((a % b : Nat) : Int) t') s')
  (vk : varOk env x = true) (hd : (x == ("__debug__" : Str)) = false := by decide) : wpAny (Md w) A (eval (.BinOp (.Name x p1) .Mod (.Constant (.int (b : Nat)) k0 p2) p3) env) Q E s := by
 refine wpAny_BinOp (V.rd (v := .int (a : Nat) t) (wpAny_Constant_int (PyProof.Rows.mod_int (by lia) ?_)) hx rfl vk hd)
 rw [fmod_nat]
 exact h _ _ (.of fun _ _ e => e) rfl
theorem ev_rowWord {m : Str → Option Value} {r : Row} {wl : Nat} {vw : List Value} {ta tb tc : Tok} {Q : Value → Shared → Prop} {k1 k2 k3 k4 k5 : Nat} {p1 p2 p3 p4 p5 p6 p7 p8 p9 p10 p11 p12 p13 p14 p15 p16 p17 p18 p19 p20 p21 p22 p23 p24 p25 p26 p27 p28 p29 : Pos}
  (V : Vars s.heap env m) (vk : varOk env "kind" = true) (vi : varOk env "i" = true) (vj : varOk env "j" = true) (vw' : varOk env "words" = true) (hr : rowOk r)
  (hk : m "kind" = some (.str (toS [r.1]) ta)) (hi : m "i" = some (.int (r.2.1 : Nat) tb)) (hj : m "j" = some (.int (r.2.2 : Nat) tc)) (hw : m "words" = some (.ref wl)) (hl : s.heap.PlainList wl vw.toArray) (hws : StrsAre vw (wds.map toS))
  (h : ∀ s' t, Grow s s' → Q (.str (toS (rowWord r)) t) s') :
  wpAny (Md w) A (eval (.IfExp (.Compare (.Name "kind" p1) [.Eq] [.Constant (.str "F") k1 p2] p3)
   (.Subscript (.Subscript (.Name "words" p4) (.Name "i" p5) p6) (.Slice none (some (.BinOp (.Name "j" p7) .Mod (.Constant (.int 4) k2 p8) p9)) none p10) p11)
   (.IfExp (.Compare (.Name "kind" p12) [.Eq] [.Constant (.str "T") k3 p13] p14)
    (.Subscript (.Subscript (.Name "words" p15) (.Name "i" p16) p17) (.Slice none (some (.BinOp (.BinOp (.Name "j" p18) .Mod (.Constant (.int 3) k4 p19) p20) .Add (.Constant (.int 1) k5 p21) p22)) none p23) p24)
    (.Subscript (.Name "words" p25) (.Name "i" p26) p27) p28) p29) env) Q E s := by
 obtain ⟨_, kF, kT, kG⟩ := kinds
 obtain ⟨tw, hwi⟩ := words_at hws (i := r.2.1) (by rw [wds_len]; exact hr.2)
 have hwi : vw[r.2.1]? = some (.str (toS (wd r.2.1)) tw) := hwi
 have h60 := hr.2
 have hwl := (wd_len hr.2).2
 refine ev_IfExp (wpAny_isTrue_Compare1 (V.rd (v := .str (toS [r.1]) ta) (Constant_str (eq_str (wpAny_truthy_bool ?_))) hk rfl vk))
 rw [kF, kind_eq]
 generalize hs1 : ({ s with toks := s.toks + 1 } : Shared) = s₁
 have g₁ : Grow s s₁ := by rw [← hs1]; exact .tok _ _
 have V₁ := V.grow g₁.keep
 have hl₁ := hl.at fun o ee => g₁.keep _ _ ee
 clear hs1
 by_cases c1 : r.1 = 70
 ·have ew : rowWord r = (wd r.2.1).take (r.2.2 % 4) := if_pos c1
  rw [decide_eq_true c1, if_pos rfl]
  refine ev_sliceG (ev_item V₁ hw hl₁ (by lia) hwi (V₁.rd (v := .int (r.2.1 : Nat) tb) ⟨.refl _, tb, rfl, wpAny_pure (ev_mod (b := 4) V₁ hj (by decide) (fun s₂ t₂ g₂ _ => ⟨wd r.2.1, tw, none, some (((r.2.2 % 4 : Nat) : Int), t₂), rfl, rfl, rfl, by lia, fun s₃ t₃ g₃ => ?_⟩) vj)⟩ hi rfl vi) vw')
  simp only [Option.map_none, Option.map_some]
  rw [psl_to', ← ew]
  exact h _ _ (g₁.trans (g₂.trans g₃))
 ·rw [decide_eq_false c1, if_neg (by decide)]
  refine ev_IfExp (wpAny_isTrue_Compare1 (V₁.rd (v := .str (toS [r.1]) ta) (Constant_str (eq_str (wpAny_truthy_bool ?_))) hk rfl vk))
  rw [kT, kind_eq]
  generalize hs2 : ({ s₁ with toks := s₁.toks + 1 } : Shared) = s₂
  have g₂ : Grow s s₂ := by rw [← hs2]; exact g₁.trans (.tok _ _)
  have V₂ := V.grow g₂.keep
  have hl₂ := hl.at fun o ee => g₂.keep _ _ ee
  clear hs2
  by_cases c2 : r.1 = 84
  ·have ew : rowWord r = (wd r.2.1).take (r.2.2 % 3 + 1) := (if_neg c1).trans (if_pos c2)
   rw [decide_eq_true c2, if_pos rfl]
   refine ev_sliceG (ev_item V₂ hw hl₂ (by lia) hwi (V₂.rd (v := .int (r.2.1 : Nat) tb) ⟨.refl _, tb, rfl, wpAny_pure (wpAny_BinOp (ev_mod (b := 3) V₂ hj (by decide) (fun s₃ t₃ g₃ _ => wpAny_Constant_int (add_int ⟨wd r.2.1, tw, none, some (((r.2.2 % 3 + 1 : Nat) : Int), _), rfl, rfl, rfl, by lia, fun s₄ t₄ g₄ => ?_⟩)) vj))⟩ hi rfl vi) vw')
   simp only [Option.map_none, Option.map_some]
   rw [psl_to', ← ew]
   exact h _ _ (g₂.trans (g₃.trans (Grow.trans (by exact ⟨s₃.heap, _, rfl, fun _ _ e => e⟩) g₄)))
  ·have ew : rowWord r = wd r.2.1 := (if_neg c1).trans (if_neg c2)
   rw [decide_eq_false c2, if_neg (by decide)]
   refine ev_item V₂ hw hl₂ (by lia) hwi (V₂.rd (v := .int (r.2.1 : Nat) tb) ⟨.refl _, tb, rfl, ?_⟩ hi rfl vi) vw'
   rw [← ew]
   exact h _ _ g₂
theorem ev_rowMore {m : Str → Option Value} {r : Row} {wl nl : Nat} {vw vn : List Value} {ta tb tc : Tok} {Q : Value → Shared → Prop} {k1 k2 : Nat} {p1 p2 p3 p4 p5 p6 p7 p8 p9 p10 p11 p12 : Pos}
  (V : Vars s.heap env m) (vk : varOk env "kind" = true) (vi : varOk env "i" = true) (vj : varOk env "j" = true) (vw' : varOk env "words" = true) (vn' : varOk env "numbers" = true) (hr : rowOk r)
  (hk : m "kind" = some (.str (toS [r.1]) ta)) (hi : m "i" = some (.int (r.2.1 : Nat) tb)) (hj : m "j" = some (.int (r.2.2 : Nat) tc)) (hw : m "words" = some (.ref wl)) (hn : m "numbers" = some (.ref nl)) (hl : s.heap.PlainList wl vw.toArray) (hws : StrsAre vw (wds.map toS)) (hln : s.heap.PlainList nl vn.toArray) (hns : NAre vn nums)
  (h : ∀ s' v, Grow s s' → Is (fun b => s.heap.objs.size ≤ b) s'.heap v (rowMore r) → Q v s') :
  wpAny (Md w) A (eval (.IfExp (.Compare (.Name "kind" p1) [.Eq] [.Constant (.str "G") k1 p2] p3)
   (.Subscript (.Name "words" p4) (.BinOp (.Name "j" p5) .Mod (.Constant (.int 60) k2 p6) p7) p8)
   (.Subscript (.Name "numbers" p9) (.Name "i" p10) p11) p12) env) Q E s := by
 obtain ⟨_, kF, kT, kG⟩ := kinds
 have h60 := hr.2
 refine ev_IfExp (wpAny_isTrue_Compare1 (V.rd (v := .str (toS [r.1]) ta) (Constant_str (eq_str (wpAny_truthy_bool ?_))) hk rfl vk))
 rw [kG, kind_eq]
 generalize hs1 : ({ s with toks := s.toks + 1 } : Shared) = s₁
 have g₁ : Grow s s₁ := by rw [← hs1]; exact .tok _ _
 have V₁ := V.grow g₁.keep
 clear hs1
 by_cases c1 : r.1 = 71
 ·have ew : rowMore r = .str (toS (wd (r.2.2 % 60))) := if_pos c1
  have hm : r.2.2 % 60 < 60 := Nat.mod_lt _ (by decide)
  obtain ⟨tw, hwi⟩ := words_at hws (i := r.2.2 % 60) (by rw [wds_len]; exact hm)
  have hwi : vw[r.2.2 % 60]? = some (.str (toS (wd (r.2.2 % 60))) tw) := hwi
  rw [decide_eq_true c1, if_pos rfl]
  refine ev_item V₁ hw (hl.at fun o ee => g₁.keep _ _ ee) (by lia) hwi (ev_mod (b := 60) V₁ hj (by decide) (fun s₂ t₂ g₂ _ => ⟨g₂, t₂, rfl, ?_⟩) vj) vw'
  refine h _ _ (g₁.trans g₂) ?_
  rw [ew]; exact .str _ _
 ·have ew : rowMore r = .int (nu r.2.1 : Nat) := if_neg c1
  obtain ⟨tn, hni⟩ := hns.at (i := r.2.1) (by rw [nums_len]; exact hr.2)
  have hni : vn[r.2.1]? = some (.int (nu r.2.1 : Nat) tn) := hni
  rw [decide_eq_false c1, if_neg (by decide)]
  refine ev_item V₁ hn (hln.at fun o ee => g₁.keep _ _ ee) (by lia) hni (V₁.rd (v := .int (r.2.1 : Nat) tb) ⟨.refl _, tb, rfl, ?_⟩ hi rfl vi) vn'
  refine h _ _ g₁ ?_
  rw [ew]; exact .int _ _
end
end
section
noncomputable def eDds (L : Nat) : Env := callEnvC (fdL 73 "_law_deeds" 296) L 297
section
variable {w : World} {A : Around} {E : Value → Shared → Prop} {s : Shared}
theorem call_deeds {rl wl nl : Nat} {rows : List Row} {vw vn : List Value} {Q : Value → Shared → Prop} (hA : Ok A 860 860) (B : Bs w s.heap) (hr : Is (fun _ => True) s.heap (.ref rl) (.list (rows.map rowData))) (hw : s.heap.PlainList wl vw.toArray) (hws : StrsAre vw (wds.map toS)) (hn : s.heap.PlainList nl vn.toArray) (hns : NAre vn nums)
  (ok : ∀ r ∈ rows, rowOk r) (hlen : rows.length ≤ 1000)
  (h : ∀ D s', Grow s s' → s.heap.objs.size ≤ D → Is (fun b => s.heap.objs.size ≤ b) s'.heap (.ref D) (.list ((rows.map deedOf).map Deed.data)) → Q (.ref D) s') :
  wpAny (Md w) A (call (.ref 297) [.ref rl, .ref wl, .ref nl]) Q E s := by
 refine enter (fd := fdL 73 "_law_deeds" 296) (o := o297p6 w.params) (binds := [("rows", .ref rl), ("words", .ref wl), ("numbers", .ref nl)]) B hA (by lia) fun h₁ tk E' V hk hown => ?_
 have hA' := hA.deeper (eDds s.heap.objs.size)
 rw [show callEnvC (fdL 73 "_law_deeds" 296) s.heap.objs.size 297 = eDds s.heap.objs.size from rfl] at V hown ⊢
 obtain ⟨m₁, ⟨mr, mw, mn⟩, V⟩ : ∃ m₁, (m₁ "rows" = some (.ref rl) ∧ m₁ "words" = some (.ref wl) ∧ m₁ "numbers" = some (.ref nl)) ∧ Vars h₁ (eDds s.heap.objs.size) m₁ := ⟨_, ⟨by rfl, by rfl, by rfl⟩, V⟩
 have hLlt : s.heap.objs.size < h₁.objs.size := let ⟨_, ho⟩ := V.own (.inl rfl); Heap.lt_size ho
 generalize hs1 : ({ s with heap := h₁, toks := tk } : Shared) = s₁
 have g₁ : Grow s s₁ := by rw [← hs1]; exact .of hk
 have V₁ : Vars s₁.heap (eDds s.heap.objs.size) m₁ := by rw [← hs1]; exact V
 have hsz₁ : s.heap.objs.size ≤ s₁.heap.objs.size := by rw [← hs1]; exact Nat.le_of_lt hLlt
 clear hs1 V hk hLlt
 have B₁ := B.grow g₁.keep
 obtain ⟨l, ol, vs, nn, e, _, hol, hcl, hdl, hall⟩ := hr.itemsL
 cases e
 have hvs : vs.size = rows.length := by
  have := hall.len
  simpa using this
 refine wpAny_execs_cons (wpAny_Return_some ?_)
 refine lcompL (s₀ := s₁) (cl := [("words", s.heap.objs.size + 1), ("numbers", s.heap.objs.size + 2)]) V₁ (by
  intro p hp; simp at hp
  rcases hp with rfl | rfl
  ·exact ⟨rfl, fun e0 => absurd (show some NameKind.cell = some .local from e0) (by decide)⟩
  ·exact ⟨rfl, fun e0 => absurd (show some NameKind.cell = some .local from e0) (by decide)⟩) (V₁.rd (v := .ref rl) (comp_list (ds := ((rows.map deedOf).map Deed.data).map some) hA'.h (.refl _) (fun _ _ e => e) (Nat.le_refl _) ⟨ol, g₁.keep _ _ hol, hcl, nn, hdl⟩ (by lia) (by simp [hvs]) ?_ ?_) mr)
 ·rintro C cenv hcenv hsC it i v od s' m' E'' hv hd ⟨k, hit⟩ V' hm' k' G1 G0 g1 g0
  have hi : i < rows.length := by
   rw [← hvs]
   rcases Nat.lt_or_ge i vs.size with x | x
   ·exact x
   ·rw [Array.getElem?_eq_none x] at hv; cases hv
  obtain ⟨r, hri⟩ : ∃ r, rows[i]? = some r := ⟨_, List.getElem?_eq_getElem hi⟩
  have hrok := ok r (List.mem_of_getElem? hri)
  have hdd : od = some (.tuple [.str (toS [r.1]), .str (toS (rowWord r)), rowMore r]) := by
   rw [List.getElem?_map, List.getElem?_map, List.getElem?_map, hri] at hd
   rw [← deedOf_data hrok]
   exact (Option.some.inj hd).symm
  obtain ⟨v', hv', hIs⟩ := hall.at (i := i) (d := rowData r) (by rw [List.getElem?_map, hri]; rfl)
  have : v' = v := by
   have h1 : vs.toList[i]? = some v := by simpa using hv
   rw [hv'] at h1; exact Option.some.inj h1
  subst this
  have hIs : Is (fun _ => True) s.heap v' (.tuple [.str (toS [r.1]), .int (r.2.1 : Nat), .int (r.2.2 : Nat)]) := hIs
  obtain ⟨t3, o3, n3, va, vb, vc, rfl, hN3, ho3, hc3, hd3, hva, hvb, hvc⟩ := hIs.pair3
  obtain ⟨ta, rfl⟩ := hva.asStr
  obtain ⟨tb, rfl⟩ := hvb.asInt
  obtain ⟨tc, rfl⟩ := hvc.asInt
  have ks : ∀ c o, s.heap.get? c = some o → s'.heap.get? c = some o := fun c o ee => k' c o (g₁.keep c o ee)
  have hloc : cenv.locals = C := by rw [hcenv]; rfl
  have vok : varOk cenv "kind" = true ∧ varOk cenv "i" = true ∧ varOk cenv "j" = true ∧ varOk cenv "words" = true ∧ varOk cenv "numbers" = true := by rw [hcenv]; exact ⟨rfl, rfl, rfl, rfl, rfl⟩
  have hkl : cenv.kindOf "kind" = some .local ∧ cenv.kindOf "i" = some .local ∧ cenv.kindOf "j" = some .local := by rw [hcenv]; exact ⟨rfl, rfl, rfl⟩
  refine wpAny_letOwnedTupleGo_listiter hit ?_
  refine asg3 hA'.h (ks _ _ ho3) hc3 hd3 fun s₂ g₂ => ?_
  refine (V'.grow g₂.keep).sxl (x := "kind") (fun s₃ x₃ V₃ k₃ => V₃.sxl (x := "i") (fun s₄ x₄ V₄ k₄ => V₄.sxl (x := "j") (fun s₅ x₅ V₅ k₅ => ?_) hkl.2.2) hkl.2.1) hkl.1
  rw [hloc] at k₃ k₄ k₅
  have kn : ∀ c o, c ≠ C → s'.heap.get? c = some o → s₅.heap.get? c = some o := fun c o hc ee => k₅ c o hc (k₄ c o hc (k₃ c o hc (g₂.keep c o ee)))
  have x₅' : Sx s' s₅ := ((g₂.sx.trans x₃).trans x₄).trans x₅
  have hne : ∀ c o, s₁.heap.get? c = some o → c ≠ C := fun c o ee => Nat.ne_of_lt (Nat.lt_of_lt_of_le (Heap.lt_size ee) hsC)
  have kk : ∀ c o, s.heap.get? c = some o → s₅.heap.get? c = some o := fun c o ee => kn c o (hne c o (g₁.keep c o ee)) (ks c o ee)
  obtain ⟨m₅, ⟨hk₅, hi₅, hj₅, hw₅, hn₅⟩, V₅⟩ : ∃ m₅, (m₅ "kind" = some (.str (toS [r.1]) ta) ∧ m₅ "i" = some (.int (r.2.1 : Nat) tb) ∧ m₅ "j" = some (.int (r.2.2 : Nat) tc) ∧ m₅ "words" = some (.ref wl) ∧ m₅ "numbers" = some (.ref nl)) ∧ Vars s₅.heap cenv m₅ := by
   refine ⟨_, ?_, V₅⟩
   exact ⟨(set_ne (by decide)).trans ((set_ne (by decide)).trans set_self), (set_ne (by decide)).trans set_self, set_self,
    (set_ne (by decide)).trans ((set_ne (by decide)).trans ((set_ne (by decide)).trans ((hm' "words" rfl).trans mw))), (set_ne (by decide)).trans ((set_ne (by decide)).trans ((set_ne (by decide)).trans ((hm' "numbers" rfl).trans mn)))⟩
  clear k₃ k₄ k₅ V₃ V₄ x₃ x₄ x₅ g₂ V' hm'
  refine wpAny_tests_nil ?_
  rw [if_pos rfl]
  refine ev_Tuple (V₅.rd (v := .str (toS [r.1]) ta) ?_ hk₅ rfl vok.1)
  refine ev_rowWord V₅ vok.1 vok.2.1 vok.2.2.1 vok.2.2.2.1 hrok hk₅ hi₅ hj₅ hw₅ (hw.at fun o ee => kk _ _ ee) hws fun s₆ t₆ g₆ => ?_
  refine ev_rowMore (V₅.grow g₆.keep) vok.1 vok.2.1 vok.2.2.1 vok.2.2.2.1 vok.2.2.2.2 hrok hk₅ hi₅ hj₅ hw₅ hn₅ (hw.at fun o ee => g₆.keep _ _ (kk _ _ ee)) hws (hn.at fun o ee => g₆.keep _ _ (kk _ _ ee)) hns fun s₇ v₇ g₇ hIs₇ => ?_
  have k₇ : ∀ c o, s₅.heap.get? c = some o → s₇.heap.get? c = some o := fun c o ee => g₇.keep _ _ (g₆.keep _ _ ee)
  have up : ∀ c o, s₇.heap.get? c = some o → (s₇.heap.push (tupO [.str (toS [r.1]) ta, .str (toS (rowWord r)) t₆, v₇])).get? c = some o := fun c o ee => Heap.get?_push_of_some _ ee
  have hC₇ : C < s₇.heap.objs.size := by
   obtain ⟨o, ho⟩ := (V₅.grow k₇).own (.inl rfl)
   rw [hloc] at ho
   exact Heap.lt_size ho
  have hC₆ : C < s₆.heap.objs.size := by
   obtain ⟨o, ho⟩ := (V₅.grow g₆.keep).own (.inl rfl)
   rw [hloc] at ho
   exact Heap.lt_size ho
  refine g1 _ _ _ hdd ⟨((x₅'.trans g₆.sx).trans g₇.sx).trans ⟨rfl, rfl, rfl⟩, fun c o hc ee => up c o (k₇ c o (kn c o hc ee)), ⟨m₅, (V₅.grow k₇).grow up, fun x hx => ?_⟩⟩ ?_
  ·simp only [List.lookup] at hx
   split at hx
   ·rename_i h2
    rw [beq_iff_eq.mp h2, hw₅, mw]
   ·split at hx
    ·rename_i h2
     rw [beq_iff_eq.mp h2, hn₅, mn]
    ·cases hx
  ·refine .tuple hC₇ (Heap.get?_push_size _ rfl) rfl rfl (.cons (.str _ _) (.cons (.str _ _) (.cons ?_ .nil)))
   exact (hIs₇.keep (.grow up) fun _ h => h).within fun b o hb _ => Nat.lt_of_lt_of_le hC₆ hb
 ·rw [fmap_some]
  intro D s' ys g hD hP hI
  refine h D s' (g₁.trans g) (Nat.le_trans hsz₁ hD) (.list (n := hP.choose) (Nat.le_trans hsz₁ hD) hP.choose_spec rfl rfl ?_)
  exact hI.within fun b o hb _ => Nat.le_trans hsz₁ hb
end
end
section
noncomputable abbrev wtext : Str := "( ) [ ] : , ; + - * / | & < > = . % { } == != <= >= ~ ^ << >> ** += -= *= /= %= &= |= ^= <<= >>= **= // //= @ @= -> ... := ! x y xx xy yx yy xxy xyx xyy yxx yxy yyx"
theorem wtext_words : PySem.wordsOf wtext = wds.map toS := by decide +kernel
theorem wtext_len : wtext.length ≤ 1000 ∧ (Builtin.Str.spaceWords wtext (wtext.length + 1)).length = 60 := by decide +kernel
theorem wtext_more : (Builtin.Str.spaceWords wtext (wtext.length + 1) == [(0, wtext.length)]) = false := by decide +kernel
theorem strs_from : ∀ (tk : Nat) (ws : List Str), StrsAre (strsFrom tk ws) ws
 | _, [] => .nil
 | tk, x :: r => .cons _ _ (strs_from (tk + 1) r)
section
variable {w : World} {A : Around} {E : Value → Shared → Prop} {s : Shared} {env : Env}
theorem ev_words {k : Nat} {p1 p2 p3 : Pos} {Q : Value → Shared → Prop} (h : ∀ s' l vs, Grow s s' → s.heap.objs.size ≤ l → s'.heap.PlainList l vs.toArray → StrsAre vs (wds.map toS) → Q (.ref l) s') (hline : (p2.endLine == p3.line) = true) :
  wpAny (Md w) A (eval (.Call (.Attribute (.Constant (.str wtext) k p1) "split" p2) [] [] p3) env) Q E s := by
 refine ev_Method (Constant_str (fun pl => getMethod_builtin (typeIs_str _ _ _) PySem.F.plainAttrs_str PySem.F.slot_str_split PySem.F.type_str_split (fun a e => nomatch e) (cw_builtin ?_))) (hline := hline)
 refine call_meets PySem.F.slot_str_split (typeIs_str _ _ _) PySem.F.entry_str_split (PySem.F.args_str_split_1 _) (PySem.meets_str_split_space wtext _ (Nat.le_trans wtext_len.1 (by rw [sizeLine_eq]; decide)) (by rw [wtext_len.2, sizeLine_eq]; decide)) ?_
 rw [wtext_more, if_neg (by simp), wtext_words]
 exact h _ _ _ (.of fun c o ee => Heap.get?_push_of_some _ ee) (Nat.le_refl _) ⟨0, Heap.get?_push_size _ rfl⟩ (strs_from _ _)
theorem ev_addl {e1 e2 : Expr} {pos : Pos} {Q : Value → Shared → Prop} (h : wpAny (Md w) A (eval e1 env) (fun v1 s₁ => wpAny (Md w) A (eval e2 env) (fun v2 s₂ => ∃ (l1 l2 : Nat) (vs ws : List Value), v1 = .ref l1 ∧ v2 = .ref l2 ∧ s₂.heap.PlainList l1 vs.toArray ∧ s₂.heap.PlainList l2 ws.toArray ∧ vs.length + ws.length ≤ 100000 ∧
   ∀ s', Grow s₂ s' → s'.heap.PlainList s₂.heap.objs.size (vs ++ ws).toArray → Q (.ref s₂.heap.objs.size) s') E s₁) E s) : wpAny (Md w) A (eval (.BinOp e1 .Add e2 pos) env) Q E s := by
 refine wpAny_BinOp (wpAny_mono h (fun v1 s₁ h₁ => wpAny_mono h₁ (fun v2 s₂ h₂ => ?_) fun _ _ e => e) fun _ _ e => e)
 obtain ⟨l1, l2, vs, ws, rfl, rfl, ⟨n1, e1⟩, ⟨n2, e2⟩, hz, hq⟩ := h₂
 refine PySem.P.add_list e1 e2 ?_ (by rw [List.size_toArray, List.size_toArray, sizeLine_eq]; lia)
 exact hq _ (.of fun c o ee => Heap.get?_push_of_some _ ee) ⟨0, by rw [show (vs ++ ws).toArray = vs.toArray ++ ws.toArray from by simp]; exact Heap.get?_push_size _ rfl⟩
def RowE (e : Expr) (r : Row) : Prop := ∃ x k1 k2 k3 k p1 p2 p3 p, x = toS [r.1] ∧ e = .Tuple [.Constant (.str x) k1 p1, .Constant (.int (r.2.1 : Nat)) k2 p2, .Constant (.int (r.2.2 : Nat)) k3 p3] k p
inductive RowsE : List Expr → List Row → Prop
 | nil : RowsE [] []
 | cons {e r es rs} : RowE e r → RowsE es rs → RowsE (e :: es) (r :: rs)
theorem RowsE.plain {es : List Expr} {rs : List Row} (x : RowsE es rs) : es.all unstar = true := by
 induction x with
 | nil => rfl
 | cons h _ ih =>
  obtain ⟨_, _, _, _, _, _, _, _, _, _, rfl⟩ := h
  rw [List.all_cons, ih]; rfl
theorem RowsE.len {es : List Expr} {rs : List Row} (x : RowsE es rs) : es.length = rs.length := by
 induction x with
 | nil => rfl
 | cons _ _ ih => rw [List.length_cons, List.length_cons, ih]
theorem evs_rows {es : List Expr} {rs : List Row} (x : RowsE es rs) : ∀ {s : Shared} {Q : List Value → Shared → Prop}, (∀ s' vs, Grow s s' → s.heap.objs.size ≤ s'.heap.objs.size → IsAll (fun b => s.heap.objs.size ≤ b) s'.heap vs (rs.map rowData) → Q vs s') → evs (Md w) A E env es Q s := by
 induction x with
 | nil => exact fun h => h _ [] (.refl _) (Nat.le_refl _) .nil
 | cons hr _ ih =>
  intro s Q h
  obtain ⟨x, k1, k2, k3, k, p1, p2, p3, p, rfl, rfl⟩ := hr
  show wpAny (Md w) A (eval _ env) _ E s
  refine ev_Tuple (Constant_str (wpAny_Constant_int (wpAny_Constant_int ?_)))
  refine ih fun s' vs g hle hI => ?_
  have hsz : ∀ (hh : Heap) (o : Obj), (hh.push o).objs.size = hh.objs.size + 1 := fun hh o => Heap.size_push ..
  have hle : s.heap.objs.size + 1 ≤ s'.heap.objs.size := by
   have := hle
   rw [hsz] at this
   exact this
  refine h s' _ (Grow.trans ⟨_, _, rfl, fun c o ee => Heap.get?_push_of_some _ ee⟩ g) (Nat.le_of_succ_le hle) (.cons ?_ ?_)
  ·exact .tuple (Nat.le_refl _) (g.keep _ _ (Heap.get?_push_size _ rfl)) rfl rfl (.cons (.str _ _) (.cons (.int _ _) (.cons (.int _ _) .nil)))
  ·refine hI.within fun b o hb _ => ?_
   have hb : (s.heap.push _).objs.size ≤ b := hb
   rw [hsz] at hb
   exact Nat.le_of_succ_le hb
theorem ev_rowsL {es : List Expr} {rs : List Row} {pos : Pos} {Q : Value → Shared → Prop} (x : RowsE es rs) (hl : rs.length ≤ 100) (h : ∀ s' vs l, Grow s s' → s.heap.objs.size ≤ l → s'.heap.PlainList l vs.toArray → vs.length = rs.length → IsAll (fun b => s.heap.objs.size ≤ b) s'.heap vs (rs.map rowData) → s.heap.objs.size ≤ s'.heap.objs.size → Q (.ref l) s') :
  wpAny (Md w) A (eval (.List es pos) env) Q E s := by
 refine ev_List (evs_rows x fun s' vs g hle hI => ?_) x.plain (by rw [x.len]; exact Nat.ble_eq_true_of_le (by lia))
 have hsz : ∀ (hh : Heap) (o : Obj), (hh.push o).objs.size = hh.objs.size + 1 := fun hh o => Heap.size_push ..
 refine h _ vs _ (g.trans ⟨_, _, rfl, fun c o ee => Heap.get?_push_of_some _ ee⟩) hle ⟨0, Heap.get?_push_size _ rfl⟩ (by simpa using hI.len) (hI.keep (.grow fun c o ee => Heap.get?_push_of_some _ ee) fun _ h => h) ?_
 show _ ≤ (s'.heap.push _).objs.size
 rw [hsz]; exact Nat.le_succ_of_le hle
theorem ev_listrange {a n : Nat} {ai b : Int} {k1 k2 : Nat} {p1 p2 p3 p4 p5 p6 : Pos} {Q : Value → Shared → Prop} (hh : A.handled = none) (B : Bs w s.heap) (hai : ai = (a : Nat)) (hb : b = ((a + n : Nat) : Int)) (ha : a ≤ 1000) (hn : n ≤ 1000) (h : ∀ s' l vs, Grow s s' → s.heap.objs.size ≤ l → s'.heap.PlainList l vs.toArray → NAre vs (List.range' a n) → Q (.ref l) s')
  (hk : env.scope.kind = .function := by rfl) (hx : env.kindOf "list" = some .globalImplicit := by rfl) (hx2 : env.kindOf "range" = some .globalImplicit := by rfl) (hg : env.globals = 3 := by rfl) (hbu : env.builtins = 0 := by rfl) :
  wpAny (Md w) A (eval (.Call (.Name "list" p1) [.Call (.Name "range" p2) [.Constant (.int ai) k1 p3, .Constant (.int b) k2 p4] [] p5] [] p6) env) Q E s := by
 subst hb
 subst hai
 refine ev_Call (blt (v := .type "list") B (cw_type (ev_Call (blt (v := .type "range") B (cw_type (wpAny_Constant_int (wpAny_Constant_int (call_range_2 ?_)))) (by kernel_rfl) (by kernel_rfl) hk hx2 hg hbu))) (by kernel_rfl) (by kernel_rfl) hk hx hg hbu)
 have e1 : Builtin.Range.rangeSize (a : Nat) ((a + n : Nat) : Int) 1 = n := by
  unfold Builtin.Range.rangeSize
  simp
  lia
 have e2 : Builtin.Range.small (a : Nat) ((a + n : Nat) : Int) 1 = true := by
  unfold Builtin.Range.small Builtin.Range.rangeFitsLong
  rw [e1]
  simp
  lia
 refine call_list_range hh (Heap.get?_push_size _ rfl) e2 e1 (by lia) fun h' tk acc' c' kk hS hacc => ?_
 have hsz : ∀ (hh : Heap) (o : Obj), (hh.push o).objs.size = hh.objs.size + 1 := fun hh o => Heap.size_push ..
 refine h _ _ acc'.toList ⟨h', tk, rfl, fun c o ee => kk c o (Heap.get?_push_of_some _ ee)⟩ ?_ ⟨c', by simpa using hS⟩ ?_
 ·show s.heap.objs.size ≤ (s.heap.push _).objs.size
  rw [hsz]; exact Nat.le_succ _
 ·obtain ⟨hlen, hat⟩ := hacc
  have key : ∀ (m k : Nat) (vs : List Value), vs.length = m → (∀ i v, vs[i]? = some v → ∃ t : Tok, v = Value.int ((a : Int) + ((k + i : Nat) : Int) * 1) t) → NAre vs (List.range' (a + k) m) := by
   intro m
   induction m with
   | zero => intro k vs hl _; rw [List.length_eq_zero_iff.mp hl]; exact .nil
   | succ m ih =>
    intro k vs hl hv
    cases vs with
    | nil => simp at hl
    | cons v vs =>
     obtain ⟨t, rfl⟩ := hv 0 v rfl
     rw [List.range'_succ, show (a : Int) + ((k + 0 : Nat) : Int) * 1 = ((a + k : Nat) : Int) from by lia]
     refine .cons _ _ ?_
     rw [show a + k + 1 = a + (k + 1) from rfl]
     refine ih (k + 1) vs (by simpa using hl) fun i v hv' => ?_
     obtain ⟨t, rfl⟩ := hv (i + 1) v (by simpa using hv')
     exact ⟨t, by rw [show k + (i + 1) = k + 1 + i from by lia]⟩
  have := key n 0 acc'.toList (by simpa using hlen) fun i v hv => by
   obtain ⟨t, e⟩ := hat i v (by simpa using hv)
   exact ⟨t, by rw [e]; simp⟩
  simpa using this
end
end
section
noncomputable def eLaw (L : Nat) : Env := callEnvC (fdL 74 "law" 301) L 302
noncomputable abbrev scD : Scope := { kind := .function, names := [(".0", .local), ("x", .local)], isGenerator := false, isCoroutine := false, more := [] }
noncomputable abbrev scT : Scope := { kind := .function, names := [(".0", .local), ("word", .local), ("EXACT_TOKEN_TYPES", .globalImplicit)], isGenerator := false, isCoroutine := false, more := [] }
noncomputable abbrev scJ : Scope := { kind := .function, names := [(".0", .local), ("x", .local), ("words", .free)], isGenerator := false, isCoroutine := false, more := [] }
noncomputable def drawnNs (xs : List (Int × Tok)) : List Nat := (xs.take 16).map fun x => (x.1.fmod 277200).toNat
section
variable {w : World} {A : Around} {E : Value → Shared → Prop} {s : Shared} {env : Env}
theorem stmt_drawn {L sl : Nat} {m : Str → Option Value} {items : Array Value} {xs : List (Int × Tok)} {k1 k2 : Nat} {py p1 p2 p3 p4 p5 p6 p7 p8 pos spos : Pos} {Q : Flow → Shared → Prop} (hh : A.handled = none) (V : Vars s.heap (eLaw L) m) (hm : m "script" = some (.ref sl)) (hl : s.heap.IsList sl items) (hi : items.toList = xs.map fun p => Value.int p.1 p.2) (hlen : xs.length ≤ 63)
  (h : ∀ D s' ys, Sx s s' → (∀ b o, b ≠ L → s.heap.get? b = some o → s'.heap.get? b = some o) → Vars s'.heap (eLaw L) (set m "drawn" (.ref D)) → s.heap.objs.size ≤ D → s'.heap.PlainList D ys.toArray → NAre ys (drawnNs xs) → Q .next s')
  (hsw : swapsWith (.ListComp (.BinOp (.Name "x" p1) .Mod (.Constant (.int 277200) k1 p2) p3) [⟨.Name "x" p4, .Subscript (.Name "script" p5) (.Slice none (some (.Constant (.int 16) k2 p6)) none p7) p8, [], 0⟩] scD pos) (some (.Name "drawn" py)) spos.line (eLaw L) = pure true := by rfl) :
  wpAny (Md w) A (exec (.Assign [.Name "drawn" py] (.ListComp (.BinOp (.Name "x" p1) .Mod (.Constant (.int 277200) k1 p2) p3) [⟨.Name "x" p4, .Subscript (.Name "script" p5) (.Slice none (some (.Constant (.int 16) k2 p6)) none p7) p8, [], 0⟩] scD pos) spos) (eLaw L)) Q E s := by
 refine lcompS (y := "drawn") (s₀ := s) (cl := []) V (by intro p hp; cases hp) (wpAny_Subscript_list_slice (V.rd (v := .ref sl) (wpAny_pure (wpAny_Constant_int (k := k2) (pos := p6) ?_)) hm)) hsw rfl (by kernel_rfl)
 have hsz : items.size = xs.length := by
  have := congrArg List.length hi
  simpa using this
 have hsh : ∀ (hh : Heap) (o : Obj), (hh.push o).objs.size = hh.objs.size + 1 := fun hh o => Heap.size_push ..
 refine ⟨sl, items, none, some ((16 : Nat) : Int), rfl, hl, by rw [sizeLine_eq]; lia, .none, .int _ _, ?_⟩
 rw [slicePick_upto']
 refine comp_list (vs := (items.toList.take 16).toArray) (ds := ((drawnNs xs).map fun n => PyData.int (n : Nat)).map some) hh ⟨rfl, rfl, rfl⟩ (fun b o ee => Heap.get?_push_of_some _ (Heap.get?_push_of_some _ ee)) ?_ ⟨_, by rw [← hsh]; exact Heap.get?_push_size _ rfl, rfl, _, rfl⟩ (by simp; lia) (by simp [drawnNs, hi]) ?_ ?_
 ·show _ ≤ ((s.heap.push _).push _).objs.size
  rw [hsh, hsh]; exact Nat.le_succ_of_le (Nat.le_succ _)
 ·intro C cenv hcenv hsC it i v od s' m' E' hv hd _ V' hm' k'
  have hv' : ((xs.take 16).map fun p => Value.int p.1 p.2)[i]? = some v := by
   have : (items.toList.take 16)[i]? = some v := by simpa using hv
   rw [hi, ← List.map_take] at this
   exact this
  rw [List.getElem?_map] at hv'
  obtain ⟨p, hp, rfl⟩ := Option.map_eq_some_iff.mp hv'
  have hd' : od = some (.int (((p.1.fmod 277200).toNat : Nat) : Int)) := by
   unfold drawnNs at hd
   rw [List.map_map, List.map_map, List.getElem?_map, hp] at hd
   exact (Option.some.inj hd).symm
  have hkl : cenv.kindOf "x" = some .local := by rw [hcenv]; rfl
  have hvk : varOk cenv "x" = true := by rw [hcenv]; rfl
  refine turn_name (by rw [hcenv]; rfl) hkl (fun y hy => by cases hy) V' hm' hsC k' fun s₃ m₃ G1 G0 V₃ hx₃ hm₃ k₃ hC₃ g1 g0 => ?_
  refine wpAny_tests_nil ?_
  rw [if_pos rfl]
  refine wpAny_BinOp (V₃.rd (v := .int p.1 p.2) (wpAny_Constant_int (PyProof.Rows.mod_int (by decide) (g1 _ _ _ hd' ⟨_, _, rfl, fun _ _ e => e⟩ ?_))) hx₃ rfl hvk)
  rw [Int.toNat_of_nonneg (Int.fmod_nonneg_of_pos _ (by decide))]
  exact .int _ _
 ·rw [fmap_some]
  intro D s' ys x k V' hD hP hI
  exact h D s' ys x k V' hD hP (nare_of hI)
theorem ev_rowsC {L dl : Nat} {m : Str → Option Value} {vd : List Value} {ns : List Nat} {k1 k2 k3 k4 k5 k6 : Nat} {p1 p2 p3 p4 p5 p6 p7 p8 p9 p10 p11 p12 p13 p14 p15 p16 p17 p18 pos : Pos} {Q : Value → Shared → Prop} (hh : A.handled = none) (V : Vars s.heap (eLaw L) m) (hm : m "drawn" = some (.ref dl)) (hl : s.heap.PlainList dl vd.toArray) (hn : NAre vd ns) (hlen : ns.length ≤ 100)
  (h : ∀ D s' ys, Grow s s' → s.heap.objs.size ≤ D → s'.heap.PlainList D ys.toArray → IsAll (fun b => s.heap.objs.size ≤ b) s'.heap ys ((ns.map rowOf).map rowData) → Q (.ref D) s') :
  wpAny (Md w) A (eval (.ListComp (.Tuple [.Subscript (.Constant (.str "PPLFGTP") k1 p1) (.BinOp (.Name "x" p2) .Mod (.Constant (.int 7) k2 p3) p4) p5, .BinOp (.Name "x" p6) .Mod (.Constant (.int 60) k3 p7) p8,
   .BinOp (.BinOp (.Name "x" p9) .Mod (.Constant (.int 11) k4 p10) p11) .Add (.BinOp (.Name "x" p12) .FloorDiv (.Constant (.int 60) k5 p13) p14) p15] k6 p16) [⟨.Name "x" p17, .Name "drawn" p18, [], 0⟩] scD pos) (eLaw L)) Q E s := by
 have hvl : vd.length = ns.length := by
  have : ∀ {vs : List Value} {ns : List Nat}, NAre vs ns → vs.length = ns.length := fun y => by
   induction y with
   | nil => rfl
   | cons _ _ _ ih => rw [List.length_cons, List.length_cons, ih]
  exact this hn
 refine lcompL (s₀ := s) (cl := []) V (by intro p hp; cases hp) (V.rd (v := .ref dl) (comp_list (ds := ((ns.map rowOf).map rowData).map some) hh (.refl _) (fun _ _ e => e) (Nat.le_refl _) hl.isList (by simp; lia) (by simp [hvl]) ?_ (by rw [fmap_some]; exact fun D s' ys g hD hP hI => h D s' ys g hD hP hI)) hm) (by kernel_rfl)
 intro C cenv hcenv hsC it i v od s' m' E' hv hd hit V' hm' k'
 have hi : i < ns.length := by
  rw [← hvl]
  rcases Nat.lt_or_ge i vd.length with x | x
  ·exact x
  ·rw [Array.getElem?_eq_none (by simpa using x)] at hv; cases hv
 obtain ⟨t, ht⟩ := hn.at hi
 have hvt : v = .int ((ns.getD i 0 : Nat) : Int) t := by
  have h1 : vd[i]? = some v := by simpa using hv
  rw [ht] at h1; exact (Option.some.inj h1).symm
 subst hvt
 have hd' : od = some (rowData (rowOf (ns.getD i 0))) := by
  rw [List.getElem?_map, List.getElem?_map, List.getElem?_map, List.getElem?_eq_getElem hi] at hd
  rw [List.getD_eq_getElem?_getD, List.getElem?_eq_getElem hi]
  exact (Option.some.inj hd).symm
 generalize ns.getD i 0 = x at hd'
 have hkl : cenv.kindOf "x" = some .local := by rw [hcenv]; rfl
 have hvk : varOk cenv "x" = true := by rw [hcenv]; rfl
 have hloc : cenv.locals = C := by rw [hcenv]; rfl
 refine turn_name hloc hkl (fun y hy => by cases hy) V' hm' hsC k' fun s₃ m₃ G1 G0 V₃ hx₃ hm₃ k₃ hC₃ g1 g0 => ?_
 refine wpAny_tests_nil ?_
 rw [if_pos rfl]
 have hmenu : Str.ofString "PPLFGTP" = toS menu := by decide +kernel
 have hget : ∀ k : Nat, k < 7 → (decide (((k : Nat) : Int) < -(2 ^ 63 : Int)) || decide (((k : Nat) : Int) ≥ 2 ^ 63)) = false ∧ (seqIndex? ((k : Nat) : Int) (toS menu).length).bind ((toS menu).cps[·]?) = some (menu.getD k 0) := by
  have : ∀ k ∈ List.range 7, (decide (((k : Nat) : Int) < -(2 ^ 63 : Int)) || decide (((k : Nat) : Int) ≥ 2 ^ 63)) = false ∧ (seqIndex? ((k : Nat) : Int) (toS menu).length).bind ((toS menu).cps[·]?) = some (menu.getD k 0) := by decide +kernel
  exact fun k hk => this k (List.mem_range.mpr hk)
 refine ev_Tuple (ev_Sub (Constant_str (ev_mod (b := 7) V₃ hx₃ (by decide) (fun s₄ t₄ g₄ e₄ => gip_str ⟨rfl, ?_⟩) hvk)))
 rw [hmenu]
 refine getItem_str (hget _ (Nat.mod_lt _ (by decide))).1 (hget _ (Nat.mod_lt _ (by decide))).2 ?_
 generalize hs5 : ({ s₄ with toks := s₄.toks + 1 } : Shared) = s₅
 have g₅ : Grow s₃ s₅ := by
  rw [← hs5]
  exact Grow.trans (Grow.trans ⟨_, _, rfl, fun _ _ e => e⟩ g₄) (.tok _ _)
 clear hs5 g₄ e₄
 have V₅ := V₃.grow g₅.keep
 refine ev_mod (b := 60) V₅ hx₃ (by decide) (fun s₆ t₆ g₆ _ => ?_) hvk
 have g₆' := g₅.trans g₆
 have V₆ := V₃.grow g₆'.keep
 refine wpAny_BinOp (ev_mod (b := 11) V₆ hx₃ (by decide) (fun s₇ t₇ g₇ _ => ?_) hvk)
 have g₇' := g₆'.trans g₇
 have V₇ := V₃.grow g₇'.keep
 refine wpAny_BinOp (V₇.rd (v := .int (x : Nat) t) (wpAny_Constant_int (PyProof.Rows.floordiv_int (by decide) (add_int ?_))) hx₃ rfl hvk)
 rw [show ((x : Nat) : Int).fdiv 60 = ((x / 60 : Nat) : Int) from fdiv_nat x 60]
 refine g1 _ _ _ hd' (g₇'.trans ⟨_, _, rfl, fun c o ee => Heap.get?_push_of_some _ ee⟩) ?_
 have hC₇ : C < s₇.heap.objs.size := by
  obtain ⟨o, ho⟩ := V₇.own (.inl rfl)
  rw [hloc] at ho
  exact Heap.lt_size ho
 refine .tuple hC₇ (Heap.get?_push_size _ rfl) rfl rfl (.cons (.str _ _) (.cons (.int _ _) (.cons ?_ .nil)))
 show Is _ _ _ (.int (((x % 11 + x / 60 : Nat) : Nat) : Int))
 rw [show ((x % 11 + x / 60 : Nat) : Int) = ((x % 11 : Nat) : Int) + ((x / 60 : Nat) : Int) from by push_cast; rfl]
 exact .int _ _
end
end
section
noncomputable def P0 : Params := { strHash := fun _ => 0, shareClass := fun _ => 0, mergeTok := fun t => t, idOf := fun _ => 0, idOfShared := fun _ _ => 0, followText := fun _ => false, idOfImm := fun _ => 0 }
noncomputable def ents207 : List (Str × Tok × Value) := match (o207p5 P0).data with
 | .dict es _ => es.toList.map fun e => ((match e.key with | .str x _ => x | _ => Str.empty), (match e.key with | .str _ t => t | _ => 0), e.val)
 | _ => []
noncomputable def kvs207 : KVs := ents207.map fun e => (e.1, e.2.2)
theorem obj207 (P : Params) : ∃ ep, o207p5 P = ⟨.type "dict", none, .dict (ents207.map fun e => en P e.1 e.2.1 e.2.2).toArray ep, #[]⟩ := ⟨_, rfl⟩
theorem nodup207 : (kvs207.map (·.1)).Nodup := by decide +kernel
theorem table207 {w : World} {h : Heap} (B : Bs w h) : PD w h 207 kvs207 := by
 obtain ⟨ep, e⟩ := obj207 w.params
 have hk := B.k 207 (o207p5 w.params) (by kernel_rfl)
 rw [e] at hk
 refine ⟨_, ep, hk, fun x hx => ?_, ?_, nodup207⟩
 ·obtain ⟨y, hy, rfl⟩ := List.mem_map.mp (show x ∈ ents207.map fun e => en w.params e.1 e.2.1 e.2.2 from by simpa using hx)
  exact ⟨y.1, str_is w _ _, rfl⟩
 ·show Pairs (sk w) (ents207.map fun e => en w.params e.1 e.2.1 e.2.2) (ents207.map fun e => (e.1, e.2.2))
  generalize ents207 = es
  induction es with
  | nil => exact .nil
  | cons y r ih => exact .cons (str_is w _ _) rfl ih
theorem at207_all : (List.range 48).all (fun i => match valueAt kvs207 (toS (wd i)) with | some (.int k _) => k == ((7 + i : Nat) : Int) | _ => false) = true := by decide +kernel
theorem at207 {i : Nat} (h : i < 48) : ∃ t, valueAt kvs207 (toS (wd i)) = some (.int ((7 + i : Nat) : Int) t) := by
 have := List.all_eq_true.mp at207_all i (List.mem_range.mpr h)
 split at this
 ·rename_i k t e
  exact ⟨t, by rw [e, beq_iff_eq.mp this]⟩
 ·cases this
section
variable {w : World} {A : Around} {E : Value → Shared → Prop} {s : Shared}
theorem ev_toldC {L wl : Nat} {m : Str → Option Value} {vw : List Value} {k1 : Nat} {p1 p2 p3 p4 p5 p6 p7 p8 pos : Pos} {Q : Value → Shared → Prop} (hh : A.handled = none) (B : Bs w s.heap) (V : Vars s.heap (eLaw L) m) (hm : m "words" = some (.ref wl)) (hl : s.heap.PlainList wl vw.toArray) (hws : StrsAre vw (wds.map toS))
  (h : ∀ D s' ys, Grow s s' → s.heap.objs.size ≤ D → s'.heap.PlainList D ys.toArray → NAre ys (List.range' 7 48) → Q (.ref D) s') :
  wpAny (Md w) A (eval (.ListComp (.Subscript (.Name "EXACT_TOKEN_TYPES" p1) (.Name "word" p2) p3) [⟨.Name "word" p4, .Subscript (.Name "words" p5) (.Slice none (some (.Constant (.int 48) k1 p6)) none p7) p8, [], 0⟩] scT pos) (eLaw L)) Q E s := by
 refine lcompL (s₀ := s) (cl := []) V (by intro p hp; cases hp) (wpAny_Subscript_list_slice (V.rd (v := .ref wl) (wpAny_pure (wpAny_Constant_int (k := k1) (pos := p6) ?_)) hm)) (by kernel_rfl)
 have hvl : vw.length = 60 := by rw [StrsAre.len hws, List.length_map, wds_len]
 have hsh : ∀ (hh : Heap) (o : Obj), (hh.push o).objs.size = hh.objs.size + 1 := fun hh o => Heap.size_push ..
 refine ⟨wl, vw.toArray, none, some ((48 : Nat) : Int), rfl, hl.isList, by simp [hvl, sizeLine_eq], .none, .int _ _, ?_⟩
 rw [slicePick_upto']
 refine comp_list (vs := (vw.toArray.toList.take 48).toArray) (ds := ((List.range' 7 48).map fun n => PyData.int (n : Nat)).map some) hh ⟨rfl, rfl, rfl⟩ (fun b o ee => Heap.get?_push_of_some _ (Heap.get?_push_of_some _ ee)) ?_ ⟨_, by rw [← hsh]; exact Heap.get?_push_size _ rfl, rfl, _, rfl⟩ (by simp; lia) (by simp [hvl]) ?_ (by rw [fmap_some]; exact fun D s' ys g hD hP hI => h D s' ys g hD hP (nare_of hI))
 ·show _ ≤ ((s.heap.push _).push _).objs.size
  rw [hsh, hsh]; exact Nat.le_succ_of_le (Nat.le_succ _)
 ·intro C cenv hcenv hsC it i v od s' m' E' hv hd hit V' hm' k'
  have hi : i < 48 := by
   rcases Nat.lt_or_ge i 48 with x | x
   ·exact x
   ·rw [Array.getElem?_eq_none (by simp; lia)] at hv; cases hv
  obtain ⟨t, ht⟩ := words_at hws (i := i) (by rw [wds_len]; lia)
  have ht : vw[i]? = some (.str (toS (wd i)) t) := ht
  have hvt : v = .str (toS (wd i)) t := by
   have h1 : (vw.take 48)[i]? = some v := by simpa using hv
   rw [List.getElem?_take, if_pos hi, ht] at h1
   exact (Option.some.inj h1).symm
  subst hvt
  have hd' : od = some (.int ((7 + i : Nat) : Int)) := by
   rw [List.getElem?_map, List.getElem?_map, List.getElem?_range' hi] at hd
   have := (Option.some.inj hd).symm
   simpa using this
  have hkl : cenv.kindOf "word" = some .local ∧ cenv.kindOf "EXACT_TOKEN_TYPES" = some .globalImplicit ∧ cenv.scope.kind = .function ∧ cenv.globals = 3 := by rw [hcenv]; exact ⟨rfl, rfl, rfl, rfl⟩
  have hvk : varOk cenv "word" = true := by rw [hcenv]; rfl
  refine turn_name (by rw [hcenv]; rfl) hkl.1 (fun y hy => by cases hy) V' hm' hsC k' fun s₃ m₃ G1 G0 V₃ hx₃ hm₃ k₃ hC₃ g1 g0 => ?_
  refine wpAny_tests_nil ?_
  rw [if_pos rfl]
  have B₃ := B.grow k₃
  have D₃ := table207 B₃
  obtain ⟨tn, htn⟩ := at207 hi
  refine ev_Sub (glob (v := .ref 207) B₃ (V₃.rd (v := .str (toS (wd i)) t) (gip_ty (D₃.ty' rfl) slot_dict_getitem.lookup ⟨rfl, pd_getItem D₃ htn ?_⟩) hx₃ rfl hvk) (by kernel_rfl) hkl.2.2.1 hkl.2.1 hkl.2.2.2)
  exact g1 _ _ _ hd' (.tok _ _) (.int _ _)
theorem strvals_of {N : Nat → Prop} {h : Heap} : ∀ {vs : List Value} {ps : List Path}, IsAll N h vs (ps.map fun p => PyData.str (toS p)) → ∃ l : List (Str × Tok), vs = PySem.strValues l ∧ l.map (·.1) = ps.map toS
 | [], [], _ => ⟨[], rfl, rfl⟩
 | v :: vs, p :: ps, x => by
  cases x with
  | cons a b =>
   obtain ⟨t, rfl⟩ := a.asStr
   obtain ⟨l, h1, h2⟩ := strvals_of b
   exact ⟨(toS p, t) :: l, by rw [h1]; rfl, by rw [List.map_cons, h2]; rfl⟩
 | [], p :: ps, x => nomatch x
 | v :: vs, [], x => nomatch x
theorem glued_toS : ∀ (ps : List Path) (acc : Path), (ps.map toS).foldl (fun a p => a ++ (Str.ofString "").cps ++ p.cps) acc.toArray = (acc ++ ps.flatten).toArray
 | [], acc => by simp
 | p :: ps, acc => by
  rw [List.map_cons, List.foldl_cons]
  have e0 : (Str.ofString "").cps = #[] := by decide +kernel
  rw [show acc.toArray ++ (Str.ofString "").cps ++ (toS p).cps = (acc ++ p).toArray from by rw [e0]; simp [toS], glued_toS ps (acc ++ p)]
  simp
theorem glued_eq (ps : List Path) : Builtin.Str.glued (Str.ofString "") (ps.map toS) = toS ps.flatten := by
 cases ps with
 | nil => decide +kernel
 | cons p ps =>
  show Str.mk ((ps.map toS).foldl (fun a p => a ++ (Str.ofString "").cps ++ p.cps) (toS p).cps) = _
  rw [show (toS p).cps = p.toArray from rfl, glued_toS ps p]
  rfl
theorem join_len (ps : List Path) (h : ∀ p ∈ ps, p.length ≤ 3) : ∀ n : Nat, (ps.map toS).foldl (fun a p => a + p.length + (Str.ofString "").length) n ≤ n + 3 * ps.length := by
 induction ps with
 | nil => intro n; exact Nat.le_refl _
 | cons p ps ih =>
  intro n
  rw [List.map_cons, List.foldl_cons]
  have h0 : (Str.ofString "").length = 0 := by decide +kernel
  have h1 := h p List.mem_cons_self
  have h2 := ih (fun q hq => h q (List.mem_cons_of_mem _ hq)) (n + (toS p).length + (Str.ofString "").length)
  rw [toS_len, h0] at h2
  rw [toS_len, h0, List.length_cons]
  lia
theorem post_join {l : List (Str × Tok)} {x : Str} {Q : Value → Shared → Prop} (hx : Builtin.Str.glued (Str.ofString "") (l.map (·.1)) = x) (hl : x.length ≤ sizeLine) (h : ∀ t k, Q (.str x t) { s with toks := k }) : (PySem.joinMade (Str.ofString "") l).post Q s := by
 match l, hx with
 | [], hx => exact ⟨by rw [hx]; exact hl, by rw [hx]; exact h _ _⟩
 | [p], hx =>
  have e : p.1 = x := by rw [← hx]; rfl
  show Q (.str p.1 p.2) s
  rw [e]; exact h p.2 s.toks
 | p :: q :: r, hx => exact ⟨by rw [hx]; exact hl, by rw [hx]; exact h _ _⟩
theorem ev_join {L wl dl : Nat} {m : Str → Option Value} {vw vd : List Value} {ns : List Nat} {k1 k2 : Nat} {p1 p2 p3 p4 p5 p6 p7 p8 p9 p10 p11 : Pos} {Q : Value → Shared → Prop} (hh : A.handled = none) (B : Bs w s.heap) (V : Vars s.heap (eLaw L) m) (hm : m "words" = some (.ref wl)) (hl : s.heap.PlainList wl vw.toArray) (hws : StrsAre vw (wds.map toS)) (hmd : m "drawn" = some (.ref dl)) (hld : s.heap.PlainList dl vd.toArray) (hn : NAre vd ns) (hlen : ns.length ≤ 100)
  (h : ∀ s' t, Grow s s' → Q (.str (toS (ns.map fun x => wd (x % 60)).flatten) t) s') (hline : (p2.endLine == p3.line) = true) :
  wpAny (Md w) A (eval (.Call (.Attribute (.Constant (.str "") k1 p1) "join" p2) [.ListComp (.Subscript (.Name "words" p4) (.BinOp (.Name "x" p5) .Mod (.Constant (.int 60) k2 p6) p7) p8) [⟨.Name "x" p9, .Name "drawn" p10, [], 0⟩] scJ p11] [] p3) (eLaw L)) Q E s := by
 have hvl : vd.length = ns.length := by
  have : ∀ {vs : List Value} {ns : List Nat}, NAre vs ns → vs.length = ns.length := fun y => by
   induction y with
   | nil => rfl
   | cons _ _ _ ih => rw [List.length_cons, List.length_cons, ih]
  exact this hn
 refine ev_Method (Constant_str (fun pl => getMethod_builtin (typeIs_str _ _ _) PySem.F.plainAttrs_str PySem.F.slot_str_join PySem.F.type_str_join (fun a e => nomatch e) (cw_builtin ?_))) (hline := hline)
 generalize hs1 : ({ s with toks := s.toks + 1 } : Shared) = s₁
 have g₁ : Grow s s₁ := by rw [← hs1]; exact .tok _ _
 clear hs1
 have V₁ := V.grow g₁.keep
 show wpAny (Md w) A (eval _ _) _ E s₁
 refine lcompL (s₀ := s₁) (cl := [("words", L + 1)]) V₁ (by
  intro p hp; simp at hp; subst hp
  exact ⟨rfl, fun e0 => absurd (show some NameKind.cell = some .local from e0) (by decide)⟩) (V₁.rd (v := .ref dl) (comp_list (ds := ((ns.map fun x => wd (x % 60)).map fun p => PyData.str (toS p)).map some) hh (.refl _) (fun _ _ e => e) (Nat.le_refl _) (hld.at fun o ee => g₁.keep _ _ ee).isList (by simp; lia) (by simp [hvl]) ?_ ?_) hmd) (by kernel_rfl)
 ·intro C cenv hcenv hsC it i v od s' m' E' hv hd hit V' hm' k'
  have hi : i < ns.length := by
   rw [← hvl]
   rcases Nat.lt_or_ge i vd.length with x | x
   ·exact x
   ·rw [Array.getElem?_eq_none (by simpa using x)] at hv; cases hv
  obtain ⟨t, ht⟩ := hn.at hi
  have hvt : v = .int ((ns.getD i 0 : Nat) : Int) t := by
   have h1 : vd[i]? = some v := by simpa using hv
   rw [ht] at h1; exact (Option.some.inj h1).symm
  subst hvt
  have hd' : od = some (.str (toS (wd (ns.getD i 0 % 60)))) := by
   rw [List.getElem?_map, List.getElem?_map, List.getElem?_map, List.getElem?_eq_getElem hi] at hd
   rw [List.getD_eq_getElem?_getD, List.getElem?_eq_getElem hi]
   exact (Option.some.inj hd).symm
  generalize ns.getD i 0 = x at hd'
  have hkl : cenv.kindOf "x" = some .local := by rw [hcenv]; rfl
  have hvk : varOk cenv "x" = true ∧ varOk cenv "words" = true := by rw [hcenv]; exact ⟨rfl, rfl⟩
  refine turn_name (by rw [hcenv]; rfl) hkl (fun y hy => by
   simp only [List.lookup] at hy
   split at hy
   ·rename_i h2
    rw [beq_iff_eq.mp h2]; decide
   ·cases hy) V' hm' hsC k' fun s₃ m₃ G1 G0 V₃ hx₃ hm₃ k₃ hC₃ g1 g0 => ?_
  refine wpAny_tests_nil ?_
  rw [if_pos rfl]
  have hw₃ : m₃ "words" = some (.ref wl) := (hm₃ "words" rfl).trans hm
  have hm60 : x % 60 < 60 := Nat.mod_lt _ (by decide)
  obtain ⟨tw, hwi⟩ := words_at hws (i := x % 60) (by rw [wds_len]; exact hm60)
  have hwi : vw[x % 60]? = some (.str (toS (wd (x % 60))) tw) := hwi
  refine ev_item V₃ hw₃ (hl.at fun o ee => k₃ _ _ (g₁.keep _ _ ee)) (by lia) hwi (ev_mod (b := 60) V₃ hx₃ (by decide) (fun s₄ t₄ g₄ _ => ⟨g₄, t₄, rfl, g1 _ _ _ hd' g₄ (.str _ _)⟩) hvk.1) hvk.2
 ·rw [fmap_some]
  intro D s' ys g hD hP hI
  obtain ⟨l, rfl, hl2⟩ := strvals_of hI
  show wpAny (Md w) A (call (.builtin "str.join") [_, .ref D]) Q E s'
  have hsum := join_len (ns.map fun x => wd (x % 60)) (fun p hp => by
   obtain ⟨x, _, rfl⟩ := List.mem_map.mp hp
   exact (wd_len (Nat.mod_lt _ (by decide))).2) 0
  rw [List.length_map] at hsum
  refine call_meets PySem.F.slot_str_join (typeIs_str _ _ _) PySem.F.entry_str_join (PySem.F.args_str_join_2 _ _) (PySem.meets_str_join_list _ _ D l ?_) ⟨hP.isList, ?_⟩
  ·show decide (_ > sizeLine) = false
   rw [decide_eq_false_iff_not, List.foldl_toArray, hl2, sizeLine_eq]
   lia
  ·refine post_join (x := toS (ns.map fun x => wd (x % 60)).flatten) (by rw [hl2, glued_eq]) ?_ fun t k => h _ t (g₁.trans (g.trans ⟨_, k, rfl, fun _ _ e => e⟩))
   rw [toS_len, sizeLine_eq]
   have := text_len ns
   unfold textOf at this
   rw [List.length_append, List.length_append] at this
   lia
end
end
section
theorem NAre.app {vs ws : List Value} {ns ms : List Nat} (x : NAre vs ns) (y : NAre ws ms) : NAre (vs ++ ws) (ns ++ ms) := by
 induction x with
 | nil => exact y
 | cons n t _ ih => exact .cons n t ih
theorem NAre.len {vs : List Value} {ns : List Nat} (x : NAre vs ns) : vs.length = ns.length := by
 induction x with
 | nil => rfl
 | cons _ _ _ ih => rw [List.length_cons, List.length_cons, ih]
theorem IsAll.app {N : Nat → Prop} {h : Heap} : ∀ {vs ws : List Value} {ds es : List PyData}, IsAll N h vs ds → IsAll N h ws es → IsAll N h (vs ++ ws) (ds ++ es)
 | _, _, _, _, .nil, y => y
 | _, _, _, _, .cons a b, y => .cons a (IsAll.app b y)
theorem text_head : Str.ofString "<<==x" = toS [60, 60, 61, 61, 120] ∧ Str.ofString "$<=" = toS [36, 60, 61] := by decide +kernel
section
variable {w : World} {A : Around} {E : Value → Shared → Prop} {s : Shared}
theorem ev_rows {L : Nat} {ns : List Nat} {es0 es1 : List Expr} {ec : Expr} {pos p1 p2 p3 : Pos} {Q : Value → Shared → Prop} (x0 : RowsE es0 rows0) (x1 : RowsE es1 rows1) (hlen : ns.length ≤ 16)
  (hc : ∀ s₁, Grow s s₁ → ∀ {Q : Value → Shared → Prop}, (∀ D s' ys, Grow s₁ s' → s₁.heap.objs.size ≤ D → s'.heap.PlainList D ys.toArray → IsAll (fun b => s₁.heap.objs.size ≤ b) s'.heap ys ((ns.map rowOf).map rowData) → Q (.ref D) s') → wpAny (Md w) A (eval ec (eLaw L)) Q E s₁)
  (h : ∀ D s', Grow s s' → s.heap.objs.size ≤ D → Is (fun b => s.heap.objs.size ≤ b) s'.heap (.ref D) (.list ((rowsOf ns).map rowData)) → Q (.ref D) s') :
  wpAny (Md w) A (eval (.BinOp (.BinOp (.List es0 p1) .Add ec p2) .Add (.List es1 p3) pos) (eLaw L)) Q E s := by
 refine ev_addl (ev_addl (ev_rowsL x0 (by decide) fun s₁ vs₁ l₁ g₁ hl₁ hP₁ hn₁ hI₁ hz₁ => hc s₁ g₁ fun D s₂ ys g₂ hD hP₂ hI₂ => ?_))
 have hy : ys.length = ns.length := by have := hI₂.len; simpa using this
 have h0 : rows0.length = 5 := rfl
 have h1 : rows1.length = 7 := rfl
 refine ⟨l₁, D, vs₁, ys, rfl, rfl, hP₁.at fun o ee => g₂.keep _ _ ee, hP₂, by lia, fun s₃ g₃ hP₃ => ?_⟩
 refine ev_rowsL x1 (by decide) fun s₄ vs₄ l₄ g₄ hl₄ hP₄ hn₄ hI₄ hz₄ => ?_
 refine ⟨_, l₄, vs₁ ++ ys, vs₄, rfl, rfl, hP₃.at fun o ee => g₄.keep _ _ ee, hP₄, by rw [List.length_append]; lia, fun s₅ g₅ hP₅ => ?_⟩
 have k₂ := fun b o ee => g₅.keep b o (g₄.keep b o (g₃.keep b o ee))
 have le : ∀ {l : Nat}, s₁.heap.objs.size ≤ l → s.heap.objs.size ≤ l := fun h => Nat.le_trans hz₁ h
 have sz₃ : s.heap.objs.size ≤ s₃.heap.objs.size := by
  obtain ⟨n, e⟩ := hP₃
  obtain ⟨n2, e2⟩ := hP₂
  exact Nat.le_trans (le hD) (Nat.le_of_lt (Heap.lt_size (g₃.keep _ _ e2)))
 have sz₄ : s.heap.objs.size ≤ s₄.heap.objs.size := Nat.le_trans sz₃ hz₄
 refine h s₄.heap.objs.size s₅ (g₁.trans (g₂.trans (g₃.trans (g₄.trans g₅)))) sz₄ ?_
 obtain ⟨n5, e5⟩ := hP₅
 refine .list sz₄ e5 rfl rfl ?_
 show IsAll _ s₅.heap ((vs₁ ++ ys) ++ vs₄) _
 unfold rowsOf
 rw [List.map_append, List.map_append]
 refine IsAll.app (IsAll.app ?_ ?_) ?_
 ·exact hI₁.keep (.grow fun b o ee => k₂ b o (g₂.keep b o ee)) fun _ h => h
 ·exact (hI₂.keep (.grow k₂) fun _ h => h).within fun b o hb _ => le hb
 ·exact (hI₄.keep (.grow g₅.keep) fun _ h => h).within fun b o hb _ => Nat.le_trans sz₃ hb
end
end
section
structure LawAt (w : World) (h₀ : Heap) (L : Nat) (h : Heap) (m : Str → Option Value) : Prop where
 V : Vars h (eLaw L) m
 k : ∀ c o, h₀.get? c = some o → h.get? c = some o
 b0 : Bs w h₀
 own : ∀ c, OwnA (eLaw L) c → h₀.objs.size ≤ c
theorem LawAt.bs {w : World} {h₀ h : Heap} {L : Nat} {m : Str → Option Value} (R : LawAt w h₀ L h m) : Bs w h := R.b0.grow R.k
theorem LawAt.grow {w : World} {h₀ h h' : Heap} {L : Nat} {m : Str → Option Value} (R : LawAt w h₀ L h m) (k : ∀ c o, h.get? c = some o → h'.get? c = some o) : LawAt w h₀ L h' m := ⟨R.V.grow k, fun c o ee => k c o (R.k c o ee), R.b0, R.own⟩
theorem LawAt.noown {w : World} {h₀ h : Heap} {L : Nat} {m : Str → Option Value} (R : LawAt w h₀ L h m) {c : Nat} (hc : h.objs.size ≤ c) : ¬ OwnA (eLaw L) c := fun ho => by
 obtain ⟨o, e⟩ := R.V.own ho
 exact Nat.lt_irrefl _ (Nat.lt_of_lt_of_le (Heap.lt_size e) hc)
section
variable {w : World} {A : Around} {E : Value → Shared → Prop} {s : Shared} {L : Nat} {h₀ : Heap} {m : Str → Option Value}
theorem LawAt.put {M : Model} {hh : Heap} {x : Str} {v : Value} {Q : Unit → Shared → Prop} (R : LawAt w h₀ L hh m) (h : ∀ s', Sx s s' → LawAt w h₀ L s'.heap (set m x v) → (∀ c o, ¬ OwnA (eLaw L) c → s.heap.get? c = some o → s'.heap.get? c = some o) → Q () s')
  (hs : s.heap = hh := by rfl) (hk : varOk (eLaw L) x = true := by rfl) : wpAny M A (storeName (eLaw L) x v) Q E s := by
 subst hs
 exact R.V.sxo (fun s' x' V' k' => h s' x' ⟨V', fun c o ee => k' c o (fun ho => Nat.lt_irrefl _ (Nat.lt_of_lt_of_le (Heap.lt_size ee) (R.own c ho))) (R.k c o ee), R.b0, R.own⟩ k') hk
theorem own_law {L c : Nat} (h : OwnA (eLaw L) c) : c = L ∨ c = L + 1 := by
 rcases h with rfl | ⟨x, hx⟩
 ·exact .inl rfl
 ·have := mem_of_lookup hx
  have e : (eLaw L).cells = ([("words", L + 1)] : List (Str × Addr)) := rfl
  rw [e] at this
  simp only [List.mem_cons, List.not_mem_nil, or_false, Prod.mk.injEq] at this
  exact .inr this.2
theorem call_law {sl : Nat} {items : Array Value} {xs : List (Int × Tok)} {Q : Value → Shared → Prop} (hA : Ok A 800 760) (B : Bs w s.heap) (hT : Tab s.heap) (hl : s.heap.IsList sl items) (hi : items.toList = xs.map fun p => Value.int p.1 p.2) (hlen : xs.length ≤ 63)
  (h : ∀ s', Sx s s' → (∀ c o, s.heap.get? c = some o → c ≠ 100 → s'.heap.get? c = some o) → Tab s'.heap → Q (.bool true) s') : wpAny (Md w) A (call (.ref 302) [.ref sl]) Q E s := by
 refine enter (fd := fdL 74 "law" 301) (o := o302p6 w.params) (binds := [("script", .ref sl)]) B hA (by lia) fun h₁ tk E' V hk hown => ?_
 have hA' := hA.deeper (eLaw s.heap.objs.size)
 rw [show callEnvC (fdL 74 "law" 301) s.heap.objs.size 302 = eLaw s.heap.objs.size from rfl] at V hown ⊢
 obtain ⟨m₁, ms, V⟩ : ∃ m₁, m₁ "script" = some (.ref sl) ∧ Vars h₁ (eLaw s.heap.objs.size) m₁ := ⟨_, by rfl, V⟩
 generalize hLe : s.heap.objs.size = L at *
 generalize hh0 : s.heap = h₀ at *
 generalize hs1 : ({ s with heap := h₁, toks := tk } : Shared) = s₁
 have x₁ : Sx s s₁ := by rw [← hs1]; exact .of
 have R₁ : LawAt w h₀ L s₁.heap m₁ := by rw [← hs1]; exact ⟨V, hk, B, fun c hc => by rw [hLe]; exact hown c hc⟩
 clear hs1 V hk hown
 have nare : (drawnNs xs).length ≤ 16 := by unfold drawnNs; rw [List.length_map, List.length_take]; exact Nat.min_le_left ..
 refine wpAny_execs_cons ?_
 refine wpAny_Assign_Name ?_
 with_reducible refine ev_words ?_ ?_
 case refine_2 => rfl
 intro s₂ wl vw g₂ hw2 hw hws
 have R₂ := R₁.grow g₂.keep
 refine R₂.put (x := "words") fun s₃ x₃ R₃ k₃ => ?_
 have hw₃ : s₃.heap.PlainList wl vw.toArray := hw.at fun o ee => k₃ _ _ (R₁.noown hw2) ee
 have x₃' : Sx s s₃ := (x₁.trans g₂.sx).trans x₃
 have mw₃ : set m₁ "words" (.ref wl) "words" = some (.ref wl) := set_self
 have ms₃ : set m₁ "words" (.ref wl) "script" = some (.ref sl) := (set_ne (by decide)).trans ms
 have nw : ¬ OwnA (eLaw L) wl := R₁.noown hw2
 have w3 : 303 ≤ wl := Nat.le_trans R₁.bs.n hw2
 generalize set m₁ "words" (.ref wl) = m₃ at R₃ mw₃ ms₃
 clear x₃ k₃ g₂ hw R₂ R₁ x₁ ms hw2
 refine wpAny_execs_cons ?_
 have hl₃ : s₃.heap.IsList sl items := hl.at fun o ee => R₃.k _ _ ee
 with_reducible refine stmt_drawn hA'.h R₃.V ms₃ hl₃ hi hlen ?_ ?_
 case refine_2 => rfl
 intro dl s₄ vd x₄ k₄ V₄ hd4 hd hn
 have R₄ : LawAt w h₀ L s₄.heap (set m₃ "drawn" (.ref dl)) := ⟨V₄, fun c o ee => k₄ c o (fun e => Nat.lt_irrefl _ (Nat.lt_of_lt_of_le (Heap.lt_size ee) (R₃.own c (.inl e)))) (R₃.k c o ee), B, R₃.own⟩
 have hw₄ : s₄.heap.PlainList wl vw.toArray := hw₃.at fun o ee => k₄ _ _ (fun e => nw (.inl e)) ee
 have x₄' := x₃'.trans x₄
 have mw₄ : set m₃ "drawn" (.ref dl) "words" = some (.ref wl) := (set_ne (by decide)).trans mw₃
 have md₄ : set m₃ "drawn" (.ref dl) "drawn" = some (.ref dl) := set_self
 have nd : ¬ OwnA (eLaw L) dl := R₃.noown hd4
 have d3 : 303 ≤ dl := Nat.le_trans R₃.bs.n hd4
 generalize set m₃ "drawn" (.ref dl) = m₄ at R₄ mw₄ md₄
 clear x₄ k₄ V₄ hw₃ R₃ x₃' mw₃ ms₃ hd4 hl₃
 generalize hns : drawnNs xs = ns at hn nare
 refine wpAny_execs_cons ?_
 refine wpAny_Assign_Name ?_
 obtain ⟨⟨kP, kL⟩, kF, kT, kG⟩ := kinds
 with_reducible refine ev_rows (ns := ns) ?_ ?_ nare ?_ ?_
 ·exact .cons ⟨_, _, _, _, _, _, _, _, _, kP, rfl⟩ (.cons ⟨_, _, _, _, _, _, _, _, _, kP, rfl⟩ (.cons ⟨_, _, _, _, _, _, _, _, _, kF, rfl⟩ (.cons ⟨_, _, _, _, _, _, _, _, _, kP, rfl⟩ (.cons ⟨_, _, _, _, _, _, _, _, _, kG, rfl⟩ .nil))))
 ·exact .cons ⟨_, _, _, _, _, _, _, _, _, kF, rfl⟩ (.cons ⟨_, _, _, _, _, _, _, _, _, kT, rfl⟩ (.cons ⟨_, _, _, _, _, _, _, _, _, kP, rfl⟩ (.cons ⟨_, _, _, _, _, _, _, _, _, kG, rfl⟩ (.cons ⟨_, _, _, _, _, _, _, _, _, kP, rfl⟩ (.cons ⟨_, _, _, _, _, _, _, _, _, kL, rfl⟩ (.cons ⟨_, _, _, _, _, _, _, _, _, kG, rfl⟩ .nil))))))
 ·intro s₅ g₅ Q hq
  with_reducible exact ev_rowsC hA'.h (R₄.V.grow g₅.keep) md₄ (hd.at fun o ee => g₅.keep _ _ ee) hn (Nat.le_trans nare (by decide)) hq
 intro rl s₅ g₅ hr5 hr
 have R₅ := R₄.grow g₅.keep
 have nr : ¬ OwnA (eLaw L) rl := R₄.noown hr5
 have r3 : 303 ≤ rl := Nat.le_trans R₄.bs.n hr5
 have n4 : 303 ≤ s₄.heap.objs.size := R₄.bs.n
 refine R₅.put (x := "rows") fun s₆ x₆ R₆ k₆ => ?_
 have up₆ : ∀ c o, ¬ OwnA (eLaw L) c → s₄.heap.get? c = some o → s₆.heap.get? c = some o := fun c o hc ee => k₆ c o hc (g₅.keep c o ee)
 have hw₆ : s₆.heap.PlainList wl vw.toArray := hw₄.at fun o ee => up₆ _ _ nw ee
 have hd₆ : s₆.heap.PlainList dl vd.toArray := hd.at fun o ee => up₆ _ _ nd ee
 have hr₆ : Is (fun c => s₄.heap.objs.size ≤ c) s₆.heap (.ref rl) (.list ((rowsOf ns).map rowData)) := hr.keep (fun c o hc ee _ => k₆ c o (R₄.noown hc) ee) fun _ h => h
 have x₆' := (x₄'.trans g₅.sx).trans x₆
 have mw₆ : set m₄ "rows" (.ref rl) "words" = some (.ref wl) := (set_ne (by decide)).trans mw₄
 have md₆ : set m₄ "rows" (.ref rl) "drawn" = some (.ref dl) := (set_ne (by decide)).trans md₄
 have mr₆ : set m₄ "rows" (.ref rl) "rows" = some (.ref rl) := set_self
 generalize set m₄ "rows" (.ref rl) = m₆ at R₆ mw₆ md₆ mr₆
 clear hw₄ hd hr mw₄ md₄ R₅ k₆ x₆ x₄'
 refine wpAny_execs_cons ?_
 refine wpAny_Assign_Name ?_
 refine ev_addl ?_
 with_reducible refine ev_toldC hA'.h R₆.bs R₆.V mw₆ hw₆ hws ?_
 intro D₇ s₇ v7 g₇ hD7 hP₇ hn₇
 with_reducible refine ev_listrange (a := 256) (n := 12) hA'.h (R₆.bs.grow g₇.keep) ?_ ?_ ?_ ?_ ?_ ?_ ?_ ?_ ?_ ?_
 ·rfl
 ·rfl
 ·decide
 ·decide
 rotate_left
 ·rfl
 ·rfl
 ·rfl
 ·rfl
 ·rfl
 intro s₈ l₈ v8 g₈ hl8 hP₈ hn₈
 refine ⟨D₇, l₈, v7, v8, rfl, rfl, hP₇.at fun o ee => g₈.keep _ _ ee, hP₈, by rw [hn₇.len, hn₈.len]; simp, fun s₉ g₉ hP₉ => ?_⟩
 have hn₉ : NAre (v7 ++ v8) nums := hn₇.app hn₈
 have g₆₉ := g₇.trans (g₈.trans g₉)
 have sz₈ : s₆.heap.objs.size ≤ s₈.heap.objs.size := Nat.le_trans hD7 (Nat.le_of_lt (let ⟨_, e⟩ := hP₇; Heap.lt_size (g₈.keep _ _ e)))
 have nt : ¬ OwnA (eLaw L) s₈.heap.objs.size := R₆.noown sz₈
 have t3 : 303 ≤ s₈.heap.objs.size := Nat.le_trans R₆.bs.n sz₈
 generalize s₈.heap.objs.size = tl at hP₉ nt t3 ⊢
 refine (R₆.grow g₆₉.keep).put (x := "told") fun s₁₀ x₁₀ R₁₀ k₁₀ => ?_
 have up : ∀ c o, ¬ OwnA (eLaw L) c → s₆.heap.get? c = some o → s₁₀.heap.get? c = some o := fun c o hc ee => k₁₀ c o hc (g₆₉.keep c o ee)
 have hw : s₁₀.heap.PlainList wl vw.toArray := hw₆.at fun o ee => up _ _ nw ee
 have hd : s₁₀.heap.PlainList dl vd.toArray := hd₆.at fun o ee => up _ _ nd ee
 have ht : s₁₀.heap.PlainList tl (v7 ++ v8).toArray := hP₉.at fun o ee => k₁₀ _ _ nt ee
 have hr : Is (fun c => s₄.heap.objs.size ≤ c) s₁₀.heap (.ref rl) (.list ((rowsOf ns).map rowData)) := hr₆.keep (fun c o hc ee _ => up c o (R₄.noown hc) ee) fun _ h => h
 have x₁₀' := (x₆'.trans g₆₉.sx).trans x₁₀
 have mw : set m₆ "told" (.ref tl) "words" = some (.ref wl) := (set_ne (by decide)).trans mw₆
 have md : set m₆ "told" (.ref tl) "drawn" = some (.ref dl) := (set_ne (by decide)).trans md₆
 have mr : set m₆ "told" (.ref tl) "rows" = some (.ref rl) := (set_ne (by decide)).trans mr₆
 have mt : set m₆ "told" (.ref tl) "told" = some (.ref tl) := set_self
 generalize set m₆ "told" (.ref tl) = m₁₀ at R₁₀ mw md mr mt
 clear up k₁₀ x₁₀ hP₉ g₆₉ g₉ hP₈ hn₈ hl8 g₈ hn₇ hP₇ hD7 g₇ hw₆ hd₆ hr₆ R₆ x₆' mw₆ md₆ mr₆ sz₈
 refine wpAny_execs_cons ?_
 refine wpAny_Assign_Name ?_
 refine ev_addl ?_
 with_reducible refine ev_listrange (a := 7) (n := 48) hA'.h R₁₀.bs ?_ ?_ ?_ ?_ ?_ ?_ ?_ ?_ ?_ ?_
 ·rfl
 ·rfl
 ·decide
 ·decide
 rotate_left
 ·rfl
 ·rfl
 ·rfl
 ·rfl
 ·rfl
 intro s₁₁ l₁₁ v11 g₁₁ hl11 hP₁₁ hn₁₁
 with_reducible refine ev_listrange (a := 256) (n := 12) hA'.h (R₁₀.bs.grow g₁₁.keep) ?_ ?_ ?_ ?_ ?_ ?_ ?_ ?_ ?_ ?_
 ·rfl
 ·rfl
 ·decide
 ·decide
 rotate_left
 ·rfl
 ·rfl
 ·rfl
 ·rfl
 ·rfl
 intro s₁₂ l₁₂ v12 g₁₂ hl12 hP₁₂ hn₁₂
 refine ⟨l₁₁, l₁₂, v11, v12, rfl, rfl, hP₁₁.at fun o ee => g₁₂.keep _ _ ee, hP₁₂, by rw [hn₁₁.len, hn₁₂.len]; simp, fun s₁₃ g₁₃ hP₁₃ => ?_⟩
 have hn₁₃ : NAre (v11 ++ v12) nums := hn₁₁.app hn₁₂
 have g' := g₁₁.trans (g₁₂.trans g₁₃)
 have sz₁₂ : s₁₀.heap.objs.size ≤ s₁₂.heap.objs.size := Nat.le_trans hl11 (Nat.le_of_lt (let ⟨_, e⟩ := hP₁₁; Heap.lt_size (g₁₂.keep _ _ e)))
 have nu' : ¬ OwnA (eLaw L) s₁₂.heap.objs.size := R₁₀.noown sz₁₂
 have u3 : 303 ≤ s₁₂.heap.objs.size := Nat.le_trans R₁₀.bs.n sz₁₂
 generalize s₁₂.heap.objs.size = ul at hP₁₃ nu' u3 ⊢
 refine (R₁₀.grow g'.keep).put (x := "due") fun s₁₄ x₁₄ R₁₄ k₁₄ => ?_
 have up : ∀ c o, ¬ OwnA (eLaw L) c → s₁₀.heap.get? c = some o → s₁₄.heap.get? c = some o := fun c o hc ee => k₁₄ c o hc (g'.keep c o ee)
 have hw' : s₁₄.heap.PlainList wl vw.toArray := hw.at fun o ee => up _ _ nw ee
 have hd' : s₁₄.heap.PlainList dl vd.toArray := hd.at fun o ee => up _ _ nd ee
 have ht' : s₁₄.heap.PlainList tl (v7 ++ v8).toArray := ht.at fun o ee => up _ _ nt ee
 have hu' : s₁₄.heap.PlainList ul (v11 ++ v12).toArray := hP₁₃.at fun o ee => k₁₄ _ _ nu' ee
 have hr' : Is (fun c => s₄.heap.objs.size ≤ c) s₁₄.heap (.ref rl) (.list ((rowsOf ns).map rowData)) := hr.keep (fun c o hc ee _ => up c o (R₄.noown hc) ee) fun _ h => h
 have x₁₄' := (x₁₀'.trans g'.sx).trans x₁₄
 have mw' : set m₁₀ "due" (.ref ul) "words" = some (.ref wl) := (set_ne (by decide)).trans mw
 have md' : set m₁₀ "due" (.ref ul) "drawn" = some (.ref dl) := (set_ne (by decide)).trans md
 have mr' : set m₁₀ "due" (.ref ul) "rows" = some (.ref rl) := (set_ne (by decide)).trans mr
 have mt' : set m₁₀ "due" (.ref ul) "told" = some (.ref tl) := (set_ne (by decide)).trans mt
 have mu' : set m₁₀ "due" (.ref ul) "due" = some (.ref ul) := set_self
 generalize set m₁₀ "due" (.ref ul) = m₁₄ at R₁₄ mw' md' mr' mt' mu'
 clear up k₁₄ x₁₄ hP₁₃ g' g₁₃ hP₁₂ hn₁₂ hl12 g₁₂ hn₁₁ hP₁₁ hl11 g₁₁ hw hd ht hr R₁₀ x₁₀' mw md mr mt sz₁₂
 refine wpAny_execs_cons ?_
 refine wpAny_Assign_Name ?_
 refine wpAny_BinOp ?_
 refine wpAny_BinOp ?_
 refine Constant_str ?_
 with_reducible refine ev_join hA'.h ?_ (L := L) (m := m₁₄) ?_ mw' ?_ hws md' ?_ hn ?_ ?_ ?_
 ·exact R₁₄.bs
 ·exact R₁₄.V
 ·exact hw'
 ·exact hd'
 ·exact Nat.le_trans nare (by decide)
 rotate_left
 ·rfl
 intro s₁₅ t₁₅ g₁₅
 have tl15 := text_len ns
 have hfl : ((ns.map fun x => wd (x % 60)).flatten).length ≤ 100 := by
  unfold textOf at tl15
  rw [List.length_append, List.length_append] at tl15
  simp only [List.length_cons, List.length_nil] at tl15
  lia
 rw [text_head.1]
 refine add_str (fun t5 k5 => Constant_str ?_) (by rw [toS_len, toS_len, sizeLine_eq]; simp only [List.length_cons, List.length_nil]; lia)
 rw [toS_app, text_head.2]
 refine add_str (fun t6 k6 => ?_) (by rw [toS_len, toS_len, sizeLine_eq, List.length_append]; simp only [List.length_cons, List.length_nil]; lia)
 rw [toS_app]
 rw [show [60, 60, 61, 61, 120] ++ (ns.map fun x => wd (x % 60)).flatten ++ [36, 60, 61] = textOf ns from rfl]
 refine fgtW s₁₄ s₁₅.heap rfl (((Sx.refl s₁₄).go g₁₅.sx).trans ⟨rfl, rfl, rfl⟩) fun s₁₆ x₁₆ e₁₆ => ?_
 have k₁₆ : ∀ c o, s₁₄.heap.get? c = some o → s₁₆.heap.get? c = some o := fun c o ee => by rw [e₁₆]; exact g₁₅.keep c o ee
 clear e₁₆ g₁₅
 refine (R₁₄.grow k₁₆).put (x := "text") fun s₁₇ x₁₇ R₁₇ k₁₇ => ?_
 have up : ∀ c o, ¬ OwnA (eLaw L) c → s₁₄.heap.get? c = some o → s₁₇.heap.get? c = some o := fun c o hc ee => k₁₇ c o hc (k₁₆ c o ee)
 have hw : s₁₇.heap.PlainList wl vw.toArray := hw'.at fun o ee => up _ _ nw ee
 have ht : s₁₇.heap.PlainList tl (v7 ++ v8).toArray := ht'.at fun o ee => up _ _ nt ee
 have hu : s₁₇.heap.PlainList ul (v11 ++ v12).toArray := hu'.at fun o ee => up _ _ nu' ee
 have hr : Is (fun c => s₄.heap.objs.size ≤ c) s₁₇.heap (.ref rl) (.list ((rowsOf ns).map rowData)) := hr'.keep (fun c o hc ee _ => up c o (R₄.noown hc) ee) fun _ h => h
 have x₁₇' := (x₁₄'.trans x₁₆).trans x₁₇
 obtain ⟨m₁₇, ⟨mw, mr, mt, mu, mx⟩, R₁₇⟩ : ∃ m₁₇, (m₁₇ "words" = some (.ref wl) ∧ m₁₇ "rows" = some (.ref rl) ∧ m₁₇ "told" = some (.ref tl) ∧ m₁₇ "due" = some (.ref ul) ∧ m₁₇ "text" = some (.str (toS (textOf ns)) t6)) ∧ LawAt w h₀ L s₁₇.heap m₁₇ := by
  refine ⟨_, ?_, R₁₇⟩
  exact ⟨(set_ne (by decide)).trans mw', (set_ne (by decide)).trans mr', (set_ne (by decide)).trans mt', (set_ne (by decide)).trans mu', set_self⟩
 clear up k₁₇ x₁₇ k₁₆ x₁₆ hw' hd' ht' hu' hr' R₁₄ x₁₄' mw' md' mr' mt' mu'
 have hrl : (rowsOf ns).length ≤ 100 := by
  unfold rowsOf
  rw [List.length_append, List.length_append, List.length_map]
  have h0 : rows0.length = 5 := rfl
  have h1 : rows1.length = 7 := rfl
  lia
 have hT₁₇ : Tab s₁₇.heap := hT.need (fun b o e _ => R₁₇.k b o e) fun o e => R₁₇.k _ _ e
 refine wpAny_execs_cons ?_
 refine wpAny_Return_some ?_
 refine wpAny_Compare1 ?_
 refine ev_Call ?_
 refine glob (v := .ref 270) R₁₇.bs ?_
 refine cw_callable ?_
 show wpAny _ _ (eval _ _) _ _ _
 refine ev_Call ?_
 refine glob (v := .ref 297) R₁₇.bs ?_
 refine cw_callable ?_
 refine R₁₇.V.rd (v := .ref rl) ?_ mr
 refine R₁₇.V.rd (v := .ref wl) ?_ mw
 refine R₁₇.V.rd (v := .ref tl) ?_ mt
 refine ⟨fnCallable R₁₇.bs (o297p6 w.params) _, ?_⟩
 refine call_deeds (hA'.le (by decide) (by decide)) R₁₇.bs (hr.keep (.grow fun _ _ e => e) fun _ _ => trivial) hw hws ht hn₉ rows_ok (Nat.le_trans hrl (by decide)) fun d1 s₁₈ g₁₈ hd18 hI₁₈ => ?_
 have R₁₈ := R₁₇.grow g₁₈.keep
 refine R₁₈.V.rd (v := .str (toS (textOf ns)) t6) ?_ mx
 refine ⟨fnCallable R₁₈.bs (o270p6 w.params) _, ?_⟩
 have hT₁₈ : Tab s₁₈.heap := hT.need (fun b o e _ => R₁₈.k b o e) fun o e => R₁₈.k _ _ e
 refine call_run (ds := deedsOf ns) (hA'.le (by decide) (by decide)) R₁₈.bs hT₁₈ deeds_ok (by unfold deedsOf; rw [List.length_map]; exact hrl) (by lia) (hI₁₈.keep (.grow fun _ _ e => e) fun _ _ => trivial) fun v1 s₁₉ x₁₉ k₁₉ B₁₉ T₁₉ hI₁₉ => ?_
 have own100 : ∀ c, OwnA (eLaw L) c → c ≠ 100 := fun c hc => Nat.ne_of_gt (Nat.lt_of_lt_of_le (by decide : 100 < 303) (Nat.le_trans B.n (R₁₈.own c hc)))
 have n100 : ∀ {c : Nat}, 303 ≤ c → c ≠ 100 := fun hc => Nat.ne_of_gt (Nat.lt_of_lt_of_le (by decide : 100 < 303) hc)
 have V₁₉ : Vars s₁₉.heap (eLaw L) m₁₇ := R₁₈.V.keep fun c o hc ee => k₁₉ c o ee (own100 c hc)
 have kk : ∀ c o, 303 ≤ c → s₁₇.heap.get? c = some o → s₁₉.heap.get? c = some o := fun c o hc ee => k₁₉ c o (g₁₈.keep c o ee) (n100 hc)
 have hw₁₉ : s₁₉.heap.PlainList wl vw.toArray := hw.at fun o ee => kk _ _ w3 ee
 have hu₁₉ : s₁₉.heap.PlainList ul (v11 ++ v12).toArray := hu.at fun o ee => kk _ _ u3 ee
 have hr₁₉ : Is (fun _ => True) s₁₉.heap (.ref rl) (.list ((rowsOf ns).map rowData)) := hr.keep (fun c o hc ee _ => kk c o (Nat.le_trans n4 hc) ee) fun _ _ => trivial
 have hI₁₉ : Is (fun _ => True) s₁₉.heap v1 (toldOf ns) := hI₁₉
 refine ev_Call ?_
 refine glob (v := .ref 292) B₁₉ ?_
 refine cw_callable ?_
 show wpAny _ _ (eval _ _) _ _ _
 refine ev_Call ?_
 refine glob (v := .ref 297) B₁₉ ?_
 refine cw_callable ?_
 refine V₁₉.rd (v := .ref rl) ?_ mr
 refine V₁₉.rd (v := .ref wl) ?_ mw
 refine V₁₉.rd (v := .ref ul) ?_ mu
 refine ⟨fnCallable B₁₉ (o297p6 w.params) _, ?_⟩
 refine call_deeds (hA'.le (by decide) (by decide)) B₁₉ hr₁₉ hw₁₉ hws hu₁₉ hn₁₃ rows_ok (Nat.le_trans hrl (by decide)) fun d2 s₂₀ g₂₀ hd20 hI₂₀ => ?_
 refine (V₁₉.grow g₂₀.keep).rd (v := .str (toS (textOf ns)) t6) ?_ mx
 refine ⟨fnCallable (B₁₉.grow g₂₀.keep) (o292p6 w.params) _, ?_⟩
 refine call_plain (ds := deedsOf ns) (hA'.le (by decide) (by decide)) (B₁₉.grow g₂₀.keep) deeds_ok (by unfold deedsOf; rw [List.length_map]; exact hrl) (by lia) (hI₂₀.keep (.grow fun _ _ e => e) fun _ _ => trivial) fun v2 s₂₁ x₂₁ k₂₁ hI₂₁ => ?_
 rw [told_eq] at hI₂₁
 obtain ⟨as, ra⟩ := (hI₁₉.keep (N' := fun _ => True) (.grow fun c o ee => k₂₁ c o (g₂₀.keep c o ee)) fun _ h => h).reads
 obtain ⟨bs, rb⟩ := hI₂₁.reads
 refine eq_dataH ra rb (told_shaped ns) (told_shaped ns) (by have := hA'.u; show _ < 9900; lia) ?_
 rw [told_eqv]
 show Q (.bool true) s₂₁
 refine h s₂₁ (((x₁₇'.trans g₁₈.sx).trans x₁₉).trans (g₂₀.sx.trans x₂₁)) (fun c o ee h1 => k₂₁ c o (g₂₀.keep c o (k₁₉ c o (R₁₈.k c o ee) h1))) ?_
 exact T₁₉.need (fun b o e _ => k₂₁ b o (g₂₀.keep b o e)) fun o e => k₂₁ _ _ (g₂₀.keep _ _ e)
end
end
section
theorem K_there_all : (List.range 303).all (fun b => b == 100 || kAs.contains b) = true := by decide +kernel
theorem lookup_there : ∀ (l : Frag) (b : Addr), b ∈ l.map (·.1) → ∃ o, l.lookup b = some o
 | [], b, h => nomatch h
 | p :: r, b, h => by
  simp only [List.lookup]
  split
  ·exact ⟨_, rfl⟩
  ·rename_i q
   rw [List.map_cons] at h
   rcases List.mem_cons.mp h with e | h
   ·rw [e] at q; simp at q
   ·exact lookup_there r b h
theorem bs_of {w : World} {h : Heap} {mb : Str → Option Value} (Y : hook.says w h) (hb : h.Ns builtinsNs mb) (he : ∀ x : Str, x ≠ "__name__" → mb x = bootBuiltins x) : Bs w h where
 k := Y.1
 b := ⟨mb, hb, he⟩
 f := fun b hb => by
  have := List.all_eq_true.mp K_there_all b (List.mem_range.mpr hb)
  rw [Bool.or_eq_true] at this
  rcases this with e | e
  ·exact ⟨_, beq_iff_eq.mp e ▸ Y.2.1⟩
  ·have hm : b ∈ (K w.params).map (·.1) := by
    have e1 : (K w.params).map (·.1) = kAs := by kernel_rfl
    rw [e1]; exact List.contains_iff_mem.mp e
   obtain ⟨o, ho⟩ := lookup_there _ b hm
   exact ⟨o, Y.1 b o ho⟩
theorem ints_pairs {vs : List Value} {ns : List Int} (h : IntsAre vs ns) : ∃ xs : List (Int × Tok), vs = xs.map (fun p => Value.int p.1 p.2) ∧ xs.length = ns.length := by
 induction h with
 | nil => exact ⟨[], rfl, rfl⟩
 | cons n t _ ih =>
  obtain ⟨xs, e, l⟩ := ih
  exact ⟨(n, t) :: xs, by rw [e]; rfl, by rw [List.length_cons, List.length_cons, l]⟩
theorem old_of {w : World} {h h' : Heap} (B : Bs w h) (h0 : h.get? 100 = some (tabObj #[])) (k : ∀ c o, h.get? c = some o → c ≠ 100 → h'.get? c = some o) (T : Tab h') : OldK h h' := by
 obtain ⟨ps, hP, _⟩ := T
 refine ⟨fun b o e => ?_, fun b o e => ?_⟩
 ·by_cases hb : b = 100
  ·subst hb
   rw [h0] at e; cases e
   refine .inr (.inl ⟨⟨104, o104p1 w.params, _, B.k 104 (o104p1 w.params) (by kernel_rfl), rfl, rfl, rfl⟩, rfl, #[], ps, rfl, ?_⟩)
   rw [hP]; simp [tabObj]
  ·exact .inl (k b o e hb)
 ·by_cases hb : b = 100
  ·subst hb; exact ⟨_, hP⟩
  ·exact ⟨o, k b o e hb⟩
theorem law_walk (d : DefRec) (hdn : d.name = Str.ofString "law") : WalkO vw loose (XL vw []) hook.says row d [] fun f vs => PySem.call f vs := by
 intro w s₀ s₁ mg mb G Y a o pm cd doc dV kV ho hd hcd hD hmg hg args vals as hpre hlay hrd hwl hlo
 have B : Bs w s₁.heap := bs_of Y G.T.b G.T.builtins
 rw [hdn] at hmg
 have ha : mg (Str.ofString "law") = some (.ref 302) := mg_of Y.1 G.T.g (by kernel_rfl)
 rw [hmg] at ha
 cases ha
 wrow_args hpre hlay hrd hwl hlo
 rename_i ns _ _ _ _ _ _ _ l vs _ hL _ _ _ hI _ c1 _
 obtain ⟨xs, hxs, hlen⟩ := ints_pairs hI
 have hA : Ok callerA 800 760 := ⟨rfl, by show 1 + 300 ≤ 800; decide, by show 4 ≤ 760; decide⟩
 refine call_law hA B ⟨#[], Y.2.1, .inl rfl⟩ hL (by rw [List.toList_toArray]; exact hxs) (by omega) fun s' x k T => ?_
 refine ⟨.inl ⟨.bool true, .bool true, [], rfl, fun _ => rfl, .bool true, ?_, fun _ => ⟨List.nodup_nil, fun _ h => nomatch h⟩⟩, old_of B Y.2.1 k T, x.o, .of_eq (x.g.trans hg)⟩
 exact postW_of (by rfl) (by wtm_val) (by rfl)
theorem holds : PySem.Challenge.rw_in0017_01.Holds := holds_of law_walk
end
end Mine
end
theorem PySem.Challenge.cw_in0017_01_holds : PySem.Challenge.rw_in0017_01.Holds :=
 Mine.holds
