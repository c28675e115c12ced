import PyProof.Rows.All
import Wide.All
import Open.Line
import Open.Boot
import Open.Tree
import Open.FastT9
import Open.TopsExt
import Open.TreeImp
import Open.Dig
import OpenK.KTop
import OpenK.KCell
import Wide.FinOn
import OpenK.XOpen
import PyProof.ExcBaseAll.ValueError
import PySem.Challenge.RW_ik0150_01
set_option Elab.async false
set_option maxRecDepth 100000
set_option linter.unusedVariables false
set_option bootstrap.genMatcherCode false
set_option compiler.extract_closed false
set_option genSizeOf false
open PySem PySem.W PyProof.Rows PySem.Calls
set_option tactic.hygienic false
set_option genInjectivity false
namespace Mine
section
noncomputable def nthS:Nat→List Stmt→Stmt
 | _,[]=>.Pass ⟨0,0,0,0⟩
 | 0,s::_=>s
 | n+1,_::r=>nthS n r
noncomputable def topS (n:Nat):Stmt:=nthS n PySem.Challenge.pw_ik0150_01.main.body
set_option backward.match.sparseCases false in
noncomputable def zaf:Stmt→List Stmt
 | .FunctionDef _ _ b _ _ _ _ _ _ _=>b
 | .ClassDef _ _ _ b _ _ _ _ _ _ _=>b
 | _=> []
set_option backward.match.sparseCases false in
noncomputable def zoY:Stmt→Arguments
 | .FunctionDef _ a _ _ _ _ _ _ _ _=>a
 | _=>default
set_option backward.match.sparseCases false in
noncomputable def zan:Stmt→Scope
 | .FunctionDef _ _ _ _ _ _ s _ _ _=>s
 | _=>default
noncomputable def inS (s:Stmt)(n:Nat):Stmt:=nthS n (zaf s)
noncomputable abbrev q (s:String):Str:=Str.ofString s
noncomputable def dE (P:Params)(k:Str)(t:Tok)(v:Value):DictEntry:=⟨PyData.keyHash P k,.str k t,v⟩
noncomputable def fnD (st:Stmt)(name qual md:Str)(mt:Tok)(code:Addr)(dflt:Value):FuncData:=
 {name,qualname:=qual,params:=zoY st,body:=.stmts (zaf st),scope:=zan st,globals:=3,closure:= [],defaults:=dflt,kwdefaults:=.none,pyModule:=.str md mt,code:=.ref code}
noncomputable def fnO (st:Stmt)(name qual md:Str)(mt:Tok)(code:Addr)(dflt:Value):Obj:=⟨.type "function",none,.func (fnD st name qual md mt code dflt),#[]⟩
noncomputable def KW (P:Params):Frag:= [
 (0,⟨(.type "dict"),none,(.dict #[dE P (q "__name__") 1 (.str (q "builtins") 160),dE P (q "__doc__") 2 (.builtin "builtins.__doc__:str#opaque"),dE P (q "__package__") 3 (.builtin "builtins.__package__:str#opaque"),dE P (q "__loader__") 4 (.builtin "builtins.__loader__:shared#opaque"),dE P (q "__spec__") 5 (.builtin "builtins.__spec__#opaque"),dE P (q "__build_class__") 6 (.builtin "__build_class__"),dE P (q "__import__") 7 (.builtin "__import__"),dE P (q "abs") 8 (.builtin "abs"),dE P (q "all") 9 (.builtin "all"),dE P (q "any") 10 (.builtin "any"),dE P (q "ascii") 11 (.builtin "ascii"),dE P (q "bin") 12 (.builtin "bin"),dE P (q "breakpoint") 13 (.builtin "breakpoint"),dE P (q "callable") 14 (.builtin "callable"),dE P (q "chr") 15 (.builtin "chr"),dE P (q "compile") 16 (.builtin "compile"),dE P (q "delattr") 17 (.builtin "delattr"),dE P (q "dir") 18 (.builtin "dir"),dE P (q "divmod") 19 (.builtin "divmod"),dE P (q "eval") 20 (.builtin "eval"),dE P (q "exec") 21 (.builtin "exec"),dE P (q "format") 22 (.builtin "format"),dE P (q "getattr") 23 (.builtin "getattr"),dE P (q "globals") 24 (.builtin "globals"),dE P (q "hasattr") 25 (.builtin "hasattr"),dE P (q "hash") 26 (.builtin "hash"),dE P (q "hex") 27 (.builtin "hex"),dE P (q "id") 28 (.builtin "id"),dE P (q "input") 29 (.builtin "input"),dE P (q "isinstance") 30 (.builtin "isinstance"),dE P (q "issubclass") 31 (.builtin "issubclass"),dE P (q "iter") 32 (.builtin "iter"),dE P (q "aiter") 33 (.builtin "aiter"),dE P (q "len") 34 (.builtin "len"),dE P (q "locals") 35 (.builtin "locals"),dE P (q "max") 36 (.builtin "max"),dE P (q "min") 37 (.builtin "min"),dE P (q "next") 38 (.builtin "next"),dE P (q "anext") 39 (.builtin "anext"),dE P (q "oct") 40 (.builtin "oct"),dE P (q "ord") 41 (.builtin "ord"),dE P (q "pow") 42 (.builtin "pow"),dE P (q "print") 43 (.builtin "print"),dE P (q "repr") 44 (.builtin "repr"),dE P (q "round") 45 (.builtin "round"),dE P (q "setattr") 46 (.builtin "setattr"),dE P (q "sorted") 47 (.builtin "sorted"),dE P (q "sum") 48 (.builtin "sum"),dE P (q "vars") 49 (.builtin "vars"),dE P (q "None") 50 .none,dE P (q "Ellipsis") 51 .ellipsis,dE P (q "NotImplemented") 52 .notImplemented,dE P (q "False") 53 (.bool false),dE P (q "True") 54 (.bool true),dE P (q "bool") 55 (.type "bool"),dE P (q "memoryview") 56 (.type "memoryview"),dE P (q "bytearray") 57 (.type "bytearray"),dE P (q "bytes") 58 (.type "bytes"),dE P (q "classmethod") 59 (.type "classmethod"),dE P (q "complex") 60 (.type "complex"),dE P (q "dict") 61 (.type "dict"),dE P (q "enumerate") 62 (.type "enumerate"),dE P (q "filter") 63 (.type "filter"),dE P (q "float") 64 (.type "float"),dE P (q "frozenset") 65 (.type "frozenset"),dE P (q "property") 66 (.type "property"),dE P (q "int") 67 (.type "int"),dE P (q "list") 68 (.type "list"),dE P (q "map") 69 (.type "map"),dE P (q "object") 70 (.type "object"),dE P (q "range") 71 (.type "range"),dE P (q "reversed") 72 (.type "reversed"),dE P (q "set") 73 (.type "set"),dE P (q "slice") 74 (.type "slice"),dE P (q "staticmethod") 75 (.type "staticmethod"),dE P (q "str") 76 (.type "str"),dE P (q "super") 77 (.type "super"),dE P (q "tuple") 78 (.type "tuple"),dE P (q "type") 79 (.type "type"),dE P (q "zip") 80 (.type "zip"),dE P (q "__debug__") 81 (.bool true),dE P (q "BaseException") 82 (.type "BaseException"),dE P (q "BaseExceptionGroup") 83 (.type "BaseExceptionGroup"),dE P (q "Exception") 84 (.type "Exception"),dE P (q "GeneratorExit") 85 (.type "GeneratorExit"),dE P (q "KeyboardInterrupt") 86 (.type "KeyboardInterrupt"),dE P (q "SystemExit") 87 (.type "SystemExit"),dE P (q "ArithmeticError") 88 (.type "ArithmeticError"),dE P (q "AssertionError") 89 (.type "AssertionError"),dE P (q "AttributeError") 90 (.type "AttributeError"),dE P (q "BufferError") 91 (.type "BufferError"),dE P (q "EOFError") 92 (.type "EOFError"),dE P (q "ImportError") 93 (.type "ImportError"),dE P (q "LookupError") 94 (.type "LookupError"),dE P (q "MemoryError") 95 (.type "MemoryError"),dE P (q "NameError") 96 (.type "NameError"),dE P (q "OSError") 97 (.type "OSError"),dE P (q "ReferenceError") 98 (.type "ReferenceError"),dE P (q "RuntimeError") 99 (.type "RuntimeError"),dE P (q "StopAsyncIteration") 100 (.type "StopAsyncIteration"),dE P (q "StopIteration") 101 (.type "StopIteration"),dE P (q "SyntaxError") 102 (.type "SyntaxError"),dE P (q "SystemError") 103 (.type "SystemError"),dE P (q "TypeError") 104 (.type "TypeError"),dE P (q "ValueError") 105 (.type "ValueError"),dE P (q "Warning") 106 (.type "Warning"),dE P (q "FloatingPointError") 107 (.type "FloatingPointError"),dE P (q "OverflowError") 108 (.type "OverflowError"),dE P (q "ZeroDivisionError") 109 (.type "ZeroDivisionError"),dE P (q "BytesWarning") 110 (.type "BytesWarning"),dE P (q "DeprecationWarning") 111 (.type "DeprecationWarning"),dE P (q "EncodingWarning") 112 (.type "EncodingWarning"),dE P (q "FutureWarning") 113 (.type "FutureWarning"),dE P (q "ImportWarning") 114 (.type "ImportWarning"),dE P (q "PendingDeprecationWarning") 115 (.type "PendingDeprecationWarning"),dE P (q "ResourceWarning") 116 (.type "ResourceWarning"),dE P (q "RuntimeWarning") 117 (.type "RuntimeWarning"),dE P (q "SyntaxWarning") 118 (.type "SyntaxWarning"),dE P (q "UnicodeWarning") 119 (.type "UnicodeWarning"),dE P (q "UserWarning") 120 (.type "UserWarning"),dE P (q "BlockingIOError") 121 (.type "BlockingIOError"),dE P (q "ChildProcessError") 122 (.type "ChildProcessError"),dE P (q "ConnectionError") 123 (.type "ConnectionError"),dE P (q "FileExistsError") 124 (.type "FileExistsError"),dE P (q "FileNotFoundError") 125 (.type "FileNotFoundError"),dE P (q "InterruptedError") 126 (.type "InterruptedError"),dE P (q "IsADirectoryError") 127 (.type "IsADirectoryError"),dE P (q "NotADirectoryError") 128 (.type "NotADirectoryError"),dE P (q "PermissionError") 129 (.type "PermissionError"),dE P (q "ProcessLookupError") 130 (.type "ProcessLookupError"),dE P (q "TimeoutError") 131 (.type "TimeoutError"),dE P (q "IndentationError") 132 (.type "IndentationError"),dE P (q "_IncompleteInputError") 133 (.type "_IncompleteInputError"),dE P (q "IndexError") 134 (.type "IndexError"),dE P (q "KeyError") 135 (.type "KeyError"),dE P (q "ModuleNotFoundError") 136 (.type "ModuleNotFoundError"),dE P (q "NotImplementedError") 137 (.type "NotImplementedError"),dE P (q "PythonFinalizationError") 138 (.type "PythonFinalizationError"),dE P (q "RecursionError") 139 (.type "RecursionError"),dE P (q "UnboundLocalError") 140 (.type "UnboundLocalError"),dE P (q "UnicodeError") 141 (.type "UnicodeError"),dE P (q "BrokenPipeError") 142 (.type "BrokenPipeError"),dE P (q "ConnectionAbortedError") 143 (.type "ConnectionAbortedError"),dE P (q "ConnectionRefusedError") 144 (.type "ConnectionRefusedError"),dE P (q "ConnectionResetError") 145 (.type "ConnectionResetError"),dE P (q "TabError") 146 (.type "TabError"),dE P (q "UnicodeDecodeError") 147 (.type "UnicodeDecodeError"),dE P (q "UnicodeEncodeError") 148 (.type "UnicodeEncodeError"),dE P (q "UnicodeTranslateError") 149 (.type "UnicodeTranslateError"),dE P (q "ExceptionGroup") 150 (.type "ExceptionGroup"),dE P (q "EnvironmentError") 151 (.type "OSError"),dE P (q "IOError") 152 (.type "OSError"),dE P (q "open") 153 (.builtin "open"),dE P (q "quit") 154 (.builtin "builtins.quit#opaque"),dE P (q "exit") 155 (.builtin "builtins.exit#opaque"),dE P (q "copyright") 156 (.builtin "builtins.copyright#opaque"),dE P (q "credits") 157 (.builtin "builtins.credits#opaque"),dE P (q "license") 158 (.builtin "builtins.license#opaque"),dE P (q "help") 159 (.builtin "builtins.help#opaque")] 159),#[]⟩),
 (1,⟨(.type "dict"),none,(.dict #[dE P (q "builtins") 162 (.ref 4),dE P (q "__main__") 163 (.ref 5),dE P (q "_sre") 244 (.ref 12)] 3),#[]⟩),
 (2,⟨.none,none,(.dict #[dE P (q "\x69mport.loaded._sre") 183 (.bool true),dE P (q "class._frozen_importlib.BuiltinImporter") 185 (.ref 14),dE P (q "watched.\x69mport") 206 (.ref 18),dE P (q "class._frozen_importlib.ModuleSpec") 216 (.ref 22),dE P (q "sys.modules.booked-epoch") 245 (.int (3) 0),dE P (q "\x69mport.later-laid._sre") 270 (.bool true),dE P (q "watched.library") 272 (.ref 27),dE P (q "watched.library-objects") 0 (.str (q "\x0c") 0),dE P (q "watched.library-deep._sre") 273 (.str (q "\x04\x00\x00\x0b\x04\x00\x00\x0b\x04\x00\x00\x03\x04\x00\x00\x0b\x08\x04dict\x02") 0)] 9),#[]⟩),
 (3,⟨(.type "dict"),none,(.dict #[dE P (q "__name__") 165 (.str (q "law_ik0150_01") 696),dE P (q "__doc__") 166 .none,dE P (q "__package__") 167 .none,dE P (q "__loader__") 168 (.builtin "__main__.__loader__#opaque"),dE P (q "__spec__") 169 .none,dE P (q "__annotations__") 170 (.ref 6),dE P (q "__builtins__") 171 (.ref 4),dE P (q "__file__") 173 (.str (q "/claim/cut.py") 172),dE P (q "__cached__") 174 .none,dE P (q "_sre") 275 (.ref 12),dE P (q "_wall") 288 (.ref 38),dE P (q "_twin_re_1") 306 (.ref 43),dE P (q "_twin_re_2") 348 (.ref 48),dE P (q "CRLF") 350 (.str (q "\x0d\n") 349),dE P (q "quotedata") 357 (.ref 55),dE P (q "_NODE_OUT") 362 (.int (-1) 361),dE P (q "_NODE_DONE") 365 (.int (-2) 364),dE P (q "_NodeInfo") 402 (.ref 74),dE P (q "CycleError") 420 (.ref 89),dE P (q "TopologicalSorter") 539 (.ref 171),dE P (q "_plain_name") 550 (.ref 182),dE P (q "ABCMeta") 576 (.ref 199),dE P (q "_ABCLike") 619 (.ref 232),dE P (q "_abc_plain_meta") 626 (.ref 241),dE P (q "fspath") 638 (.ref 248),dE P (q "_check_arg_types") 651 (.ref 255),dE P (q "_get_sep") 660 (.ref 262),dE P (q "join") 671 (.ref 269),dE P (q "splitroot") 680 (.ref 276),dE P (q "normpath") 695 (.ref 283),dE P (q "_law_words") 705 (.ref 290),dE P (q "_law_laid") 714 (.ref 297),dE P (q "_law_rounds") 720 (.ref 302),dE P (q "_law_one_by_one") 726 (.ref 307),dE P (q "_law_prepared") 733 (.ref 314),dE P (q "_law_told") 743 (.ref 321),dE P (q "_law_dealt") 753 (.ref 328),dE P (q "_law_left") 761 (.ref 335),dE P (q "law") 767 (.ref 340)] 39),#[]⟩),
 (4,⟨(.type "module"),some 0,.plain,#[]⟩),
 (42,⟨(.type "tuple"),none,(.seq #[(.int (14) 0),(.int (4) 0),(.int (0) 0),(.int (1) 0),(.int (1) 0),(.int (6) 0),(.int (1) 0),(.int (16) 0),(.int (46) 0),(.int (1) 0)] 0),#[]⟩),
 (43,⟨(.type "re.Pattern"),none,(.fields #[(.str (q "(?m)^\\.") 292),(.int (40) 305),(.int (0) 0),.none,.none,(.ref 42),(.int (0) 0)]),#[]⟩),
 (47,⟨(.type "tuple"),none,(.seq #[(.int (14) 0),(.int (9) 0),(.int (4) 0),(.int (1) 0),(.int (2) 0),(.int (16) 0),(.int (10) 0),(.int (16) 0),(.int (13) 0),(.int (0) 0),(.int (7) 0),(.int (7) 0),(.int (16) 0),(.int (13) 0),(.int (16) 0),(.int (10) 0),(.int (15) 0),(.int (18) 0),(.int (5) 0),(.int (16) 0),(.int (10) 0),(.int (15) 0),(.int (13) 0),(.int (11) 0),(.int (16) 0),(.int (13) 0),(.int (5) 0),(.int (5) 0),(.int (0) 0),(.int (16) 0),(.int (10) 0),(.int (1) 0),(.int (15) 0),(.int (2) 0),(.int (0) 0),(.int (1) 0)] 0),#[]⟩),
 (48,⟨(.type "re.Pattern"),none,(.fields #[(.str (q "(?:\\r\\n|\\n|\\r(?!\\n))") 308),(.int (32) 347),(.int (0) 0),.none,.none,(.ref 47),(.int (0) 0)]),#[]⟩),
 (54,⟨.type "code",none,.fields #[(.str (q "quotedata") 351),(.str (q "quotedata") 352),(.str (q "/claim/cut.py") 353),(.int (9) 0),(.int (1) 0),(.int (0) 0),(.int (0) 0),(.int (3) 0),(.ref 49),(.bool true),(.int (276) 0),(.ref 50),.none,(.ref 51),(.ref 52),(.ref 53),(.int (355) 0),(.int (9) 0),(.str (q "/claim/cut.py") 356)],#[]⟩),
 (55,fnO (topS 6) (q "quotedata") (q "quotedata") (q "cpy313.smtplib") 289 54 .none),
 (69,⟨.type "code",none,.fields #[(.str (q "__init__") 382),(.str (q "_NodeInfo.__init__") 383),(.str (q "/claim/cut.py") 384),(.int (17) 0),(.int (2) 0),(.int (0) 0),(.int (0) 0),(.int (3) 0),(.ref 64),(.bool true),(.int (276) 0),(.ref 65),.none,(.ref 66),(.ref 67),(.ref 68),(.int (387) 0),(.int (17) 0),(.str (q "/claim/cut.py") 388)],#[]⟩),
 (70,fnO (inS (topS 10) 1) (q "__init__") (q "_NodeInfo.__init__") (q "cpy313.graphlib") 358 69 .none),
 (73,⟨(.type "dict"),none,(.dict #[dE P (q "__module__") 373 (.str (q "cpy313.graphlib") 358),dE P (q "__firstlineno__") 377 (.int (14) 376),dE P (q "__slots__") 381 (.ref 63),dE P (q "__init__") 389 (.ref 70),dE P (q "__static_attributes__") 393 (.ref 71),dE P (q "node") 395 (.ref 75),dE P (q "npredecessors") 397 (.ref 76),dE P (q "successors") 399 (.ref 77),dE P (q "__doc__") 400 .none] 5),#[]⟩),
 (74,⟨(.type "type"),none,(.cls ⟨(q "_NodeInfo"),[(.type "object")],[(.ref 74),(.type "object")],73,(q "_NodeInfo"),false,[(q "node"),(q "npredecessors"),(q "successors")],[],false,none,false⟩),#[none,none,some (.str (q "_NodeInfo") 366),some (.str (q "_NodeInfo") 374),some (.builtin "object.__new__"),some (.bool false)]⟩),
 (75,⟨(.type "member_descriptor"),none,(.fields #[(.str (q "node") 394),(.ref 74),(.builtin "proto.slot"),(.builtin "proto.slot#set"),(.int (2) 0)]),#[]⟩),
 (76,⟨(.type "member_descriptor"),none,(.fields #[(.str (q "npredecessors") 396),(.ref 74),(.builtin "proto.slot"),(.builtin "proto.slot#set"),(.int (1) 0)]),#[]⟩),
 (77,⟨(.type "member_descriptor"),none,(.fields #[(.str (q "successors") 398),(.ref 74),(.builtin "proto.slot"),(.builtin "proto.slot#set"),(.int (0) 0)]),#[]⟩),
 (88,⟨(.type "dict"),none,(.dict #[dE P (q "__module__") 410 (.str (q "cpy313.graphlib") 358),dE P (q "__firstlineno__") 414 (.int (21) 413),dE P (q "__static_attributes__") 415 (.ref 87),dE P (q "__weakref__") 417 (.ref 90),dE P (q "__doc__") 418 .none] 3),#[]⟩),
 (89,⟨(.type "type"),none,(.cls ⟨(q "CycleError"),[(.type "ValueError")],[(.ref 89),(.type "ValueError"),(.type "Exception"),(.type "BaseException"),(.type "object")],88,(q "CycleError"),true,[],[],false,none,false⟩),#[some (.ref 80),none,some (.str (q "CycleError") 403),some (.str (q "CycleError") 411),some (.builtin "ValueError.__new__"),some (.bool true)]⟩),
 (90,⟨(.type "getset_descriptor"),none,(.fields #[(.str (q "__weakref__") 416),(.ref 89),(.builtin "ExceptionGroup.__weakref__"),.none]),#[]⟩),
 (100,⟨(.type "tuple"),none,(.seq #[.none] 0),#[]⟩),
 (106,⟨.type "code",none,.fields #[(.str (q "__init__") 433),(.str (q "TopologicalSorter.__init__") 434),(.str (q "/claim/cut.py") 435),(.int (25) 0),(.int (2) 0),(.int (0) 0),(.int (0) 0),(.int (3) 0),(.ref 101),(.bool true),(.int (276) 0),(.ref 102),.none,(.ref 103),(.ref 104),(.ref 105),(.int (440) 0),(.int (25) 0),(.str (q "/claim/cut.py") 441)],#[]⟩),
 (107,fnO (inS (topS 12) 0) (q "__init__") (q "TopologicalSorter.__init__") (q "cpy313.graphlib") 358 106 (.ref 100)),
 (113,⟨.type "code",none,.fields #[(.str (q "_get_nodeinfo") 443),(.str (q "TopologicalSorter._get_nodeinfo") 444),(.str (q "/claim/cut.py") 445),(.int (34) 0),(.int (2) 0),(.int (0) 0),(.int (0) 0),(.int (3) 0),(.ref 108),(.bool true),(.int (276) 0),(.ref 109),.none,(.ref 110),(.ref 111),(.ref 112),(.int (449) 0),(.int (34) 0),(.str (q "/claim/cut.py") 450)],#[]⟩),
 (114,fnO (inS (topS 12) 1) (q "_get_nodeinfo") (q "TopologicalSorter._get_nodeinfo") (q "cpy313.graphlib") 358 113 .none),
 (120,⟨.type "code",none,.fields #[(.str (q "add") 452),(.str (q "TopologicalSorter.add") 453),(.str (q "/claim/cut.py") 454),(.int (39) 0),(.int (2) 0),(.int (0) 0),(.int (0) 0),(.int (7) 0),(.ref 115),(.bool true),(.int (276) 0),(.ref 116),.none,(.ref 117),(.ref 118),(.ref 119),(.int (461) 0),(.int (39) 0),(.str (q "/claim/cut.py") 462)],#[]⟩),
 (121,fnO (inS (topS 12) 2) (q "add") (q "TopologicalSorter.add") (q "cpy313.graphlib") 358 120 .none),
 (125,⟨.type "code",none,.fields #[(.str (q "prepare") 464),(.str (q "TopologicalSorter.prepare") 465),(.str (q "/claim/cut.py") 466),(.int (48) 0),(.int (1) 0),(.int (0) 0),(.int (0) 0),(.int (3) 0),(.ref 122),(.bool true),(.int (276) 0),(.ref 123),.none,.none,.none,(.ref 124),(.int (467) 0),(.int (48) 0),(.str (q "/claim/cut.py") 468)],#[]⟩),
 (126,fnO (inS (topS 12) 3) (q "prepare") (q "TopologicalSorter.prepare") (q "cpy313.graphlib") 358 125 .none),
 (132,⟨.type "code",none,.fields #[(.str (q "get_ready") 470),(.str (q "TopologicalSorter.get_ready") 471),(.str (q "/claim/cut.py") 472),(.int (56) 0),(.int (1) 0),(.int (0) 0),(.int (0) 0),(.int (3) 0),(.ref 127),(.bool true),(.int (276) 0),(.ref 128),.none,(.ref 129),(.ref 130),(.ref 131),(.int (477) 0),(.int (56) 0),(.str (q "/claim/cut.py") 478)],#[]⟩),
 (133,fnO (inS (topS 12) 4) (q "get_ready") (q "TopologicalSorter.get_ready") (q "cpy313.graphlib") 358 132 .none),
 (139,⟨.type "code",none,.fields #[(.str (q "is_active") 480),(.str (q "TopologicalSorter.is_active") 481),(.str (q "/claim/cut.py") 482),(.int (67) 0),(.int (1) 0),(.int (0) 0),(.int (0) 0),(.int (3) 0),(.ref 134),(.bool true),(.int (276) 0),(.ref 135),.none,(.ref 136),(.ref 137),(.ref 138),(.int (484) 0),(.int (67) 0),(.str (q "/claim/cut.py") 485)],#[]⟩),
 (140,fnO (inS (topS 12) 5) (q "is_active") (q "TopologicalSorter.is_active") (q "cpy313.graphlib") 358 139 .none),
 (153,⟨.type "code",none,.fields #[(.str (q "done") 494),(.str (q "TopologicalSorter.done") 495),(.str (q "/claim/cut.py") 496),(.int (75) 0),(.int (1) 0),(.int (0) 0),(.int (0) 0),(.int (7) 0),(.ref 148),(.bool true),(.int (276) 0),(.ref 149),.none,(.ref 150),(.ref 151),(.ref 152),(.int (505) 0),(.int (75) 0),(.str (q "/claim/cut.py") 506)],#[]⟩),
 (154,fnO (inS (topS 12) 7) (q "done") (q "TopologicalSorter.done") (q "cpy313.graphlib") 358 153 .none),
 (160,⟨.type "code",none,.fields #[(.str (q "_find_cycle") 508),(.str (q "TopologicalSorter._find_cycle") 509),(.str (q "/claim/cut.py") 510),(.int (98) 0),(.int (1) 0),(.int (0) 0),(.int (0) 0),(.int (3) 0),(.ref 155),(.bool true),(.int (276) 0),(.ref 156),.none,(.ref 157),(.ref 158),(.ref 159),(.int (518) 0),(.int (98) 0),(.str (q "/claim/cut.py") 519)],#[]⟩),
 (161,fnO (inS (topS 12) 8) (q "_find_cycle") (q "TopologicalSorter._find_cycle") (q "cpy313.graphlib") 358 160 .none),
 (170,⟨(.type "dict"),none,(.dict #[dE P (q "__module__") 428 (.str (q "cpy313.graphlib") 358),dE P (q "__firstlineno__") 432 (.int (23) 431),dE P (q "__init__") 442 (.ref 107),dE P (q "_get_nodeinfo") 451 (.ref 114),dE P (q "add") 463 (.ref 121),dE P (q "prepare") 469 (.ref 126),dE P (q "get_ready") 479 (.ref 133),dE P (q "is_active") 486 (.ref 140),dE P (q "__bool__") 493 (.ref 147),dE P (q "done") 507 (.ref 154),dE P (q "_find_cycle") 520 (.ref 161),dE P (q "static_order") 527 (.ref 168),dE P (q "__static_attributes__") 532 (.ref 169),dE P (q "__dict__") 534 (.ref 172),dE P (q "__weakref__") 536 (.ref 173),dE P (q "__doc__") 537 .none] 4),#[]⟩),
 (171,⟨(.type "type"),none,(.cls ⟨(q "TopologicalSorter"),[(.type "object")],[(.ref 171),(.type "object")],170,(q "TopologicalSorter"),true,[],[],false,none,false⟩),#[none,none,some (.str (q "TopologicalSorter") 421),some (.str (q "TopologicalSorter") 429),some (.builtin "object.__new__"),some (.bool true)]⟩),
 (172,⟨(.type "getset_descriptor"),none,(.fields #[(.str (q "__dict__") 533),(.ref 171),(.builtin "function.__dict__"),(.builtin "function.__dict__#set")]),#[]⟩),
 (173,⟨(.type "getset_descriptor"),none,(.fields #[(.str (q "__weakref__") 535),(.ref 171),(.builtin "ExceptionGroup.__weakref__"),.none]),#[]⟩),
 (247,⟨.type "code",none,.fields #[(.str (q "fspath") 629),(.str (q "fspath") 630),(.str (q "/claim/cut.py") 631),(.int (160) 0),(.int (1) 0),(.int (0) 0),(.int (0) 0),(.int (3) 0),(.ref 242),(.bool true),(.int (276) 0),(.ref 243),.none,(.ref 244),(.ref 245),(.ref 246),(.int (636) 0),(.int (160) 0),(.str (q "/claim/cut.py") 637)],#[]⟩),
 (248,fnO (topS 21) (q "fspath") (q "fspath") (q "os") 627 247 .none),
 (261,⟨.type "code",none,.fields #[(.str (q "_get_sep") 654),(.str (q "_get_sep") 655),(.str (q "/claim/cut.py") 656),(.int (189) 0),(.int (1) 0),(.int (0) 0),(.int (0) 0),(.int (3) 0),(.ref 256),(.bool true),(.int (276) 0),(.ref 257),.none,(.ref 258),(.ref 259),(.ref 260),(.int (658) 0),(.int (189) 0),(.str (q "/claim/cut.py") 659)],#[]⟩),
 (262,fnO (topS 25) (q "_get_sep") (q "_get_sep") (q "cpy313.posixpath") 652 261 .none),
 (268,⟨.type "code",none,.fields #[(.str (q "join") 661),(.str (q "join") 662),(.str (q "/claim/cut.py") 663),(.int (194) 0),(.int (1) 0),(.int (0) 0),(.int (0) 0),(.int (7) 0),(.ref 263),(.bool true),(.int (276) 0),(.ref 264),.none,(.ref 265),(.ref 266),(.ref 267),(.int (669) 0),(.int (194) 0),(.str (q "/claim/cut.py") 670)],#[]⟩),
 (269,fnO (topS 26) (q "join") (q "join") (q "cpy313.posixpath") 652 268 .none),
 (275,⟨.type "code",none,.fields #[(.str (q "splitroot") 672),(.str (q "splitroot") 673),(.str (q "/claim/cut.py") 674),(.int (211) 0),(.int (1) 0),(.int (0) 0),(.int (0) 0),(.int (3) 0),(.ref 270),(.bool true),(.int (276) 0),(.ref 271),.none,(.ref 272),(.ref 273),(.ref 274),(.int (678) 0),(.int (211) 0),(.str (q "/claim/cut.py") 679)],#[]⟩),
 (276,fnO (topS 27) (q "splitroot") (q "splitroot") (q "cpy313.posixpath") 652 275 .none),
 (282,⟨.type "code",none,.fields #[(.str (q "normpath") 681),(.str (q "normpath") 682),(.str (q "/claim/cut.py") 683),(.int (225) 0),(.int (1) 0),(.int (0) 0),(.int (0) 0),(.int (3) 0),(.ref 277),(.bool true),(.int (276) 0),(.ref 278),.none,(.ref 279),(.ref 280),(.ref 281),(.int (693) 0),(.int (225) 0),(.str (q "/claim/cut.py") 694)],#[]⟩),
 (283,fnO (topS 28) (q "normpath") (q "normpath") (q "cpy313.posixpath") 652 282 .none),
 (289,⟨.type "code",none,.fields #[(.str (q "_law_words") 698),(.str (q "_law_words") 699),(.str (q "/claim/cut.py") 700),(.int (251) 0),(.int (1) 0),(.int (0) 0),(.int (0) 0),(.int (3) 0),(.ref 284),(.bool true),(.int (276) 0),(.ref 285),.none,(.ref 286),(.ref 287),(.ref 288),(.int (703) 0),(.int (251) 0),(.str (q "/claim/cut.py") 704)],#[]⟩),
 (290,fnO (topS 30) (q "_law_words") (q "_law_words") (q "law_ik0150_01") 696 289 .none),
 (296,⟨.type "code",none,.fields #[(.str (q "_law_laid") 706),(.str (q "_law_laid") 707),(.str (q "/claim/cut.py") 708),(.int (254) 0),(.int (1) 0),(.int (0) 0),(.int (0) 0),(.int (3) 0),(.ref 291),(.bool true),(.int (276) 0),(.ref 292),.none,(.ref 293),(.ref 294),(.ref 295),(.int (712) 0),(.int (254) 0),(.str (q "/claim/cut.py") 713)],#[]⟩),
 (297,fnO (topS 31) (q "_law_laid") (q "_law_laid") (q "law_ik0150_01") 696 296 .none),
 (301,⟨.type "code",none,.fields #[(.str (q "_law_rounds") 715),(.str (q "_law_rounds") 716),(.str (q "/claim/cut.py") 717),(.int (259) 0),(.int (1) 0),(.int (0) 0),(.int (0) 0),(.int (3) 0),(.ref 298),(.bool true),(.int (276) 0),(.ref 299),.none,.none,.none,(.ref 300),(.int (718) 0),(.int (259) 0),(.str (q "/claim/cut.py") 719)],#[]⟩),
 (302,fnO (topS 32) (q "_law_rounds") (q "_law_rounds") (q "law_ik0150_01") 696 301 .none),
 (306,⟨.type "code",none,.fields #[(.str (q "_law_one_by_one") 721),(.str (q "_law_one_by_one") 722),(.str (q "/claim/cut.py") 723),(.int (266) 0),(.int (1) 0),(.int (0) 0),(.int (0) 0),(.int (3) 0),(.ref 303),(.bool true),(.int (276) 0),(.ref 304),.none,.none,.none,(.ref 305),(.int (724) 0),(.int (266) 0),(.str (q "/claim/cut.py") 725)],#[]⟩),
 (307,fnO (topS 33) (q "_law_one_by_one") (q "_law_one_by_one") (q "law_ik0150_01") 696 306 .none),
 (313,⟨.type "code",none,.fields #[(.str (q "_law_prepared") 727),(.str (q "_law_prepared") 728),(.str (q "/claim/cut.py") 729),(.int (273) 0),(.int (1) 0),(.int (0) 0),(.int (0) 0),(.int (3) 0),(.ref 308),(.bool true),(.int (276) 0),(.ref 309),.none,(.ref 310),(.ref 311),(.ref 312),(.int (731) 0),(.int (273) 0),(.str (q "/claim/cut.py") 732)],#[]⟩),
 (314,fnO (topS 34) (q "_law_prepared") (q "_law_prepared") (q "law_ik0150_01") 696 313 .none),
 (320,⟨.type "code",none,.fields #[(.str (q "_law_told") 734),(.str (q "_law_told") 735),(.str (q "/claim/cut.py") 736),(.int (279) 0),(.int (1) 0),(.int (0) 0),(.int (0) 0),(.int (3) 0),(.ref 315),(.bool true),(.int (276) 0),(.ref 316),.none,(.ref 317),(.ref 318),(.ref 319),(.int (741) 0),(.int (279) 0),(.str (q "/claim/cut.py") 742)],#[]⟩),
 (321,fnO (topS 35) (q "_law_told") (q "_law_told") (q "law_ik0150_01") 696 320 .none),
 (327,⟨.type "code",none,.fields #[(.str (q "_law_dealt") 744),(.str (q "_law_dealt") 745),(.str (q "/claim/cut.py") 746),(.int (288) 0),(.int (1) 0),(.int (0) 0),(.int (0) 0),(.int (3) 0),(.ref 322),(.bool true),(.int (276) 0),(.ref 323),.none,(.ref 324),(.ref 325),(.ref 326),(.int (751) 0),(.int (288) 0),(.str (q "/claim/cut.py") 752)],#[]⟩),
 (328,fnO (topS 36) (q "_law_dealt") (q "_law_dealt") (q "law_ik0150_01") 696 327 .none),
 (334,⟨.type "code",none,.fields #[(.str (q "_law_left") 754),(.str (q "_law_left") 755),(.str (q "/claim/cut.py") 756),(.int (296) 0),(.int (1) 0),(.int (0) 0),(.int (0) 0),(.int (3) 0),(.ref 329),(.bool true),(.int (276) 0),(.ref 330),.none,(.ref 331),(.ref 332),(.ref 333),(.int (759) 0),(.int (296) 0),(.str (q "/claim/cut.py") 760)],#[]⟩),
 (335,fnO (topS 37) (q "_law_left") (q "_law_left") (q "law_ik0150_01") 696 334 .none),
 (339,⟨.type "code",none,.fields #[(.str (q "law") 762),(.str (q "law") 763),(.str (q "/claim/cut.py") 764),(.int (299) 0),(.int (1) 0),(.int (0) 0),(.int (0) 0),(.int (3) 0),(.ref 336),(.bool true),(.int (276) 0),(.ref 337),.none,.none,.none,(.ref 338),(.int (765) 0),(.int (299) 0),(.str (q "/claim/cut.py") 766)],#[]⟩),
 (340,fnO (topS 38) (q "law") (q "law") (q "law_ik0150_01") 696 339 .none)]
noncomputable def znu:List Addr:= [0,1,2,3,4,42,43,47,48,54,55,69,70,73,74,75,76,77,88,89,90,100,106,107,113,114,120,121,125,126,132,133,139,140,153,154,160,161,170,171,172,173,247,248,261,262,268,269,275,276,282,283,289,290,296,297,301,302,306,307,313,314,320,321,327,328,334,335,339,340]
noncomputable abbrev pW:Program:=PySem.Challenge.pw_ik0150_01
noncomputable def qW:Program:= {pW with main:= {pW.main with body:= [topS 0,topS 1,topS 3,topS 4,topS 5,topS 6,topS 8,topS 9,topS 10,topS 11,topS 12,topS 14,topS 16,topS 18,topS 19,topS 21,topS 23,topS 25,topS 26,topS 27,topS 28,topS 30,topS 31,topS 32,topS 33,topS 34,topS 35,topS 36,topS 37,topS 38]}}
noncomputable def obsW (s:Shared):List (Option Obj)×Nat:=(znu.map s.heap.get?,s.heap.objs.size)
noncomputable def valW (w:World):List (Option Obj)×Nat:=((KW w.params).map (fun p=>some p.2),341)
theorem addrs_eq:∀P,znu=(KW P).map (·.1):=fun _=>by kernel_rfl
noncomputable abbrev rowR:RowW:=OpenRow.toRowW PySem.Challenge.rw_ik0150_01.row
theorem left_law:LeftO PySem.Challenge.rw_ik0150_01.row.prog qW [Str.ofString "_twin_re_1",Str.ofString "_twin_re_2",Str.ofString "_NodeInfo"] (fun s=>xlAt qW [] s&&recOk rowR.records s) obsW valW 4788:=by
 intro w
 delta openEnds fencedOpening topFrom
 rw[PySem.W.Fast.te10274390034422433532,PySem.W.Fast.te14082659384304107361,PySem.W.Fast.te4187177175401517315,PySem.W.Fast.te14364793385576792824]
 kernel_rfl
end
end Mine
section
theorem Mine.wellSaid_law:PySem.Challenge.rw_ik0150_01.wellSaid=true:=by
 rw[PySem.W.Fast.te9446332074065402090]
 delta PySem.W.Fast.tw9446332074065402090
 iterate 18 (refine look_both ?_ (by decide+kernel))
 delta PySem.W.Fast.tw17960256430627541270
 iterate 2 (refine look_both ?_ (by decide+kernel))
 delta PySem.W.Fast.tw2436336058641802641
 iterate 13 (refine look_both ?_ (by decide+kernel))
 decide+kernel
end
section
namespace Mine
theorem nsE {α:Type u}{a:α}{P:Prop}(h:(none:Option α)=some a):P:=nomatch h
theorem snE {α:Type u}{a:α}{P:Prop}(h:some a=none):P:=nomatch h
theorem ftE {P:Prop}(h:false=true):P:=nomatch h
theorem tfE {P:Prop}(h:true=false):P:=nomatch h
theorem mnE {α:Type u}{a:α}{P:Prop}(h:a∈([]:List α)):P:=nomatch h
theorem ncE {α:Type u}{a:α}{l:List α}{P:Prop}(h: []=a::l):P:=nomatch h
theorem cnE {α:Type u}{a:α}{l:List α}{P:Prop}(h:a::l= []):P:=nomatch h
theorem znU {k:Nat}(h:k < 1000):(k:Int) < 2 ^ 63:=Int.lt_trans (Int.ofNat_lt.mpr h) (by decide)
theorem leK {a k n:Nat}(h:a≤k)(e:Nat.ble k n=true):a≤n:=Nat.le_trans h (Nat.le_of_ble_eq_true e)
theorem aA {a b c d:Nat}(h:a≤b)(g:c≤d):a+c≤b+d:=Nat.add_le_add h g
theorem aM {k a b:Nat}(h:a≤b):k * a≤k * b:=Nat.mul_le_mul_left k h
theorem aR {n:Nat} :n≤n:=Nat.le_refl n
theorem aS {a b c:Nat}(h:a≤c):a - b≤c:=Nat.le_trans (Nat.sub_le a b) h
theorem ltK {a k n:Nat}(h:a < k)(e:Nat.ble k n=true):a < n:=Nat.le_trans h (Nat.le_of_ble_eq_true e)
theorem slK {a k n:Nat}(h:a≤k)(e:Nat.ble (k+1) n=true):a < n:=Nat.le_trans (Nat.succ_le_succ h) (Nat.le_of_ble_eq_true e)
theorem llK {a k n:Nat}(h:a < k)(e:Nat.ble k n=true):a≤n:=Nat.le_of_lt (ltK h e)
theorem kL {a k n:Nat}(h:k≤a)(e:Nat.ble n k=true):n≤a:=Nat.le_trans (Nat.le_of_ble_eq_true e) h
theorem adR1 {a b c:Nat}(h:a+b≤c):a≤c:=Nat.le_trans (Nat.le_add_right _ _) h
theorem adL1 {a b c:Nat}(h:a+b≤c):b≤c:=Nat.le_trans (Nat.le_add_left _ _) h
theorem rot1 {a b c n:Nat}(h:a+(b+c)≤n):a+c+b≤n:=by lia
theorem rot2 {a b c n:Nat}(h:a+(b+c)≤n):a+b+c≤n:=by lia
theorem rot4 {a b c n:Nat}(h:a+(b+c)=n):a+c+b=n:=by lia
theorem ltE' {a b c:Nat}(h:a < b)(e:c=b):a < c:=e▸h
theorem leE' {a b c:Nat}(h:a≤b)(e:c=b):a≤c:=e▸h
theorem eLe {a b c:Nat}(e:a=b)(h:b≤c):a≤c:=e▸h
theorem eLt {a b c:Nat}(e:a=b)(h:b < c):a < c:=e▸h
theorem neT {a b n:Nat}(h:a < n)(g:n≤b):a≠b:=Nat.ne_of_lt (Nat.lt_of_lt_of_le h g)
theorem neT' {a b n:Nat}(h:a < n)(g:n≤b):b≠a:=Nat.ne_of_gt (Nat.lt_of_lt_of_le h g)
theorem noL {a n:Nat}{P:Prop}(h:a < n)(g:n≤a):P:=absurd h (Nat.not_lt.mpr g)
theorem zad {α:Type}{P:α→Prop} :∀b∈([]:List α),P b:=fun _ h=>absurd h List.not_mem_nil
theorem zbN {α:Type}{xs:List α}{x:α} :(xs++ [x])[xs.length]? =some x:=by rw[List.getElem?_append_right (Nat.le_refl _),Nat.sub_self];rfl
theorem zeN {α:Type}{xs:List α}{x y:α} :(xs++ [x,y])[xs.length]? =some x:=by rw[List.getElem?_append_right (Nat.le_refl _),Nat.sub_self];rfl
theorem zeM {α:Type}{xs:List α}{x y:α} :(xs++ [x,y])[xs.length+1]? =some y:=by rw[List.getElem?_append_right (Nat.le_add_right _ 1),Nat.add_sub_cancel_left];rfl
theorem zg4 {α:Type}{xs:List α}{x y z:α} :(xs++ [x,y,z])[xs.length]? =some x:=by rw[List.getElem?_append_right (Nat.le_refl _),Nat.sub_self];rfl
theorem zcA {α:Type}{xs:List α}{x:α} :(xs++ [x]).length=xs.length+1:=List.length_append
theorem zb5 {α:Type}{xs:List α}{x y:α} :(xs++ [x]++ [y]).length=xs.length+2:=by rw[List.length_append,List.length_append];rfl
theorem zlm {α:Type}{xs:List α}{x y:α} :(xs++ [x,y]).length=xs.length+2:=List.length_append
theorem zg5 {α:Type}{xs:List α}{x y:α} :(xs++ [x]++ [y])[xs.length+1]? =some y:=by rw[List.append_assoc];exact zeM
theorem zib {α:Type}{xs:List α}{x y:α} :(xs++ [x]++ [y])[xs.length]? =some x:=by rw[List.append_assoc];exact zeN
theorem app2 {α:Type}{xs:List α}{x y:α} :xs++ [x]++ [y]=xs++ [x,y]:=List.append_assoc ..
theorem app3 {α:Type}{xs:List α}{x y z:α} :xs++ [x]++ [y]++ [z]=xs++ [x,y,z]:=by rw[List.append_assoc,List.append_assoc];rfl
theorem zmp {α:Type}{xs:List α}{x y:α} :(xs++ [x]).set xs.length y=xs++ [y]:=by rw[List.set_append_right _ _ (Nat.le_refl _),Nat.sub_self];rfl
theorem zgF {α:Type}{xs:List α}{x y z:α} :(xs++ [x,y]).set xs.length z=xs++ [z,y]:=by rw[List.set_append_right _ _ (Nat.le_refl _),Nat.sub_self];rfl
theorem zkQ {α:Type}{xs:List α}{x y z:α} :(xs++ [x,y]).set (xs.length+1) z=xs++ [x,z]:=by rw[List.set_append_right _ _ (Nat.le_add_right _ 1),Nat.add_sub_cancel_left];rfl
inductive AV where
 | none | bool (b:Bool) | int (i:Int) | str (s:Str)
 | obj (i:Nat) | nxt (i:Nat) | vals (i:Nat) | rng (n:Nat)
 | lst (xs:List AV) | tup (xs:List AV)
 | cst (v:Value)
 deriving Inhabited
inductive Cell where
 | lst (xs:List AV)
 | dct (es:List (Str×AV)) (ep:Option Nat)
 | set (xs:List Str)
 | uset (zs:List Str)
 | ns (es:List (Str×AV))
 | inst (C:Addr) (d:Nat)
 | info (d:Nat) (nd np su:Option AV)
 | iter (src:AV) (pos:Nat)
 | titer (xs:List AV) (pos:Nat)
 | riter (n pos:Nat)
 | kiter (d n ep pos:Nat)
 | viter (d n ep pos:Nat)
 | enum (it pos:Nat)
 | junk
 deriving Inhabited
noncomputable def dget (es:List (Str×AV))(k:Str):Option AV:=(es.find? fun kv=>kv.1=k).map (·.2)
noncomputable def zeH:List String:= ["list_iterator","tuple_iterator","range_iterator","dict_keyiterator","dict_valueiterator","enumerate","set_iterator","traceback","StopIteration"]
noncomputable def Soft (o:Obj):Prop:=(∃es ep,o.data= .dict es ep)∨(∃v,o.data= .cell v)∨(∃n∈zeH,o.cls= .type n)∨∃C vs,o.cls= .ref C∧o.data= .fields vs
noncomputable def za2:Nat:=341
structure Fm where
 fr:List Addr
 calm:Bool
noncomputable def Fm.deeper (Φ:Fm)(L:Addr):Fm:=⟨L::Φ.fr,Φ.calm⟩
noncomputable def Like (b:Addr)(o o':Obj):Prop:=o'=o∨(za2 < b∧(∃es ep,o.data= .dict es ep)∧∃sl,o'= {o with slots:=sl})
theorem Like.trans {b:Addr}{o o' o'':Obj}(x:Like b o o')(y:Like b o' o''):Like b o o'':=by
 rcases x with rfl | ⟨h,d,sl,rfl⟩
 ·exact y
 ·rcases y with rfl | ⟨h',d',sl',rfl⟩
  ·exact .inr ⟨h,d,sl,rfl⟩
  ·exact .inr ⟨h,d,sl',rfl⟩
theorem Like.data {b:Addr}{o o':Obj}(x:Like b o o'):o'.data=o.data:=by rcases x with rfl | ⟨_,_,_,rfl⟩<;>rfl
theorem Like.soft {b:Addr}{o o':Obj}(x:Like b o o')(s:Soft o):Soft o':=by
 rcases x with rfl | ⟨_,⟨es,ep,d⟩,_,rfl⟩
 ·exact s
 ·exact .inl ⟨es,ep,d⟩
noncomputable def Keep (ρ O:List Addr)(h h':Heap):Prop:=∀b o,h.get? b=some o→b∉ρ→b∉O→∃o',h'.get? b=some o'∧Like b o o'
theorem Keep.refl (ρ O h):Keep ρ O h h:=fun _ o e _ _=>⟨o,e,.inl rfl⟩
theorem Keep.mono {ρ O O' h h'}(k:Keep ρ O h h')(hs:∀a∈O,a∈O'):Keep ρ O' h h':=fun b o e x y=>k b o e x fun z=>y (hs b z)
noncomputable def Ext (h:Heap)(ρ ρ':List Addr):Prop:=∃l,ρ'=ρ++l∧∀a∈l,h.objs.size≤a
theorem Ext.refl (h ρ):Ext h ρ ρ:=⟨[],by exact(List.append_nil _).symm,by exact zad⟩
theorem Ext.get {h ρ ρ'}(x:Ext h ρ ρ'){i:Nat}{a:Addr}(e:ρ[i]? =some a):ρ'[i]? =some a:=by
 obtain⟨l,rfl,_⟩:=x
 rw[List.getElem?_append_left (by have:=List.getElem?_eq_some_iff.mp e;exact this.1)];exact e
theorem Ext.not_mem {h ρ ρ'}(x:Ext h ρ ρ'){a o}(e:h.get? a=some o)(n:a∉ρ):a∉ρ':=by
 obtain⟨l,rfl,hl⟩:=x;intro hm
 rcases List.mem_append.mp hm with q | q
 ·exact n q
 ·exact absurd (Heap.lt_size e) (Nat.not_lt.mpr (hl a q))
theorem Keep.trans {ρ ρ' O h h' h''}(k:Keep ρ O h h')(x:Ext h ρ ρ')(k':Keep ρ' O h' h''):Keep ρ O h h'':=
 fun b o e n m=>let⟨cP,cz,l₁⟩:=k b o e n m;let⟨cw,cG,l₂⟩:=k' b cP cz (x.not_mem e n) m;⟨cw,cG,l₁.trans l₂⟩
noncomputable def zeB (it:Addr):Obj:= {cls:=.type "method-wrapper",dict:=.none,data:=.fields #[.builtin "list_iterator.__next__",.ref it],slots:= #[]}
noncomputable def zkI (d:Addr):Obj:= {cls:=.type "dict_values",dict:=.none,data:=.fields #[.ref d],slots:= #[]}
mutual
inductive VR (h:Heap)(ρ:List Addr):AV→Value→Prop
 | none:VR h ρ .none .none
 | bool {b} :VR h ρ (.bool b) (.bool b)
 | int {i t} :VR h ρ (.int i) (.int i t)
 | str {x t} :VR h ρ (.str x) (.str x t)
 | obj {i a} :ρ[i]? =some a→VR h ρ (.obj i) (.ref a)
 | nxt {i a b} :ρ[i]? =some a→h.get? b=some (zeB a)→b∉ρ→VR h ρ (.nxt i) (.ref b)
 | vals {i a b} :ρ[i]? =some a→h.get? b=some (zkI a)→b∉ρ→VR h ρ (.vals i) (.ref b)
 | rng {n:Nat} {a t u v} :IsRange h a 0 n 1 t u v→a∉ρ→VR h ρ (.rng n) (.ref a)
 | lst {xs vs a} :h.IsList a vs.toArray→a∉ρ→VRs h ρ xs vs→VR h ρ (.lst xs) (.ref a)
 | tup {xs vs a} :IsTup h a vs.toArray→a∉ρ→VRs h ρ xs vs→VR h ρ (.tup xs) (.ref a)
 | cst {v} :VR h ρ (.cst v) v
inductive VRs (h:Heap)(ρ:List Addr):List AV→List Value→Prop
 | nil:VRs h ρ [] []
 | cons {x v xs vs} :VR h ρ x v→VRs h ρ xs vs→VRs h ρ (x::xs) (v::vs)
end
section
variable {h:Heap}{ρ:List Addr}{C:Value→Prop}{v:Value}{D:List Value→Prop}{ws:List Value}{x y z:AV}
@[elab_as_elim] theorem VR.strE {s} (q:VR h ρ (.str s) v) (k:∀t,C (.str s t)):C v:=by cases q;exact k _
@[elab_as_elim] theorem VR.intE {i} (q:VR h ρ (.int i) v) (k:∀t,C (.int i t)):C v:=by cases q;exact k _
@[elab_as_elim] theorem VR.aF (q:VR h ρ .none v) (k:C .none):C v:=by cases q;exact k
@[elab_as_elim] theorem VR.bn {b} (q:VR h ρ (.bool b) v) (k:C (.bool b)):C v:=by cases q;exact k
@[elab_as_elim] theorem VR.cstE {u} (q:VR h ρ (.cst u) v) (k:C u):C v:=by cases q;exact k
@[elab_as_elim] theorem VR.objE {i} (q:VR h ρ (.obj i) v) (k:∀a,ρ[i]? =some a→C (.ref a)):C v:=by cases q with | obj e=>exact k _ e
@[elab_as_elim] theorem VR.nxtE {i} (q:VR h ρ (.nxt i) v) (k:∀a b,ρ[i]? =some a→h.get? b=some (zeB a)→b∉ρ→C (.ref b)):C v:=by cases q with | nxt a b c=>exact k _ _ a b c
@[elab_as_elim] theorem VR.cb {i} (q:VR h ρ (.vals i) v) (k:∀a b,ρ[i]? =some a→h.get? b=some (zkI a)→b∉ρ→C (.ref b)):C v:=by cases q with | vals a b c=>exact k _ _ a b c
@[elab_as_elim] theorem VR.rngE {n:Nat} (q:VR h ρ (.rng n) v) (k:∀a t u w,IsRange h a 0 n 1 t u w→a∉ρ→C (.ref a)):C v:=by cases q with | rng a b=>exact k _ _ _ _ a b
@[elab_as_elim] theorem VR.lstE {xs} (q:VR h ρ (.lst xs) v) (k:∀vs a,h.IsList a vs.toArray→a∉ρ→VRs h ρ xs vs→C (.ref a)):C v:=by cases q with | lst a b c=>exact k _ _ a b c
@[elab_as_elim] theorem VR.tupE {xs} (q:VR h ρ (.tup xs) v) (k:∀vs a,IsTup h a vs.toArray→a∉ρ→VRs h ρ xs vs→C (.ref a)):C v:=by cases q with | tup a b c=>exact k _ _ a b c
@[elab_as_elim] theorem VRs.oneE (q:VRs h ρ [x] ws) (k:∀a,VR h ρ x a→D [a]):D ws:=by cases q with | cons a q=>cases q;exact k _ a
@[elab_as_elim] theorem VRs.twoE (q:VRs h ρ [x,y] ws) (k:∀a b,VR h ρ x a→VR h ρ y b→D [a,b]):D ws:=by cases q with | cons a q=>exact VRs.oneE q fun _ b=>k _ _ a b
@[elab_as_elim] theorem VRs.bk (q:VRs h ρ [x,y,z] ws) (k:∀a b c,VR h ρ x a→VR h ρ y b→VR h ρ z c→D [a,b,c]):D ws:=by cases q with | cons a q=>exact VRs.twoE q fun _ _ b c=>k _ _ _ a b c
end
theorem VR.tupR {h:Heap}{ρ:List Addr}{xs l}{C:Prop}(q:VR h ρ (.tup xs) (.ref l))(k:∀vs,IsTup h l vs.toArray→l∉ρ→VRs h ρ xs vs→C):C:=by cases q with | tup a b c=>exact k _ a b c
theorem VR.objR {h:Heap}{ρ:List Addr}{i l}{C:Prop}(q:VR h ρ (.obj i) (.ref l))(k:ρ[i]? =some l→C):C:=by cases q with | obj e=>exact k e
structure Moves (O:List Addr)(h h':Heap)(ρ ρ':List Addr):Prop where
 keep:Keep ρ O h h'
 size:h.objs.size≤h'.objs.size
 ext:Ext h ρ ρ'
 soft:∀b∈O,∀o,h.get? b=some o→Soft o
theorem Moves.hard {O h h' ρ ρ'}(m:Moves O h h' ρ ρ'){b o}(e:h.get? b=some o)(n:b∉ρ)(s: ¬ Soft o):h'.get? b=some o∧b∉ρ':=by
 refine⟨?_,m.ext.not_mem e n⟩
 obtain⟨o',e',l⟩:=m.keep b o e n fun q=>s (m.soft b q o e)
 rcases l with rfl | ⟨_,d,_⟩
 ·exact e'
 ·exact absurd (.inl d) s
theorem Moves.refl {O h ρ}(hs:∀b∈O,∀o,h.get? b=some o→Soft o):Moves O h h ρ ρ:=⟨Keep.refl _ _ _,Nat.le_refl _,Ext.refl _ _,hs⟩
theorem Moves.trans {O h h' h'' ρ ρ' dO}(m:Moves O h h' ρ ρ')(k:Moves O h' h'' ρ' dO):Moves O h h'' ρ dO:=by
 refine⟨m.keep.trans m.ext k.keep,Nat.le_trans m.size k.size,?_,m.soft⟩;obtain⟨l,rfl,hl⟩:=m.ext;obtain⟨l',rfl,hl'⟩:=k.ext;refine⟨l++l',by exact List.append_assoc _ _ _,fun a ha=> ?_⟩
 rcases List.mem_append.mp ha with q | q
 ·exact hl a q
 ·exact Nat.le_trans m.size (hl' a q)
theorem Moves.grow {O h h' ρ}(k:∀b o,h.get? b=some o→h'.get? b=some o)(hz:h.objs.size≤h'.objs.size)(hs:∀b∈O,∀o,h.get? b=some o→Soft o):Moves O h h' ρ ρ:=
 ⟨fun b o e _ _=>⟨o,k b o e,.inl rfl⟩,hz,Ext.refl _ _,hs⟩
theorem Moves.push {O h ρ}(o:Obj)(hs:∀b∈O,∀o,h.get? b=some o→Soft o):Moves O h (h.push o) ρ ρ:=
 Moves.grow (fun _ _ e=>Heap.get?_push_of_some o e) (by rw[Heap.size_push];exact Nat.le_succ _) hs
theorem Moves.extBut {O h h' ρ a}(k:Heap.ExtBut a h h')(hz:h.objs.size≤h'.objs.size)(hm:a∈ρ∨a∈O)(hs:∀b∈O,∀o,h.get? b=some o→Soft o):Moves O h h' ρ ρ:=by
 refine⟨fun b o e n m=> ?_,hz,Ext.refl _ _,hs⟩
 have hb:b≠a:=by rintro rfl;rcases hm with q | q;exact n q;exact m q
 exact⟨o,k b o hb e,.inl rfl⟩
theorem Moves.but {O h h' ρ a}(k:Heap.SameBut a h h')(hm:a∈ρ∨a∈O)(hs:∀b∈O,∀o,h.get? b=some o→Soft o):Moves O h h' ρ ρ:=
 Moves.extBut k.extBut (Nat.le_of_eq k.1.symm) hm hs
theorem Moves.wider {O O' h h' ρ ρ'}(m:Moves O h h' ρ ρ')(hs:∀a∈O,a∈O')(hf:∀b∈O',∀o,h.get? b=some o→Soft o):Moves O' h h' ρ ρ':=⟨m.keep.mono hs,m.size,m.ext,hf⟩
theorem Moves.narrow {O O' h h' ρ ρ'}(m:Moves O' h h' ρ ρ')(hs:∀a∈O',a∈O∨h.get? a= .none)(hf:∀b∈O,∀o,h.get? b=some o→Soft o):Moves O h h' ρ ρ':=
 ⟨fun b o e n k=>m.keep b o e n (fun q=>(hs b q).elim k (fun z=>by rw[z] at e;cases e)),m.size,m.ext,hf⟩
theorem zh4 {o:Obj}{n:String}(e:o.cls= .type n)(h:n∉zeH)(hd:∀es ep,o.data≠ .dict es ep)(hc:∀v,o.data≠ .cell v): ¬ Soft o:=by
 rintro(⟨es,ep,q⟩ | ⟨v,q⟩ | ⟨m,hm,e'⟩ | ⟨C,vs,e',_⟩)
 ·exact hd _ _ q
 ·exact hc _ q
 ·rw[e] at e';cases e';exact h hm
 ·rw[e] at e';cases e'
theorem zh3 {o:Obj}{n:String}(e:o.cls= .type n)(h:n∉zeH){xs k}(hd:o.data= .seq xs k): ¬ Soft o:=
 zh4 e h (fun _ _ q=>by rw[hd] at q;cases q) (fun _ q=>by rw[hd] at q;cases q)
theorem VR.moves {O h h' ρ ρ'}(m:Moves O h h' ρ ρ'){x v}(q:VR h ρ x v):VR h' ρ' x v:=by
 have hd:∀{b:Addr} {n:String} {vs:Array Value},n∉zeH→h.get? b=some {cls:=.type n,dict:=.none,data:=.fields vs,slots:= #[]} →b∉ρ→h'.get? b=some {cls:=.type n,dict:=.none,data:=.fields vs,slots:= #[]} ∧b∉ρ':=
  fun hn g n=>m.hard g n (zh4 rfl hn (fun _ _ q=>nomatch q) (fun _ q=>nomatch q))
 have hs:∀{a:Addr} {o:Obj} {xs k} {n:String},n∉zeH→h.get? a=some o→o.cls= .type n→o.data= .seq xs k→a∉ρ→h'.get? a=some o∧a∉ρ':=fun hn g c r n=>m.hard g n (zh3 c hn r)
 refine VR.rec (motive_1:=fun x v _=>VR h' ρ' x v) (motive_2:=fun xs vs _=>VRs h' ρ' xs vs) .none .bool .int .str (fun e=>.obj (m.ext.get e)) (fun e g n=> ?_) (fun e g n=> ?_) (fun g n=> ?_) (fun g n _ q=> ?_) (fun g n _ q=> ?_) .cst .nil (fun _ _ a b=>.cons a b) q
 ·have z:=hd (by decide) g n;exact .nxt (m.ext.get e) z.1 z.2
 ·have z:=hd (by decide) g n;exact .vals (m.ext.get e) z.1 z.2
 ·have z:=hd (by decide) g n;exact .rng z.1 z.2
 ·obtain⟨o,g,c,k,r⟩:=g;have z:=hs (by decide) g c r n;exact .lst ⟨o,z.1,c,k,r⟩ z.2 q
 ·obtain⟨o,g,c,k,r⟩:=g;have z:=hs (by decide) g c r n;exact .tup ⟨o,z.1,c,k,r⟩ z.2 q
@[elab_as_elim] theorem VRs.ind {h:Heap} {ρ:List Addr} {C:List AV→List Value→Prop} (nil:C [] []) (cons:∀{x v xs vs},VR h ρ x v→VRs h ρ xs vs→C xs vs→C (x::xs) (v::vs)):∀{xs vs},VRs h ρ xs vs→C xs vs:=by
 intro xs
 induction xs with
 | nil=>intro vs q;cases q;exact nil
 | cons x r ih=>intro vs q;cases q with | cons a b=>exact cons a b (ih b)
theorem VRs.moves {O h h' ρ ρ'}(m:Moves O h h' ρ ρ'){xs vs}(q:VRs h ρ xs vs):VRs h' ρ' xs vs:=VRs.ind (C:=VRs h' ρ') .nil (fun a _ b=>.cons (a.moves m) b) q
theorem VRs.length {h ρ xs vs}(q:VRs h ρ xs vs):xs.length=vs.length:=VRs.ind (C:=fun xs vs=>xs.length=vs.length) rfl (fun _ _ b=>congrArg (· +1) b) q
theorem VRs.get {h ρ xs vs}(q:VRs h ρ xs vs):∀{i:Nat} {x:AV},xs[i]? =some x→∃v,vs[i]? =some v∧VR h ρ x v:=by
 refine VRs.ind (C:=fun xs vs=>∀{i:Nat} {x:AV},xs[i]? =some x→∃v,vs[i]? =some v∧VR h ρ x v) (fun e=>nomatch e) ?_ q;intro y u _ _ a _ b i x e
 cases i with
 | zero=>cases e;exact⟨_,rfl,a⟩
 | succ i=>exact b e
theorem VRs.append {h ρ xs vs ys ws}(p:VRs h ρ xs vs)(q:VRs h ρ ys ws):VRs h ρ (xs++ys) (vs++ws):=VRs.ind (C:=fun xs vs=>VRs h ρ (xs++ys) (vs++ws)) q (fun a _ b=>.cons a b) p
theorem VRs.drop {h ρ} :∀{xs vs} (n:Nat),VRs h ρ xs vs→VRs h ρ (xs.drop n) (vs.drop n):=fun {xs vs} n=>by
 induction n generalizing xs vs with
 | zero=>intro q;exact q
 | succ n ih=>intro q;cases q with | nil=>exact .nil | cons _ b=>exact ih b
theorem VRs.take {h ρ} :∀{xs vs} (n:Nat),VRs h ρ xs vs→VRs h ρ (xs.take n) (vs.take n):=fun {xs vs} n=>by
 induction n generalizing xs vs with
 | zero=>intro q;exact .nil
 | succ n ih=>intro q;cases q with | nil=>exact .nil | cons a b=>exact .cons a (ih b)
theorem VRs.twoI {h:Heap}{ρ:List Addr}{x y:AV}{ws:List Value}(q:VRs h ρ [x,y] ws):∃a b,ws= [a,b]∧VR h ρ x a∧VR h ρ y b:=VRs.twoE q fun _ _ a b=>⟨_,_,rfl,a,b⟩
theorem VR.cstI {h:Heap}{ρ:List Addr}{u v:Value}(q:VR h ρ (.cst u) v):v=u:=VR.cstE q rfl
inductive ER (h:Heap)(ρ:List Addr):List (Str×AV)→List (Str×Value)→Prop
 | nil:ER h ρ [] []
 | cons {k x v es fs} :VR h ρ x v→ER h ρ es fs→ER h ρ ((k,x)::es) ((k,v)::fs)
theorem ER.moves {O h h' ρ ρ'}(m:Moves O h h' ρ ρ'){es fs}(q:ER h ρ es fs):ER h' ρ' es fs:=by
 induction q with
 | nil=>exact .nil
 | cons a _ b=>exact .cons (a.moves m) b
inductive OVR (h:Heap)(ρ:List Addr):Option AV→Option Value→Prop
 | none:OVR h ρ .none .none
 | some {x v} :VR h ρ x v→OVR h ρ (.some x) (.some v)
theorem OVR.moves {O h h' ρ ρ'}(m:Moves O h h' ρ ρ'){x v}(q:OVR h ρ x v):OVR h' ρ' x v:=by
 cases q with
 | none=>exact .none
 | some a=>exact .some (a.moves m)
end Mine
end
section
namespace Mine
section
variable (pg:Program)(w:World)(K:Frag)(Φ:Fm)
noncomputable abbrev sk:=PySem.strKind pg w
inductive SetT (h:Heap)(a:Addr)(zs:List Str):Prop
 | mk (nd:zs.Nodup) (o:Obj) (es:Array (Int×Value)) (ep:Nat) (t:SetTable) (ho:h.get? a=some o) (hex:o.ExactSet) (hd:o.data= .set es ep t) (hel:ElemsOf (sk pg w) es.toList) (hmem:∀k,decide (k∈zs)=true↔∃e∈es.toList,(sk pg w).is k e.2=true)
  (hb:es.size < scanBound) (hf:t.fits es.size=true) (hn:es.size=zs.length) (hp:zs≠ []→t.plain=false)
noncomputable def za3:Addr:=74
noncomputable def iget (nd np su:Option AV):Nat→Option AV
 | 0=>nd
 | 1=>np
 | 2=>su
 | _=>.none
inductive CellAt (h:Heap)(ρ:List Addr)(a:Addr):Cell→Prop
 | lst {xs vs n} :IsL h a vs.toArray n→VRs h ρ xs vs→CellAt h ρ a (.lst xs)
 | dct {es fs e ep} :h.DictAt (strKind pg w) a fs e→ER h ρ es fs→(∀n,ep=some n→n=e)→CellAt h ρ a (.dct es ep)
 | set {xs:List Str} {n} :h.SetOf (strKind pg w) a (fun k=>decide (k∈xs)) n→n≤xs.length→CellAt h ρ a (.set xs)
 | uset {zs} :SetT pg w h a zs→CellAt h ρ a (.uset zs)
 | ns {es m} :h.Ns1 a m→(∀k,OVR h ρ (dget es k) (m k))→CellAt h ρ a (.ns es)
 | inst {C d dx} :ρ[d]? =some dx→h.get? a=some ⟨.ref C,some dx,.plain,#[]⟩→CellAt h ρ a (.inst C d)
 | info {d dx nd np su sl} :ρ[d]? =some dx→h.get? a=some ⟨.ref za3,some dx,.plain,sl⟩→(∀j,OVR h ρ (iget nd np su j) (sl[j]?).join)→CellAt h ρ a (.info d nd np su)
 | iter {src l pos} :VR h ρ src (.ref l)→h.IsListIter a l pos→CellAt h ρ a (.iter src pos)
 | titer {xs l pos} :VR h ρ (.tup xs) (.ref l)→h.IsTupleIter a l pos→CellAt h ρ a (.titer xs pos)
 | riter {n pos:Nat} :pos≤n→IsRangeIter h a pos ((n:Int) - pos) 1→CellAt h ρ a (.riter n pos)
 | kiter {d n ep pos dx} :ρ[d]? =some dx→h.IsKeyIter a dx pos n ep→CellAt h ρ a (.kiter d n ep pos)
 | viter {d n ep pos dx} :ρ[d]? =some dx→h.IsValIter a dx pos n ep→CellAt h ρ a (.viter d n ep pos)
 | enum {it pos ix old} :ρ[it]? =some ix→IsEnum h a ix (pos:Nat) old→CellAt h ρ a (.enum it pos)
 | junk:CellAt h ρ a .junk
structure Rel (ρ:List Addr)(H:List Cell)(h:Heap):Prop where
 top:K.In h
 len:ρ.length=H.length
 nd:ρ.Nodup
 cell:∀(i:Nat) (c:Cell) (a:Addr),H[i]? =some c→ρ[i]? =some a→CellAt pg w h ρ a c
 apart:∀a∈ρ,K.lookup a= .none
 live:∀a∈ρ,a < h.objs.size
 low:∀a o,K.lookup a=some o→a≤za2
 big:za2 < h.objs.size
 frames:∀L∈Φ.fr,za2 < L∧L∉ρ∧∃o es ep,h.get? L=some o∧o.data= .dict es ep
structure EnvR (env:Env)(sc:Scope)(O:List Addr)(σ:List (Str×AV))(ρ:List Addr)(h:Heap):Prop where
 fn:env.scope.kind= .function
 gl:env.globals=mainGlobals
 bl:env.builtins=builtinsNs
 glob:∀x,sc.names.lookup x=some .globalImplicit→env.kindOf x=some .globalImplicit
 loc:∀x,sc.names.lookup x=some .local→env.kindOf x=some .local
 cel:∀x,sc.names.lookup x=some .cell→env.kindOf x=some .cell∧∃c v,env.cells.lookup x=some c∧c∈O∧h.IsCell c v
 fre:∀x,sc.names.lookup x=some .free→(env.kindOf x=some .free∨env.kindOf x=some .cell)∧∃c,env.cells.lookup x=some c
 ns:∃m,h.Ns env.locals m∧∀x v,σ.lookup x=some v→env.kindOf x=some .local→∃v',m x=some v'∧VR h ρ v v'
 cells:∀x v,σ.lookup x=some v→env.kindOf x≠some .local →
  (env.kindOf x=some .cell∨env.kindOf x=some .free)∧∃c v',env.cells.lookup x=some c∧h.IsCell c (some v')∧VR h ρ v v'
 apart:∀x y c,env.cells.lookup x=some c→env.cells.lookup y=some c→x=y
 locO:env.locals∈O
 off:∀a∈O,a∉ρ∧K.lookup a= .none
 soft:∀a∈O,∃o,h.get? a=some o∧Soft o
 cellOff:∀x c,env.cells.lookup x=some c→c∉ρ∧K.lookup c= .none∧c≠env.locals
 cellLive:∀x c,env.cells.lookup x=some c→∃v,h.IsCell c v
 frame:env.frame=Φ.fr.head?
end
variable {pg:Program}{w:World}{K:Frag}{Φ:Fm}
theorem EnvR.softs {env sc O σ ρ h}(x:EnvR K Φ env sc O σ ρ h):∀b∈O,∀o,h.get? b=some o→Soft o:=fun b hb o e=>by
 obtain⟨o',e',q⟩:=x.soft b hb
 rw[e] at e';obtain rfl:=Option.some.inj e';exact q
theorem EnvR.moves {env sc O σ ρ ρ' h h'}(x:EnvR K Φ env sc O σ ρ h)(m:Moves [] h h' ρ ρ'):EnvR K Φ env sc O σ ρ' h':=by
 have keep:∀a o,h.get? a=some o→a∉ρ→(∃o',h'.get? a=some o'∧Like a o o')∧a∉ρ':=fun a o e n=>⟨m.keep a o e n (by exact List.not_mem_nil),m.ext.not_mem e n⟩
 have cl:∀y c v,env.cells.lookup y=some c→h.IsCell c v→h'.IsCell c v∧c∉ρ':=fun y c v hc ⟨o,ho,hd⟩=>
  let⟨⟨o',e',l⟩,n⟩:=keep c o ho (x.cellOff y c hc).1;⟨⟨o',e',l.data.trans hd⟩,n⟩
 refine⟨x.fn,x.gl,x.bl,x.glob,x.loc,fun y hy=> ?_,x.fre,?_,fun y v hy hk=> ?_,x.apart,x.locO,fun a ha=> ?_,fun a ha=> ?_,fun y c hc=> ?_,fun y c hc=> ?_,x.frame⟩
 ·obtain⟨a,c,v,b,d,e⟩:=x.cel y hy
  exact⟨a,c,v,b,d,(cl y c v b e).1⟩
 ·obtain⟨mm,⟨o,es,ep,ho,r⟩,q⟩:=x.ns
  obtain⟨⟨o',e',l⟩,_⟩:=keep _ _ ho (x.off _ x.locO).1;refine⟨mm,⟨o',es,ep,e',l.data.trans r.1,r.2⟩,fun y v hy hk=> ?_⟩;obtain⟨v',a,b⟩:=q y v hy hk;exact⟨v',a,b.moves m⟩
 ·obtain⟨a,c,v',b,d,e⟩:=x.cells y v hy hk
  exact⟨a,c,v',b,(cl y c _ b d).1,e.moves m⟩
 ·obtain⟨o,ho,_⟩:=x.soft a ha
  exact⟨(keep a o ho (x.off a ha).1).2,(x.off a ha).2⟩
 ·obtain⟨o,ho,hs⟩:=x.soft a ha
  obtain⟨⟨o',e',l⟩,_⟩:=keep a o ho (x.off a ha).1;exact⟨o',e',l.soft hs⟩
 ·obtain⟨n,k,l⟩:=x.cellOff y c hc
  obtain⟨v,hv⟩:=x.cellLive y c hc;exact⟨(cl y c v hc hv).2,k,l⟩
 ·obtain⟨v,hv⟩:=x.cellLive y c hc
  exact⟨v,(cl y c v hc hv).1⟩
theorem CellAt.moves {h h':Heap}{ρ ρ' O a c}(m:Moves O h h' ρ ρ')(e:∀o,h.get? a=some o→h'.get? a=some o)(C:CellAt pg w h ρ a c):CellAt pg w h' ρ' a c:=by
 cases C with
 | lst ho q=>exact .lst (e _ ho) (q.moves m)
 | dct ho q z=>obtain⟨o,es,ho,r⟩:=ho;exact .dct ⟨o,es,e _ ho,r⟩ (q.moves m) z
 | set ho q=>obtain⟨o,es,ep,t,ho,r⟩:=ho;exact .set ⟨o,es,ep,t,e _ ho,r⟩ q
 | uset ho=>obtain⟨nd,o,es,ep,t,ho,a,b,c,d,f,g,i,j⟩:=ho;exact .uset ⟨nd,o,es,ep,t,e _ ho,a,b,c,d,f,g,i,j⟩
 | ns hn q=>exact .ns (hn.at e) fun k=>(q k).moves m
 | inst d ho=>exact .inst (m.ext.get d) (e _ ho)
 | info d ho q=>exact .info (m.ext.get d) (e _ ho) fun j=>(q j).moves m
 | iter a ho=>obtain⟨o,ho,r⟩:=ho;exact .iter (a.moves m) ⟨o,e _ ho,r⟩
 | titer a ho=>obtain⟨o,ho,r⟩:=ho;exact .titer (a.moves m) ⟨o,e _ ho,r⟩
 | riter p ho=>exact .riter p (e _ ho)
 | kiter d ho=>obtain⟨o,ho,r⟩:=ho;exact .kiter (m.ext.get d) ⟨o,e _ ho,r⟩
 | viter d ho=>obtain⟨o,ho,r⟩:=ho;exact .viter (m.ext.get d) ⟨o,e _ ho,r⟩
 | enum d ho=>exact .enum (m.ext.get d) (e _ ho)
 | junk=>exact .junk
theorem zdD {ρ:List Addr}{H:List Cell}(l:ρ.length=H.length){i:Nat}{c:Cell}(e:H[i]? =some c):∃a,ρ[i]? =some a:=by
 have:=(List.getElem?_eq_some_iff.mp e).1;exact⟨ρ[i]'(by exact ltE' ‹_› ‹_›),List.getElem?_eq_some_iff.mpr ⟨by exact ltE' ‹_› ‹_›,rfl⟩⟩
theorem zbC {ρ:List Addr}{i:Nat}{a:Addr}(e:ρ[i]? =some a):a∈ρ:=List.mem_of_getElem? e
theorem ziV {ρ:List Addr}(n:ρ.Nodup){i j:Nat}{a:Addr}(e:ρ[i]? =some a)(f:ρ[j]? =some a):i=j:=by
 obtain⟨hi,ei⟩:=List.getElem?_eq_some_iff.mp e;obtain⟨hj,ej⟩:=List.getElem?_eq_some_iff.mp f;exact(List.getElem_inj n).mp (ei.trans ej.symm)
theorem za4 {ρ ρ':List Addr}{h h':Heap}{O:List Addr}(x:∀L∈Φ.fr,za2 < L∧L∉ρ∧∃o es ep,h.get? L=some o∧o.data= .dict es ep)(m:Moves O h h' ρ ρ')
  (hF:∀L∈Φ.fr,L∈O→∃o es ep,h'.get? L=some o∧o.data= .dict es ep:=by simp):
  ∀L∈Φ.fr,za2 < L∧L∉ρ'∧∃o es ep,h'.get? L=some o∧o.data= .dict es ep:=fun L hL=>by
 obtain⟨a,b,o,es,ep,e,d⟩:=x L hL;refine⟨a,m.ext.not_mem e b,?_⟩
 by_cases z:L∈O
 ·exact hF L hL z
 ·obtain⟨o',e',l⟩:=m.keep L o e b z
  exact⟨o',es,ep,e',l.data.trans d⟩
theorem zi0 {b:Addr}{o o':Obj}(l:Like b o o')(h:b≤za2):o'=o:=by
 rcases l with e | ⟨h',_⟩
 ·exact e
 ·exact absurd h' (Nat.not_lt.mpr h)
theorem Rel.topMoves {ρ ρ' H h h' O}(x:Rel pg w K Φ ρ H h)(m:Moves O h h' ρ ρ')(hO:∀a∈O,K.lookup a= .none):K.In h':=fun a o q=>by
 obtain⟨o',e',l⟩:=m.keep a o (x.top a o q) (fun z=>by rw[x.apart a z] at q;exact nsE q) (fun z=>by rw[hO a z] at q;exact nsE q)
 rw[zi0 l (x.low a o q)] at e';exact e'
theorem Rel.moves {ρ H h h' O}(x:Rel pg w K Φ ρ H h)(m:Moves O h h' ρ ρ)(e:∀a∈ρ,∀o,h.get? a=some o→h'.get? a=some o)(hO:∀a∈O,K.lookup a= .none)
  (hF:∀L∈Φ.fr,L∈O→∃o es ep,h'.get? L=some o∧o.data= .dict es ep:=by simp):Rel pg w K Φ ρ H h':=
 ⟨x.topMoves m hO,x.len,x.nd,
  fun i c a hc ha=>(x.cell i c a hc ha).moves m (e a (zbC ha)),x.apart,fun a ha=>Nat.lt_of_lt_of_le (x.live a ha) m.size,x.low,Nat.lt_of_lt_of_le x.big m.size,za4 x.frames m hF⟩
theorem Rel.turn {ρ H h h' i a c}(x:Rel pg w K Φ ρ H h)(ha:ρ[i]? =some a)(s:Heap.ExtBut a h h')(hz:h.objs.size≤h'.objs.size)
  (hc:Moves [] h h' ρ ρ→CellAt pg w h' ρ a c):Rel pg w K Φ ρ (H.set i c) h'∧Moves [] h h' ρ ρ:=by
 have hm:=zbC ha;have m:Moves [] h h' ρ ρ:=Moves.extBut s hz (.inl hm) (by exact zad);refine⟨⟨x.topMoves m (by exact zad),by simpa using x.len,x.nd,fun j d b hd hb=> ?_,x.apart,fun b hb=>Nat.lt_of_lt_of_le (x.live b hb) hz,x.low,Nat.lt_of_lt_of_le x.big m.size,za4 x.frames m⟩,m⟩
 by_cases hij:i=j
 ·subst hij
  rw[ha] at hb;obtain rfl:=Option.some.inj hb
  rw[List.getElem?_set] at hd
  have:i < H.length:=by have:=(List.getElem?_eq_some_iff.mp ha).1;rw[x.len] at this;exact this
  simp[this] at hd
  subst hd;exact hc m
 ·rw[List.getElem?_set_ne hij] at hd
  refine(x.cell j d b hd hb).moves m fun o ho=>s b o (fun q=> ?_) ho
  subst q;exact hij (ziV x.nd ha hb)
theorem Rel.set {ρ H h h' i a c}(x:Rel pg w K Φ ρ H h)(ha:ρ[i]? =some a)(s:Heap.SameBut a h h')
  (hc:Moves [] h h' ρ ρ→CellAt pg w h' ρ a c):Rel pg w K Φ ρ (H.set i c) h'∧Moves [] h h' ρ ρ:=x.turn ha s.extBut (Nat.le_of_eq s.1.symm) hc
theorem Rel.push {ρ H h h' c}{o:Obj}(x:Rel pg w K Φ ρ H h)(e:h'=h.push o)(hf:o.isFreed=false)
  (hc:Moves [] h h' ρ (ρ++ [h.objs.size])→CellAt pg w h' (ρ++ [h.objs.size]) h.objs.size c):
  Rel pg w K Φ (ρ++ [h.objs.size]) (H++ [c]) h'∧Moves [] h h' ρ (ρ++ [h.objs.size]):=by
 subst e
 have m:Moves [] h (h.push o) ρ (ρ++ [h.objs.size]):=
  ⟨fun _ o' e _ _=>⟨o',Heap.get?_push_of_some o e,.inl rfl⟩,by rw[Heap.size_push];exact Nat.le_succ _,⟨[h.objs.size],rfl,by simp⟩,by exact zad⟩
 have hnm:h.objs.size∉ρ:=fun z=>absurd (x.live _ z) (Nat.lt_irrefl _)
 refine⟨⟨fun b o' q=>Heap.get?_push_of_some o (x.top b o' q),by simp[x.len],?_,fun j d b hd hb=> ?_,fun b hb=> ?_,fun b hb=> ?_,x.low,Nat.lt_of_lt_of_le x.big m.size,za4 x.frames m⟩,m⟩
 ·rw[List.nodup_append]
  exact⟨x.nd,by exact List.nodup_cons.mpr ⟨List.not_mem_nil,List.nodup_nil⟩,fun a ha b hb=>by simp at hb;subst hb;rintro rfl;exact hnm ha⟩
 ·by_cases hj:j < ρ.length
  ·rw[List.getElem?_append_left hj] at hb
   rw[List.getElem?_append_left (by rw[←x.len];exact hj)] at hd
   exact(x.cell j d b hd hb).moves m fun o' q=>Heap.get?_push_of_some o q
  ·have hj':j=ρ.length:=by
    have:=(List.getElem?_eq_some_iff.mp hb).1
    simp at this;lia
   subst hj';rw[List.getElem?_append_right (Nat.le_refl _)] at hb;rw[x.len,List.getElem?_append_right (Nat.le_refl _)] at hd;simp at hb hd;subst hb hd;exact hc m
 ·rcases List.mem_append.mp hb with q | q
  ·exact x.apart b q
  ·simp at q;subst q
   cases z:K.lookup h.objs.size with
   | none=>rfl
   | some o'=>exact absurd (Heap.lt_size (x.top _ _ z)) (Nat.lt_irrefl _)
 ·rw[Heap.size_push]
  rcases List.mem_append.mp hb with q | q
  ·exact Nat.lt_succ_of_lt (x.live b q)
  ·simp at q;subst q;exact Nat.lt_succ_self _
section
variable {pg:Program}{w:World}{h:Heap}{ρ:List Addr}{a:Addr}{C:Prop}{es:List (Str×AV)}
theorem CellAt.lstE {xs}(q:CellAt pg w h ρ a (.lst xs))(k:∀vs n,IsL h a vs.toArray n→VRs h ρ xs vs→C):C:=by cases q with | lst a b=>exact k _ _ a b
theorem CellAt.dctE {ep}(q:CellAt pg w h ρ a (.dct es ep))(k:∀fs e,h.DictAt (strKind pg w) a fs e→ER h ρ es fs→(∀n,ep=some n→n=e)→C):C:=by cases q with | dct a b c=>exact k _ _ a b c
theorem CellAt.setE {xs:List Str}(q:CellAt pg w h ρ a (.set xs))(k:∀n,h.SetOf (strKind pg w) a (fun k=>decide (k∈xs)) n→n≤xs.length→C):C:=by cases q with | set a b=>exact k _ a b
theorem CellAt.ck {zs}(q:CellAt pg w h ρ a (.uset zs))(k:SetT pg w h a zs→C):C:=by cases q with | uset a=>exact k a
theorem CellAt.nsE (q:CellAt pg w h ρ a (.ns es))(k:∀m,h.Ns1 a m→(∀k,OVR h ρ (dget es k) (m k))→C):C:=by cases q with | ns a b=>exact k _ a b
theorem CellAt.bU {B d}(q:CellAt pg w h ρ a (.inst B d))(k:∀dx,ρ[d]? =some dx→h.get? a=some ⟨.ref B,some dx,.plain,#[]⟩→C):C:=by cases q with | inst a b=>exact k _ a b
theorem CellAt.bV {d nd np su}(q:CellAt pg w h ρ a (.info d nd np su))(k:∀dx sl,ρ[d]? =some dx→h.get? a=some ⟨.ref za3,some dx,.plain,sl⟩→(∀j,OVR h ρ (iget nd np su j) (sl[j]?).join)→C):C:=by cases q with | info a b c=>exact k _ _ a b c
theorem CellAt.al {src pos}(q:CellAt pg w h ρ a (.iter src pos))(k:∀l,VR h ρ src (.ref l)→h.IsListIter a l pos→C):C:=by cases q with | iter a b=>exact k _ a b
theorem CellAt.aB {xs pos}(q:CellAt pg w h ρ a (.titer xs pos))(k:∀l,VR h ρ (.tup xs) (.ref l)→h.IsTupleIter a l pos→C):C:=by cases q with | titer a b=>exact k _ a b
theorem CellAt.aD {n pos:Nat}(q:CellAt pg w h ρ a (.riter n pos))(k:pos≤n→IsRangeIter h a pos ((n:Int) - pos) 1→C):C:=by cases q with | riter a b=>exact k a b
theorem CellAt.aE {d n ep pos}(q:CellAt pg w h ρ a (.kiter d n ep pos))(k:∀dx,ρ[d]? =some dx→h.IsKeyIter a dx pos n ep→C):C:=by cases q with | kiter a b=>exact k _ a b
theorem CellAt.az {d n ep pos}(q:CellAt pg w h ρ a (.viter d n ep pos))(k:∀dx,ρ[d]? =some dx→h.IsValIter a dx pos n ep→C):C:=by cases q with | viter a b=>exact k _ a b
theorem CellAt.bb {it pos}(q:CellAt pg w h ρ a (.enum it pos))(k:∀ix old,ρ[it]? =some ix→IsEnum h a ix (pos:Nat) old→C):C:=by cases q with | enum a b=>exact k _ _ a b
end
end Mine
end
section
namespace Mine
section
variable (pg:Program)(w:World)(K:Frag)(Φ:Fm)
structure St (env:Env)(sc:Scope)(O:List Addr)(σ:List (Str×AV))(H:List Cell)(ρ:List Addr)(s:Shared):Prop where
 rel:Rel pg w K Φ ρ H s.heap
 env:EnvR K Φ env sc O σ ρ s.heap
 gens:s.gens= #[]
inductive PV (env:Env)(sc:Scope)(O:List Addr)(s:Shared)(ρ:List Addr)(σ':List (Str×AV))(H':List Cell)(v:AV)(v':Value)(s':Shared):Prop
 | mk (ρ':List Addr) (m:Moves O s.heap s'.heap ρ ρ') (x:St pg w K Φ env sc O σ' H' ρ' s') (q:VR s'.heap ρ' v v') (o:s'.os=s.os):PV env sc O s ρ σ' H' v v' s'
inductive PU (env:Env)(sc:Scope)(O:List Addr)(s:Shared)(ρ:List Addr)(σ':List (Str×AV))(H':List Cell)(s':Shared):Prop
 | mk (ρ':List Addr) (m:Moves O s.heap s'.heap ρ ρ') (x:St pg w K Φ env sc O σ' H' ρ' s') (o:s'.os=s.os):PU env sc O s ρ σ' H' s'
inductive PO (s:Shared)(ρ:List Addr)(H':List Cell)(v:AV)(v':Value)(s':Shared):Prop
 | mk (ρ':List Addr) (m:Moves [] s.heap s'.heap ρ ρ') (r:Rel pg w K Φ ρ' H' s'.heap) (g:s'.gens= #[]) (q:VR s'.heap ρ' v v') (o:s'.os=s.os):PO s ρ H' v v' s'
inductive POU (s:Shared)(ρ:List Addr)(H':List Cell)(s':Shared):Prop
 | mk (ρ':List Addr) (m:Moves [] s.heap s'.heap ρ ρ') (r:Rel pg w K Φ ρ' H' s'.heap) (g:s'.gens= #[]) (o:s'.os=s.os):POU s ρ H' s'
noncomputable def FrOk (Φ:Fm)(l:List Env):Prop:=l.map (·.frame)=Φ.fr.map Option.some∧∀e∈l,e.scope.kind≠ .module
noncomputable def OkC (Φ:Fm)(d:Nat)(A:Around):Prop:=(Φ.calm=Bool.true→A.handled= .none)∧A.depth+4 * d < recursionLimit∧A.units+40 * d < cLine∧∃l,A.frames=some l∧FrOk Φ l
noncomputable def zmb (env:Env):Prop:=env.scope.isGenerator=false∧env.scope.isCoroutine=false∧env.builtins=builtinsNs∧env.globals=mainGlobals
noncomputable def OkA (Φ:Fm)(d:Nat)(A:Around):Prop:=OkC Φ d A∧∃env l,A.frames=some (env::l)∧zmb env
structure TopOk (g b:Str→Option Value):Prop where
 glob:∀h:Heap,K.In h→h.Ns mainGlobals g
 bltn:∀h:Heap,K.In h→h.Ns builtinsNs b
 stat:∀h:Heap,K.In h→h.NoLimit
 seer:∀h:Heap,K.In h→h.NoSeer
 mods:K.lookup sysModules≠ .none
inductive AFlow where
 | next | brk | cont | ret (v:AV)
noncomputable def FR (h:Heap)(ρ:List Addr):AFlow→Flow→Prop
 | .next,.next=>True
 | .brk,.brk=>True
 | .cont,.cont=>True
 | .ret x,.ret v=>VR h ρ x v
 | _,_=>False
inductive PF (env:Env)(sc:Scope)(O:List Addr)(s:Shared)(ρ:List Addr)(σ':List (Str×AV))(H':List Cell)(f:AFlow)(f':Flow)(s':Shared):Prop
 | mk (ρ':List Addr) (m:Moves O s.heap s'.heap ρ ρ') (x:St pg w K Φ env sc O σ' H' ρ' s') (q:FR s'.heap ρ' f f') (o:s'.os=s.os):PF env sc O s ρ σ' H' f f' s'
inductive PL (env:Env)(sc:Scope)(O:List Addr)(s:Shared)(ρ:List Addr)(σ':List (Str×AV))(H':List Cell)(vs:List AV)(vs':List Value)(s':Shared):Prop
 | mk (ρ':List Addr) (m:Moves O s.heap s'.heap ρ ρ') (x:St pg w K Φ env sc O σ' H' ρ' s') (q:VRs s'.heap ρ' vs vs') (o:s'.os=s.os):PL env sc O s ρ σ' H' vs vs' s'
structure SE (d:Nat)(sc:Scope)(e:Expr)(σ:List (Str×AV))(H:List Cell)(v:AV)(σ':List (Str×AV))(H':List Cell):Prop where
 go:∀env O ρ s A,OkA Φ d A→St pg w K Φ env sc O σ H ρ s→wpAny (model pg w) A (eval e env) (PV pg w K Φ env sc O s ρ σ' H' v) (fun _ _=>False) s
structure ST (d:Nat)(sc:Scope)(e:Expr)(σ:List (Str×AV))(H:List Cell)(b:Bool)(σ':List (Str×AV))(H':List Cell):Prop where
 go:∀env O ρ s A,OkA Φ d A→St pg w K Φ env sc O σ H ρ s→wpAny (model pg w) A (isTrue e env (eval e env)) (fun b' s'=>b'=b∧PU pg w K Φ env sc O s ρ σ' H' s') (fun _ _=>False) s
structure SS (d:Nat)(sc:Scope)(c:Stmt)(σ:List (Str×AV))(H:List Cell)(f:AFlow)(σ':List (Str×AV))(H':List Cell):Prop where
 go:∀env O ρ s A,OkA Φ d A→St pg w K Φ env sc O σ H ρ s→wpAny (model pg w) A (exec c env)
  (PF pg w K Φ env sc O s ρ σ' H' f) (fun _ _=>False) s
structure SSs (d:Nat)(sc:Scope)(cs:List Stmt)(σ:List (Str×AV))(H:List Cell)(f:AFlow)(σ':List (Str×AV))(H':List Cell):Prop where
 go:∀env O ρ s A,OkA Φ d A→St pg w K Φ env sc O σ H ρ s→wpAny (model pg w) A (execs cs env)
  (PF pg w K Φ env sc O s ρ σ' H' f) (fun _ _=>False) s
structure SL (d:Nat)(sc:Scope)(es:List Expr)(σ:List (Str×AV))(H:List Cell)(vs:List AV)(σ':List (Str×AV))(H':List Cell):Prop where
 go:∀env O ρ s A pos,OkA Φ d A→St pg w K Φ env sc O σ H ρ s→wpAny (model pg w) A (spliced (backTo pos (starEach es env)))
  (PL pg w K Φ env sc O s ρ σ' H' vs) (fun _ _=>False) s
noncomputable def SC (d:Nat)(f:Value)(xs:List AV)(H:List Cell)(v:AV)(H':List Cell):Prop:=
 ∀ρ s A vs,OkA Φ d A→Rel pg w K Φ ρ H s.heap→s.gens= #[]→VRs s.heap ρ xs vs→wpAny (model pg w) A (call f vs) (PO pg w K Φ s ρ H' v) (fun _ _=>False) s
end
variable {pg:Program}{w:World}{K:Frag}{Φ:Fm}{d:Nat}{sc:Scope}{σ σ' σ1 cp:List (Str×AV)}{H H' cn cq:List Cell}{v v1 v2:AV}{A:Around}{s s':Shared}
 {env:Env} {O ρ ρ':List Addr} {E:Value→Shared→Prop}
theorem OkA.handled (x:OkA Φ d A)(hc:Φ.calm=Bool.true):A.handled= .none:=x.1.1 hc
theorem OkA.depth (x:OkA Φ d A):A.depth+4 * d < recursionLimit:=x.1.2.1
theorem OkA.units (x:OkA Φ d A):A.units+40 * d < cLine:=x.1.2.2.1
theorem St.tok (x:St pg w K Φ env sc O σ H ρ s)(t:Nat):St pg w K Φ env sc O σ H ρ {s with toks:=t} :=⟨x.rel,x.env,x.gens⟩
theorem St.refl (x:St pg w K Φ env sc O σ H ρ s):Moves O s.heap s.heap ρ ρ:=Moves.refl x.env.softs
theorem PV.here (x:St pg w K Φ env sc O σ H ρ s){v':Value}(h:VR s.heap ρ v v'){t:Nat} :PV pg w K Φ env sc O s ρ σ H v v' {s with toks:=t} :=
 ⟨ρ,x.refl,x.tok t,h,rfl⟩
theorem PV.here' (x:St pg w K Φ env sc O σ H ρ s){v':Value}(h:VR s.heap ρ v v'):PV pg w K Φ env sc O s ρ σ H v v' s:=
 ⟨ρ,x.refl,x,h,rfl⟩
theorem PO.here (x:Rel pg w K Φ ρ H s.heap)(g:s.gens= #[]){v':Value}(h:VR s.heap ρ v v'){t:Nat} :PO pg w K Φ s ρ H v v' {s with toks:=t} :=
 ⟨ρ,Moves.refl (by exact zad),x,g,h,rfl⟩
theorem PO.here' (x:Rel pg w K Φ ρ H s.heap)(g:s.gens= #[]){v':Value}(h:VR s.heap ρ v v'):PO pg w K Φ s ρ H v v' s:=
 ⟨ρ,Moves.refl (by exact zad),x,g,h,rfl⟩
theorem PO.inFrame (x:St pg w K Φ env sc O σ H ρ s){v':Value}(h:PO pg w K Φ s ρ H' v v' s'):PV pg w K Φ env sc O s ρ σ H' v v' s':=by
 obtain⟨ρ',m,r,g,q,o⟩:=h;exact⟨ρ',m.wider (by exact zad) x.env.softs,⟨r,x.env.moves m,g⟩,q,o⟩
theorem POU.inFrame (x:St pg w K Φ env sc O σ H ρ s)(h:POU pg w K Φ s ρ H' s'):PU pg w K Φ env sc O s ρ σ H' s':=by
 obtain⟨ρ',m,r,g,o⟩:=h;exact⟨ρ',m.wider (by exact zad) x.env.softs,⟨r,x.env.moves m,g⟩,o⟩
theorem PV.then {cm:Shared}(m:Moves O s.heap cm.heap ρ ρ')(o:cm.os=s.os){v':Value}(h:PV pg w K Φ env sc O cm ρ' σ' H' v v' s'):PV pg w K Φ env sc O s ρ σ' H' v v' s':=by
 obtain⟨ρ2,m',x,q,o'⟩:=h;exact⟨ρ2,m.trans m',x,q,o'.trans o⟩
theorem PU.then {cm:Shared}(m:Moves O s.heap cm.heap ρ ρ')(o:cm.os=s.os)(h:PU pg w K Φ env sc O cm ρ' σ' H' s'):PU pg w K Φ env sc O s ρ σ' H' s':=by
 obtain⟨ρ2,m',x,o'⟩:=h;exact⟨ρ2,m.trans m',x,o'.trans o⟩
theorem zac {α:Type}{t:Sem α}{Q Q':α→Shared→Prop}(h:wpAny (model pg w) A t Q (fun _ _=>False) s)(hQ:∀a s,Q a s→Q' a s):wpAny (model pg w) A t Q' E s:=
 wpAny_mono h hQ fun _ _ x=>x.elim
theorem SE.int {i k pos} :SE pg w K Φ d sc (.Constant (.int i) k pos) σ H (.int i) σ H:=.mk fun _ _ _ _ _ _ x=>wpAny_Constant_int (PV.here x .int)
theorem SE.str {i k pos} :SE pg w K Φ d sc (.Constant (.str i) k pos) σ H (.str i) σ H:=.mk fun _ _ _ _ _ _ x=>wpAny_Constant_str (PV.here x .str)
theorem SE.none {k pos} :SE pg w K Φ d sc (.Constant .none k pos) σ H .none σ H:=.mk fun _ _ _ _ _ _ x=>wpAny_Constant_none (PV.here' x .none)
theorem SE.bool {b k pos} :SE pg w K Φ d sc (.Constant (.bool b) k pos) σ H (.bool b) σ H:=.mk fun _ _ _ _ _ _ x=>wpAny_Constant_bool (PV.here' x .bool)
noncomputable def zdw (x:Str):Prop:=(x==("__debug__" :Str))=false∧(x==("__classdict__" :Str))=false
theorem SE.name {x:Str}{pos:Pos}(hn:zdw x)(e:σ.lookup x=some v):SE pg w K Φ d sc (.Name x pos) σ H v σ H:=.mk fun env O ρ s A _ x'=>by
 refine wpAny_Name ?_ hn.1
 by_cases hk:env.kindOf x=some .local
 ·obtain⟨m,hm,q⟩:=x'.env.ns
  obtain⟨v',a,b⟩:=q x v e hk;exact wpAny_loadName_local x'.env.fn hk hm a (PV.here' x' b)
 ·obtain⟨hk',c,v',a,b,q⟩:=x'.env.cells x v e hk
  rcases hk' with z | z
  ·exact wpAny_loadName_cell x'.env.fn z a b (PV.here' x' q)
  ·exact wpAny_loadName_free x'.env.fn z a b (PV.here' x' q) hn.2
theorem SE.glob {x:Str}{pos:Pos}{g b:Str→Option Value}{u:Value}(T:TopOk K g b)(hn:zdw x)(k:sc.names.lookup x=some .globalImplicit)(e:g x=some u):
  SE pg w K Φ d sc (.Name x pos) σ H (.cst u) σ H:=.mk fun env O ρ s A _ x'=>by
 refine wpAny_Name ?_ hn.1;rw[PyProof.Rows.loadName_read x'.env.fn (x'.env.glob x k)];unfold loadGlobal;rw[x'.env.gl];refine wpAny_bind (wpAny_nsGet (T.glob _ x'.rel.top) ?_);rw[e];exact wpAny_pure (PV.here' x' .cst)
theorem SE.bltn {x:Str}{pos:Pos}{g b:Str→Option Value}{u:Value}(T:TopOk K g b)(hn:zdw x)(k:sc.names.lookup x=some .globalImplicit)(e:g x= .none)(f:b x=some u):
  SE pg w K Φ d sc (.Name x pos) σ H (.cst u) σ H:=.mk fun env O ρ s A _ x'=>by
 refine wpAny_Name ?_ hn.1;rw[PyProof.Rows.loadName_read x'.env.fn (x'.env.glob x k)];unfold loadGlobal;rw[x'.env.gl,x'.env.bl];refine wpAny_bind (wpAny_nsGet (T.glob _ x'.rel.top) ?_);rw[e];refine wpAny_bind (wpAny_nsGet (T.bltn _ x'.rel.top) ?_);rw[f];exact wpAny_pure (PV.here' x' .cst)
end Mine
end
namespace Mine
section
variable {pg:Program}{w:World}{K:Frag}{Φ:Fm}{d:Nat}{sc:Scope}{σ σ' σ1 cp σ3:List (Str×AV)}{H H' cn cq cy:List Cell}{v v1 v2:AV}{A:Around}{s s':Shared}
 {env:Env} {O ρ ρ':List Addr} {E:Value→Shared→Prop}
inductive Upd:List (Str×AV)→Str→AV→List (Str×AV)→Prop
 | nil {x v} :Upd [] x v [(x,v)]
 | here {x v u r} :Upd ((x,u)::r) x v ((x,v)::r)
 | there {x y v u r r'} :(x==y)=false→Upd r x v r'→Upd ((y,u)::r) x v ((y,u)::r')
theorem Upd.lookup {σ x v σ'}(q:Upd σ x v σ'):∀y,σ'.lookup y=if y=x then some v else σ.lookup y:=by
 induction q with
 | @nil x _=>intro y;simp only[List.lookup_cons,List.lookup_nil];(by_cases h:y=x);(· simp[h]);(· simp[h,beq_eq_false_iff_ne.mpr h])
 | @here x _ _ _=>intro y;simp only[List.lookup_cons];(by_cases h:y=x);(· simp[h]);(· simp[h,beq_eq_false_iff_ne.mpr h])
 | @there x z v u r r' h _ ih=>
  intro y;have ih:=ih y;simp only[List.lookup_cons]
  cases q:y==z with
  | true=>
   have:y=z:=beq_iff_eq.mp q;subst this;rw[if_neg]
   rintro rfl
   simp at h
  | false=>exact ih
theorem EnvR.weaken {h}(x:EnvR K Φ env sc O σ ρ h)(q:∀y v,σ'.lookup y=some v→σ.lookup y=some v):EnvR K Φ env sc O σ' ρ h:=
 ⟨x.fn,x.gl,x.bl,x.glob,x.loc,x.cel,x.fre,let⟨m,a,b⟩:=x.ns;⟨m,a,fun y v e=>b y v (q y v e)⟩,fun y v e=>x.cells y v (q y v e),x.apart,x.locO,x.off,x.soft,x.cellOff,x.cellLive,x.frame⟩
theorem St.weaken (x:St pg w K Φ env sc O σ H ρ s)(q:∀y v,σ'.lookup y=some v→σ.lookup y=some v):St pg w K Φ env sc O σ' H ρ s:=⟨x.rel,x.env.weaken q,x.gens⟩
theorem zcv {h:Heap}{a m}(hn:h.Ns a m):∃o,h.get? a=some o∧Soft o:=let⟨o,es,ep,ho,hd,_⟩:=hn;⟨o,ho,.inl ⟨es,ep,hd⟩⟩
theorem zci {h:Heap}{a v}(hn:h.IsCell a v):∃o,h.get? a=some o∧Soft o:=let⟨o,ho,hd⟩:=hn;⟨o,ho,.inr (.inl ⟨v,hd⟩)⟩
theorem EnvR.storeLocal {h h'}{x:Str}{v':Value}{m:Str→Option Value}(X:EnvR K Φ env sc O σ ρ h)(hk:env.kindOf x=some .local)(U:Upd σ x v σ')
  (hm:∀y u,σ.lookup y=some u→env.kindOf y=some .local→∃u',m y=some u'∧VR h ρ u u')
  (hn:h'.Ns env.locals (fun y=>if y=x then some v' else m y)) (hs:Heap.SameBut env.locals h h') (hv:VR h ρ v v'):
  Moves O h h' ρ ρ∧EnvR K Φ env sc O σ' ρ h':=by
 have mv:Moves O h h' ρ ρ:=Moves.but hs (.inr X.locO) X.softs
 have cl:∀y c v,env.cells.lookup y=some c→h.IsCell c v→h'.IsCell c v:=fun y c v hc q=>q.sameBut hs (X.cellOff y c hc).2.2
 refine⟨mv,X.fn,X.gl,X.bl,X.glob,X.loc,fun y hy=> ?_,X.fre,⟨_,hn,fun y u hy hk'=> ?_⟩,fun y u hy hk'=> ?_,X.apart,X.locO,X.off,fun a ha=> ?_,X.cellOff,fun y c hc=> ?_,X.frame⟩
 ·obtain⟨a,c,u,b,e,f⟩:=X.cel y hy
  exact⟨a,c,u,b,e,cl y c u b f⟩
 ·rw[U.lookup] at hy
  by_cases hxy:y=x
  ·rw[if_pos hxy] at hy ⊢;obtain rfl:=Option.some.inj hy;exact⟨_,rfl,hv.moves mv⟩
  ·rw[if_neg hxy] at hy ⊢
   obtain⟨u',a,b⟩:=hm y u hy hk';exact⟨u',a,b.moves mv⟩
 ·rw[U.lookup] at hy
  by_cases hxy:y=x
  ·subst hxy;exact absurd hk hk'
  ·rw[if_neg hxy] at hy
   obtain⟨a,c,u',b,e,f⟩:=X.cells y u hy hk';exact⟨a,c,u',b,cl y c _ b e,f.moves mv⟩
 ·by_cases e:a=env.locals
  ·subst e;exact zcv hn
  ·obtain⟨o,ho,q⟩:=X.soft a ha
   exact⟨o,(hs.2 a e).trans ho,q⟩
 ·obtain⟨u,q⟩:=X.cellLive y c hc
  exact⟨u,cl y c u hc q⟩
theorem EnvR.storeCell {h h'}{x:Str}{c:Addr}{v':Value}(X:EnvR K Φ env sc O σ ρ h)(hk:env.kindOf x=some .cell)(hc:env.cells.lookup x=some c)(hO:c∈O)(U:Upd σ x v σ')
  (hn:h'.IsCell c (some v')) (hs:Heap.SameBut c h h') (hv:VR h ρ v v'):
  Moves O h h' ρ ρ∧EnvR K Φ env sc O σ' ρ h':=by
 have mv:Moves O h h' ρ ρ:=Moves.but hs (.inr hO) X.softs
 have cl:∀y cO u,env.cells.lookup y=some cO→h.IsCell cO u→∃u',h'.IsCell cO u'∧(y≠x→u'=u):=fun y cO u hy q=>by
  by_cases e:cO=c
  ·subst e
   exact⟨_,hn,fun z=>absurd (X.apart y x _ hy hc) z⟩
  ·exact⟨u,q.sameBut hs e,fun _=>rfl⟩
 have hl:env.locals≠c:=fun e=>(X.cellOff x c hc).2.2 e.symm
 refine⟨mv,X.fn,X.gl,X.bl,X.glob,X.loc,fun y hy=> ?_,X.fre,?_,fun y u hy hk'=> ?_,X.apart,X.locO,X.off,fun a ha=> ?_,X.cellOff,fun y cO hy=> ?_,X.frame⟩
 ·obtain⟨a,cO,u,b,e,f⟩:=X.cel y hy
  obtain⟨u',f',_⟩:=cl y cO u b f;exact⟨a,cO,u',b,e,f'⟩
 ·obtain⟨m,a,b⟩:=X.ns
  refine⟨m,a.sameBut hs hl,fun y u hy hk'=> ?_⟩;rw[U.lookup] at hy
  by_cases hxy:y=x
  ·subst hxy;rw[hk] at hk';cases hk'
  ·rw[if_neg hxy] at hy
   obtain⟨u',e,f⟩:=b y u hy hk';exact⟨u',e,f.moves mv⟩
 ·rw[U.lookup] at hy
  by_cases hxy:y=x
  ·subst hxy
   rw[if_pos rfl] at hy;obtain rfl:=Option.some.inj hy
   exact⟨.inl hk,c,v',hc,hn,hv.moves mv⟩
  ·rw[if_neg hxy] at hy
   obtain⟨a,cO,u',b,e,f⟩:=X.cells y u hy hk';obtain⟨u'',e',q⟩:=cl y cO _ b e;rw[q hxy] at e';exact⟨a,cO,u',b,e',f.moves mv⟩
 ·by_cases e:a=c
  ·subst e;exact zci hn
  ·obtain⟨o,ho,q⟩:=X.soft a ha
   exact⟨o,(hs.2 a e).trans ho,q⟩
 ·obtain⟨u,q⟩:=X.cellLive y cO hy
  obtain⟨u',q',_⟩:=cl y cO u hy q;exact⟨u',q'⟩
noncomputable def ziH (sc:Scope)(x:Str):Prop:=sc.names.lookup x=some .local∨sc.names.lookup x=some .cell
theorem zk3 (x:St pg w K Φ env sc O σ H ρ s){h':Heap}(m:Moves O s.heap h' ρ ρ)(a:Addr)(ha:a∈O)(hs:Heap.SameBut a s.heap h')(hd:a∈Φ.fr→∃o es ep,h'.get? a=some o∧o.data= .dict es ep):Rel pg w K Φ ρ H h':=
 x.rel.moves m (fun b hb o q=>(hs.2 b fun e=>(x.env.off a ha).1 (e▸hb)).trans q) (fun b hb=>(x.env.off b hb).2) fun L hL _=>by
  by_cases e:L=a
  ·subst e;exact hd hL
  ·obtain⟨_,_,o,es,ep,ho,d⟩:=x.rel.frames L hL
   exact⟨o,es,ep,(hs.2 L e).trans ho,d⟩
theorem zcu {x:Str}{v':Value}(X:St pg w K Φ env sc O σ H ρ s)(hx:ziH sc x)(U:Upd σ x v σ')(hv:VR s.heap ρ v v'):
  wpAny (model pg w) A (storeName env x v') (fun _ s'=>PU pg w K Φ env sc O s ρ σ' H s') E s:=by
 rcases hx with hx | hx
 ·have hk:=X.env.loc x hx
  obtain⟨m,hm,q⟩:=X.env.ns;refine wpAny_storeName_local hk hm (fun h' hn hs=> ?_) (by rw[X.env.fn];rfl);obtain⟨mv,e⟩:=X.env.storeLocal hk U q hn hs hv;exact⟨ρ,mv,⟨zk3 X mv _ X.env.locO hs (fun _=>let⟨o,es,ep,ho,d,_⟩:=hn;⟨o,es,ep,ho,d⟩),e,X.gens⟩,rfl⟩
 ·obtain⟨hk,c,u,hc,hO,hi⟩:=X.env.cel x hx
  refine wpAny_storeName_cell X.env.fn hk hc hi (fun h' hn hs=> ?_);obtain⟨mv,e⟩:=X.env.storeCell hk hc hO U hn hs hv;exact⟨ρ,mv,⟨zk3 X mv _ hO hs (fun z=>by obtain⟨_,_,o,es,ep,ho,d⟩:=X.rel.frames c z;obtain⟨o',ho',d'⟩:=hi;rw[ho] at ho';obtain rfl:=Option.some.inj ho';rw[d] at d';cases d'),e,X.gens⟩,rfl⟩
end
end Mine
section
namespace Mine
section
variable (pg:Program)(w:World)(K:Frag)(Φ:Fm)
noncomputable def SB (d:Nat)(op:Operator)(x y:AV)(H:List Cell)(v:AV)(H':List Cell):Prop:=
 ∀ρ s A a b,OkA Φ d A→Rel pg w K Φ ρ H s.heap→s.gens= #[]→VR s.heap ρ x a→VR s.heap ρ y b→wpAny (model pg w) A (binaryOp op a b) (PO pg w K Φ s ρ H' v) (fun _ _=>False) s
noncomputable def SI (d:Nat)(op:Operator)(x y:AV)(H:List Cell)(v:AV)(H':List Cell):Prop:=
 ∀ρ s A a b,OkA Φ d A→Rel pg w K Φ ρ H s.heap→s.gens= #[]→VR s.heap ρ x a→VR s.heap ρ y b→wpAny (model pg w) A (inplaceOp op a b) (PO pg w K Φ s ρ H' v) (fun _ _=>False) s
noncomputable def SCmp (d:Nat)(op:CmpOp)(x y:AV)(H:List Cell)(b:Bool)(H':List Cell):Prop:=
 ∀ρ s A a c,OkA Φ d A→Rel pg w K Φ ρ H s.heap→s.gens= #[]→VR s.heap ρ x a→VR s.heap ρ y c→wpAny (model pg w) A (compareOp op a c) (PO pg w K Φ s ρ H' (.bool b)) (fun _ _=>False) s
noncomputable def STr (d:Nat)(x:AV)(H:List Cell)(b:Bool)(H':List Cell):Prop:=
 ∀ρ s A a,OkA Φ d A→Rel pg w K Φ ρ H s.heap→s.gens= #[]→VR s.heap ρ x a→wpAny (model pg w) A (truthy a) (fun b' s'=>b'=b∧POU pg w K Φ s ρ H' s') (fun _ _=>False) s
structure SA (d:Nat)(sc:Scope)(t:Expr)(x:AV)(σ:List (Str×AV))(H:List Cell)(σ':List (Str×AV))(H':List Cell):Prop where
 go:∀env O ρ s A a,OkA Φ d A→St pg w K Φ env sc O σ H ρ s→VR s.heap ρ x a→wpAny (model pg w) A (assign t env a) (fun _ s'=>PU pg w K Φ env sc O s ρ σ' H' s') (fun _ _=>False) s
end
variable {pg:Program}{w:World}{K:Frag}{Φ:Fm}{d:Nat}{sc:Scope}{σ σ' σ1 cp σ3:List (Str×AV)}{H H' cn cq cy:List Cell}{v v1 v2 x y:AV}{A:Around}{s s':Shared}
 {env:Env} {O ρ ρ':List Addr} {E:Value→Shared→Prop} {e cz cG l r:Expr} {pos:Pos} {b cI cK:Bool}
theorem SE.into {Q:Value→Shared→Prop}(a:SE pg w K Φ d sc e σ H v σ' H')(ok:OkA Φ d A)(X:St pg w K Φ env sc O σ H ρ s)(k:∀v' cm ρ1,Moves O s.heap cm.heap ρ ρ1→St pg w K Φ env sc O σ' H' ρ1 cm→VR cm.heap ρ1 v v'→cm.os=s.os→Q v' cm):wpAny (model pg w) A (eval e env) Q E s:=
 zac (a.1 env O ρ s A ok X) fun v' cm ⟨ρ1,m,X1,q,o⟩=>k v' cm ρ1 m X1 q o
theorem ST.into {Q:Bool→Shared→Prop}(a:ST pg w K Φ d sc e σ H b σ' H')(ok:OkA Φ d A)(X:St pg w K Φ env sc O σ H ρ s)(k:∀b' cm,b'=b→∀ρ1,Moves O s.heap cm.heap ρ ρ1→St pg w K Φ env sc O σ' H' ρ1 cm→cm.os=s.os→Q b' cm):wpAny (model pg w) A (isTrue e env (eval e env)) Q E s:=
 zac (a.1 env O ρ s A ok X) fun v' cm ⟨q,ρ1,m,X1,o⟩=>k v' cm q ρ1 m X1 o
theorem SS.into {Q:Flow→Shared→Prop}{c:Stmt}{f:AFlow}(a:SS pg w K Φ d sc c σ H f σ' H')(ok:OkA Φ d A)(X:St pg w K Φ env sc O σ H ρ s)(k:∀v' cm ρ1,Moves O s.heap cm.heap ρ ρ1→St pg w K Φ env sc O σ' H' ρ1 cm→FR cm.heap ρ1 f v'→cm.os=s.os→Q v' cm):wpAny (model pg w) A (exec c env) Q E s:=
 zac (a.1 env O ρ s A ok X) fun v' cm ⟨ρ1,m,X1,q,o⟩=>k v' cm ρ1 m X1 q o
theorem SSs.into {Q:Flow→Shared→Prop}{c:List Stmt}{f:AFlow}(a:SSs pg w K Φ d sc c σ H f σ' H')(ok:OkA Φ d A)(X:St pg w K Φ env sc O σ H ρ s)(k:∀v' cm ρ1,Moves O s.heap cm.heap ρ ρ1→St pg w K Φ env sc O σ' H' ρ1 cm→FR cm.heap ρ1 f v'→cm.os=s.os→Q v' cm):wpAny (model pg w) A (execs c env) Q E s:=
 zac (a.1 env O ρ s A ok X) fun v' cm ⟨ρ1,m,X1,q,o⟩=>k v' cm ρ1 m X1 q o
theorem SL.into {Q:List Value→Shared→Prop}{es:List Expr}{vs:List AV}(a:SL pg w K Φ d sc es σ H vs σ' H')(pos:Pos)(ok:OkA Φ d A)(X:St pg w K Φ env sc O σ H ρ s)(k:∀v' cm ρ1,Moves O s.heap cm.heap ρ ρ1→St pg w K Φ env sc O σ' H' ρ1 cm→VRs cm.heap ρ1 vs v'→cm.os=s.os→Q v' cm):wpAny (model pg w) A (spliced (backTo pos (starEach es env))) Q E s:=
 zac (a.1 env O ρ s A pos ok X) fun v' cm ⟨ρ1,m,X1,q,o⟩=>k v' cm ρ1 m X1 q o
theorem SA.into {Q:Unit→Shared→Prop}(c:SA pg w K Φ d sc e x σ H σ' H')(a:Value)(ok:OkA Φ d A)(X:St pg w K Φ env sc O σ H ρ s)(q:VR s.heap ρ x a)(k:∀v' cm ρ1,Moves O s.heap cm.heap ρ ρ1→St pg w K Φ env sc O σ' H' ρ1 cm→cm.os=s.os→Q v' cm):wpAny (model pg w) A (assign e env a) Q E s:=
 zac (c.1 env O ρ s A a ok X q) fun v' cm ⟨ρ1,m,X1,o⟩=>k v' cm ρ1 m X1 o
theorem SL.nil:SL pg w K Φ d sc [] σ H [] σ H:=.mk fun env O ρ s A pos _ X=>wpAny_items_nil ⟨ρ,X.refl,X,.nil,rfl⟩
set_option backward.match.sparseCases false in
noncomputable def zoG:Expr→Bool
 | .Starred _ _=>true
 | _=>false
theorem star_cons {e:Expr}{es:List Expr}(h:zoG e=false)(env:Env):starEach (e::es) env=(false,eval e env)::starEach es env:=by cases e<;>first | rfl | exact tfE h
theorem SL.cons {es:List Expr}{vs:List AV}(a:SE pg w K Φ d sc e σ H v σ1 cn)(b:SL pg w K Φ d sc es σ1 cn vs cp cq)
  (he:∀env,starEach (e::es) env=(false,eval e env)::starEach es env:=by exact Mine.star_cons rfl):SL pg w K Φ d sc (e::es) σ H (v::vs) cp cq:=.mk fun env O ρ s A pos ok X=>by
 refine wpAny_items_cons (a.into ok X fun v' cm ρ1 m X1 q o=> ?_) (he env)
 refine b.into pos ok X1 fun vs' ct ρ2 m' X2 qs o'=> ?_
 exact⟨ρ2,m.trans m',X2,.cons (q.moves m') qs,o'.trans o⟩
theorem SE.bin {op:Operator}(a:SE pg w K Φ d sc l σ H x σ1 cn)(b:SE pg w K Φ d sc r σ1 cn y cp cq)(c:SB pg w K Φ d op x y cq v cy):
  SE pg w K Φ d sc (.BinOp l op r pos) σ H v cp cy:=.mk fun env O ρ s A ok X=>by
 refine wpAny_BinOp (a.into ok X fun a' cm ρ1 m X1 q o=> ?_)
 refine b.into ok X1 fun b' ct ρ2 m' X2 q' o'=> ?_
 exact zac (c ρ2 ct A a' b' ok X2.rel X2.gens (q.moves m') q') fun v' cA h=>((h.inFrame X2).then m' o').then m o
theorem SE.cmp {op:CmpOp}(a:SE pg w K Φ d sc l σ H x σ1 cn)(b:SE pg w K Φ d sc r σ1 cn y cp cq)(c:SCmp pg w K Φ d op x y cq cI cy)
  (hm:behindInMarks op r=false:=by with_unfolding_all rfl):SE pg w K Φ d sc (.Compare l [op] [r] pos) σ H (.bool cI) cp cy:=.mk fun env O ρ s A ok X=>by
 refine wpAny_Compare1 (a.into ok X fun a' cm ρ1 m X1 q o=> ?_) hm
 refine b.into ok X1 fun b' ct ρ2 m' X2 q' o'=> ?_
 exact zac (c ρ2 ct A a' b' ok X2.rel X2.gens (q.moves m') q') fun v' cA h=>((h.inFrame X2).then m' o').then m o
theorem ST.cmp {op:CmpOp}(a:SE pg w K Φ d sc l σ H x σ1 cn)(b:SE pg w K Φ d sc r σ1 cn y cp cq)(c:SCmp pg w K Φ d op x y cq cI cy)
  (hm:behindInMarks op r=false:=by with_unfolding_all rfl):ST pg w K Φ d sc (.Compare l [op] [r] pos) σ H cI cp cy:=.mk fun env O ρ s A ok X=>by
 refine wpAny_isTrue_Compare1 (a.into ok X fun a' cm ρ1 m X1 q o=> ?_) hm
 refine b.into ok X1 fun b' ct ρ2 m' X2 q' o'=> ?_
 refine zac (c ρ2 ct A a' b' ok X2.rel X2.gens (q.moves m') q') fun v' cA h=> ?_
 obtain⟨ρ3,m3,dW,dL,cS,cJ⟩:=h;cases cS;exact wpAny_truthy_bool ⟨rfl,((POU.inFrame X2 ⟨ρ3,m3,dW,dL,cJ⟩).then m' o').then m o⟩
theorem ST.not (a:ST pg w K Φ d sc e σ H b σ1 cn):ST pg w K Φ d sc (.UnaryOp .Not e pos) σ H (!b) σ1 cn:=.mk fun env O ρ s A ok X=>
 wpAny_isTrue_Not (zac (a.1 env O ρ s A ok X) fun _ _ ⟨q,h⟩=>⟨by rw[q],h⟩)
theorem ST.val (a:SE pg w K Φ d sc e σ H x σ1 cn)(t:STr pg w K Φ d x cn b cq)
  (he:∀env whole,isTrue e env whole=(do let v←whole;standAt e.pos;holding [v] (truthy v)):=by intro _ _;rfl):ST pg w K Φ d sc e σ H b σ1 cq:=.mk fun env O ρ s A ok X=>by
 refine wpAny_isTrue_value (a.into ok X fun a' cm ρ1 m X1 q o=> ?_) (he env _)
 exact zac (t ρ1 cm A a' ok X1.rel X1.gens q) fun _ _ ⟨z,h⟩=>⟨z,(h.inFrame X1).then m o⟩
structure SAll (pg:Program)(w:World)(K:Frag)(Φ:Fm)(d:Nat)(sc:Scope)(op:BoolOp)(es:List Expr)(σ:List (Str×AV))(H:List Cell)(b:Bool)(σ':List (Str×AV))(H':List Cell):Prop where
 go:∀env O ρ s A,OkA Φ d A→St pg w K Φ env sc O σ H ρ s→wpAny (model pg w) A (allTrue op es env) (fun b' s'=>b'=b∧PU pg w K Φ env sc O s ρ σ' H' s') (fun _ _=>False) s
theorem ST.bool {op:BoolOp}{es:List Expr}(a:SAll pg w K Φ d sc op es σ H b σ1 cn):ST pg w K Φ d sc (.BoolOp op es pos) σ H b σ1 cn:=.mk fun env O ρ s A ok X=>
 wpAny_isTrue_BoolOp (a.1 env O ρ s A ok X)
theorem PU.here (X:St pg w K Φ env sc O σ H ρ s):PU pg w K Φ env sc O s ρ σ H s:=⟨ρ,X.refl,X,rfl⟩
theorem SAll.b9:SAll pg w K Φ d sc .And [] σ H true σ H:=.mk fun _ _ _ _ _ _ X=>wpAny_allTrue_And_nil ⟨rfl,PU.here X⟩
theorem SAll.aV:SAll pg w K Φ d sc .Or [] σ H false σ H:=.mk fun _ _ _ _ _ _ X=>wpAny_allTrue_Or_nil ⟨rfl,PU.here X⟩
theorem SAll.bF {es:List Expr}(a:ST pg w K Φ d sc e σ H true σ1 cn)(c:SAll pg w K Φ d sc .And es σ1 cn b cp cq):SAll pg w K Φ d sc .And (e::es) σ H b cp cq:=.mk fun env O ρ s A ok X=>
 wpAny_allTrue_And_cons (a.into ok X fun b' cm q ρ1 m X1 o=>by
  subst q
  exact zac (c.1 env O ρ1 cm A ok X1) fun _ _ ⟨z,h⟩=>⟨z,h.then m o⟩)
theorem SAll.ba {es:List Expr}(a:ST pg w K Φ d sc e σ H false σ1 cn):SAll pg w K Φ d sc .And (e::es) σ H false σ1 cn:=.mk fun env O ρ s A ok X=>
 wpAny_allTrue_And_cons (zac (a.1 env O ρ s A ok X) fun b' cm ⟨q,h⟩=>by subst q;exact⟨rfl,h⟩)
theorem SAll.orGo {es:List Expr}(a:ST pg w K Φ d sc e σ H false σ1 cn)(c:SAll pg w K Φ d sc .Or es σ1 cn b cp cq):SAll pg w K Φ d sc .Or (e::es) σ H b cp cq:=.mk fun env O ρ s A ok X=>
 wpAny_allTrue_Or_cons (a.into ok X fun b' cm q ρ1 m X1 o=>by
  subst q
  exact zac (c.1 env O ρ1 cm A ok X1) fun _ _ ⟨z,h⟩=>⟨z,h.then m o⟩)
theorem SAll.ay {es:List Expr}(a:ST pg w K Φ d sc e σ H true σ1 cn):SAll pg w K Φ d sc .Or (e::es) σ H true σ1 cn:=.mk fun env O ρ s A ok X=>
 wpAny_allTrue_Or_cons (zac (a.1 env O ρ s A ok X) fun b' cm ⟨q,h⟩=>by subst q;exact⟨rfl,h⟩)
theorem SE.ifT {t:Expr}(a:ST pg w K Φ d sc t σ H true σ1 cn)(c:SE pg w K Φ d sc l σ1 cn v cp cq):SE pg w K Φ d sc (.IfExp t l r pos) σ H v cp cq:=.mk fun env O ρ s A ok X=>
 wpAny_IfExp (a.into ok X fun b' cm q ρ1 m X1 o=>by
  subst q
  exact zac (c.1 env O ρ1 cm A ok X1) fun _ _ h=>h.then m o)
theorem SE.ifF {t:Expr}(a:ST pg w K Φ d sc t σ H false σ1 cn)(c:SE pg w K Φ d sc r σ1 cn v cp cq):SE pg w K Φ d sc (.IfExp t l r pos) σ H v cp cq:=.mk fun env O ρ s A ok X=>
 wpAny_IfExp (a.into ok X fun b' cm q ρ1 m X1 o=>by
  subst q
  exact zac (c.1 env O ρ1 cm A ok X1) fun _ _ h=>h.then m o)
theorem SE.orL (a:SE pg w K Φ d sc l σ H x σ1 cn)(t:STr pg w K Φ d x cn true cq):SE pg w K Φ d sc (.BoolOp .Or [l,r] pos) σ H x σ1 cq:=.mk fun env O ρ s A ok X=>by
 refine wpAny_Or2 (a.into ok X fun a' cm ρ1 m X1 q o=> ?_)
 refine zac (t ρ1 cm A a' ok X1.rel X1.gens q) fun _ ct ⟨z,ρ2,cu,dX,dm,cw⟩=> ?_
 subst z;exact PV.then m o (PO.inFrame X1 ⟨ρ2,cu,dX,dm,q.moves cu,cw⟩)
theorem SE.orR (a:SE pg w K Φ d sc l σ H x σ1 cn)(t:STr pg w K Φ d x cn false cq)(c:SE pg w K Φ d sc r σ1 cq v cp cy):SE pg w K Φ d sc (.BoolOp .Or [l,r] pos) σ H v cp cy:=.mk fun env O ρ s A ok X=>by
 refine wpAny_Or2 (a.into ok X fun a' cm ρ1 m X1 q o=> ?_)
 refine zac (t ρ1 cm A a' ok X1.rel X1.gens q) fun _ ct ⟨z,h⟩=> ?_
 subst z;obtain⟨ρ2,cu,X2,cw⟩:=h.inFrame X1
 exact zac (c.1 env O ρ2 ct A ok X2) fun _ _ h=>(h.then cu cw).then m o
theorem SE.bv {t:Expr}(a:SE pg w K Φ d sc e σ H v σ1 cn)(c:SA pg w K Φ d sc t v σ1 cn cp cq):SE pg w K Φ d sc (.NamedExpr t e pos) σ H v cp cq:=.mk fun env O ρ s A ok X=>by
 refine wpAny_NamedExpr (a.into ok X fun a' cm ρ1 m X1 q o=> ?_)
 exact c.into a' ok X1 q fun _ ct ρ2 cu X2 cw=>⟨ρ2,m.trans cu,X2,q.moves cu,cw.trans o⟩
theorem SA.name {n:Str}(hx:ziH sc n)(U:Upd σ n x σ'):SA pg w K Φ d sc (.Name n pos) x σ H σ' H:=.mk fun env O ρ s A a _ X q=>
 wpAny_assign_Name (zcu X hx U q)
theorem SSs.nil:SSs pg w K Φ d sc [] σ H .next σ H:=.mk fun env O ρ s A _ X=>wpAny_execs_nil ⟨ρ,X.refl,X,trivial,rfl⟩
theorem FR.next {h:Heap}{f:Flow}(q:FR h ρ .next f):f= .next:=by cases f<;>first | rfl | cases q
theorem SSs.cons {c:Stmt}{cs:List Stmt}{f:AFlow}(a:SS pg w K Φ d sc c σ H .next σ1 cn)(b:SSs pg w K Φ d sc cs σ1 cn f cp cq):SSs pg w K Φ d sc (c::cs) σ H f cp cq:=.mk fun env O ρ s A ok X=>by
 refine wpAny_execs_cons (a.into ok X fun f' cm ρ1 m X1 q o=> ?_);have:=FR.next q;subst this
 exact b.into ok X1 fun f' ct ρ2 cu X2 cx cw=>⟨ρ2,m.trans cu,X2,cx,cw.trans o⟩
theorem SSs.stop {c:Stmt}{cs:List Stmt}{f:AFlow}(a:SS pg w K Φ d sc c σ H f σ1 cn)(hf:f≠ .next:=by intro h;cases h):SSs pg w K Φ d sc (c::cs) σ H f σ1 cn:=.mk fun env O ρ s A ok X=>by
 refine wpAny_execs_cons (a.into ok X fun f' cm ρ1 m X1 q o=> ?_)
 cases f' with
 | next=>cases f<;>first | exact absurd rfl hf | cases q
 | brk=>exact⟨ρ1,m,X1,q,o⟩
 | cont=>exact⟨ρ1,m,X1,q,o⟩
 | ret v=>exact⟨ρ1,m,X1,q,o⟩
noncomputable def zjm (e:Expr):Prop:=∀t l env,swapsWith e t l env=pure false
theorem SS.assign {t:Expr}(hn:zjm e)(a:SE pg w K Φ d sc e σ H v σ1 cn)(c:SA pg w K Φ d sc t v σ1 cn cp cq)
  (he:∀env,(assignEach [t] env).map (·.2)= [PySem.assign t env]:=by intro _;rfl)
  (hw:∀env,swappedStores [t] e env=pure .none:=by intro _;rfl):SS pg w K Φ d sc (.Assign [t] e pos) σ H .next cp cq:=.mk fun env O ρ s A ok X=>by
 refine wpAny_Assign_stores (a.into ok X fun a' cm ρ1 m X1 q o=> ?_) (hn ..) (hw env);rw[he]
 exact c.into a' ok X1 q fun _ ct ρ2 cu X2 cw=>⟨ρ2,m.trans cu,X2,trivial,cw.trans o⟩
theorem SS.bI {t u:Expr}(a:SE pg w K Φ d sc e σ H v σ1 cn)(c:SA pg w K Φ d sc t v σ1 cn cp cq)(c':SA pg w K Φ d sc u v cp cq σ3 cy)
  (he:∀env,(assignEach [t,u] env).map (·.2)= [PySem.assign t env,PySem.assign u env]:=by intro _;rfl)
  (hw:∀env,swappedStores [t,u] e env=pure .none:=by intro _;rfl):SS pg w K Φ d sc (.Assign [t,u] e pos) σ H .next σ3 cy:=.mk fun env O ρ s A ok X=>by
 refine wpAny_Assign_two (a.into ok X fun a' cm ρ1 m X1 q o=> ?_) (he env) (hw env)
 refine c.into a' ok X1 q fun _ ct ρ2 cu X2 cw=> ?_
 exact zac (c'.1 env O ρ2 ct A a' ok X2 (q.moves cu)) fun _ cA ⟨ρ3,m3,X3,cJ⟩=>⟨ρ3,(m.trans cu).trans m3,X3,trivial,(cJ.trans cw).trans o⟩
theorem zco (X:EnvR K Φ env sc O σ ρ s.heap):interactive env=false:=by
 unfold interactive;simp[X.fn]
theorem SS.expr (hn:zjm e)(a:SE pg w K Φ d sc e σ H v σ1 cn):SS pg w K Φ d sc (.Expr e pos) σ H .next σ1 cn:=.mk fun env O ρ s A ok X=>
 wpAny_Expr_any (a.into ok X fun _ cm ρ1 m X1 _ o=>⟨ρ1,m,X1,trivial,o⟩) (zco X.env) (hn ..)
theorem SS.ret (a:SE pg w K Φ d sc e σ H v σ1 cn):SS pg w K Φ d sc (.Return (some e) pos) σ H (.ret v) σ1 cn:=.mk fun env O ρ s A ok X=>
 wpAny_Return_some (a.into ok X fun _ cm ρ1 m X1 q o=>⟨ρ1,m,X1,q,o⟩)
theorem SS.ifT {t:Expr}{body orelse:List Stmt}{f:AFlow}(a:ST pg w K Φ d sc t σ H true σ1 cn)(c:SSs pg w K Φ d sc body σ1 cn f cp cq):SS pg w K Φ d sc (.If t body orelse pos) σ H f cp cq:=
 .mk fun env O ρ s A ok X=>wpAny_If (a.into ok X fun b' cm q ρ1 m X1 o=>by
  subst q
  exact c.into ok X1 fun f' ct ρ2 cu X2 cx cw=>⟨ρ2,m.trans cu,X2,cx,cw.trans o⟩)
theorem SS.ifF {t:Expr}{body orelse:List Stmt}{f:AFlow}(a:ST pg w K Φ d sc t σ H false σ1 cn)(c:SSs pg w K Φ d sc orelse σ1 cn f cp cq):SS pg w K Φ d sc (.If t body orelse pos) σ H f cp cq:=
 .mk fun env O ρ s A ok X=>wpAny_If (a.into ok X fun b' cm q ρ1 m X1 o=>by
  subst q
  exact c.into ok X1 fun f' ct ρ2 cu X2 cx cw=>⟨ρ2,m.trans cu,X2,cx,cw.trans o⟩)
theorem SS.brk:SS pg w K Φ d sc (.Break pos) σ H .brk σ H:=.mk fun env O ρ s A _ X=>by
 show wpAny _ _ (do standAt pos;pure Flow.brk) _ _ _;exact wpAny_bind (wpAny_standAt (wpAny_pure ⟨ρ,X.refl,X,trivial,rfl⟩))
theorem SS.cont:SS pg w K Φ d sc (.Continue pos) σ H .cont σ H:=.mk fun env O ρ s A _ X=>by
 show wpAny _ _ (do standAt pos;pure Flow.cont) _ _ _;exact wpAny_bind (wpAny_standAt (wpAny_pure ⟨ρ,X.refl,X,trivial,rfl⟩))
theorem SSs.weaken {cs:List Stmt}{f:AFlow}(a:SSs pg w K Φ d sc cs σ H f σ1 cn)(q:∀y v,cp.lookup y=some v→σ1.lookup y=some v):SSs pg w K Φ d sc cs σ H f cp cn:=.mk fun env O ρ s A ok X=>
 a.into ok X fun f' cm ρ1 m X1 cv o=>⟨ρ1,m,X1.weaken q,cv,o⟩
end Mine
end
namespace Mine
section
variable {pg:Program}{w:World}{K:Frag}{Φ:Fm}{d:Nat}{sc:Scope}{σ σ' σ1 cp σ3:List (Str×AV)}{H H' cn cq cy:List Cell}{v v1 v2 x y:AV}{A:Around}{s s':Shared}
 {env:Env} {O ρ ρ':List Addr} {E:Value→Shared→Prop} {e cz cG l r:Expr} {pos:Pos} {b cI cK:Bool}
noncomputable def zmt:AFlow→AV
 | .ret v=>v
 | _=>.none
noncomputable def SCc (pg:Program)(w:World)(K:Frag)(Φ:Fm)(d:Nat)(f:Value)(xs:List AV)(H:List Cell)(v:AV)(H':List Cell):Prop:=
 ∀ρ s A vs,OkC Φ d A→Rel pg w K Φ ρ H s.heap→s.gens= #[]→VRs s.heap ρ xs vs→codeAny (model pg w) A (.call f ⟨vs,[]⟩) (fun r s'=>match r with | .ok (.ret v')=>PO pg w K Φ s ρ H' v v' s' | _=>False) s
theorem SCc.sem {f:Value}{xs:List AV}(h:SCc pg w K Φ d f xs H v H'):SC pg w K Φ d f xs H v H':=fun ρ s A vs ok R g q=>
 wpAny_call (codeAny_mono (h ρ s A vs ok.1 R g q) fun r s' z=>by rcases r with e | (v | _ | _ | _)<;>first | exact z | exact z.elim)
structure FnOk (K:Frag)(a:Addr)(fd:FuncData)(body:List Stmt):Prop where
 at_:∃o,K.lookup a=some o∧o.data= .func fd
 code:∀h:Heap,K.In h→h.CodeRec fd.code fd.qualname
 body:fd.body= .stmts body
 gl:fd.globals=mainGlobals
 bl:fd.builtins=builtinsNs
 cl:fd.closure= []
 co:fd.scope.isCoroutine=false
 gen:fd.scope.isGenerator=false
 kind:fd.scope.kind= .function
 nofree:∀x,fd.scope.names.lookup x≠some .free
theorem zfx:∀{l:List (Str×Value)},(l.map (·.1)).Nodup→∀x,l.reverse.lookup x=l.lookup x
 | [],_,_=>rfl
 | (k,v)::r,hn,x=>by
  simp only[List.map_cons,List.nodup_cons] at hn;rw[List.reverse_cons,List.lookup_append,zfx hn.2];simp only[List.lookup_cons,List.lookup_nil]
  cases q:x==k with
  | false=>simp
  | true=>
   have:=beq_iff_eq.mp q;subst this
   have:r.lookup x=none:=by
    cases z:r.lookup x with
    | none=>rfl
    | some u=>exact absurd (List.mem_map_of_mem (f:=(·.1)) (mem_of_lookup z)) hn.1
   simp[this]
theorem zcz:∀{ns:List Str} {xs:List AV} {vs:List Value} {h:Heap},VRs h ρ xs vs→∀{x:Str} {u:AV},(ns.zip xs).lookup x=some u→∃u',(ns.zip vs).lookup x=some u'∧VR h ρ u u'
 | [],_,_,_,_,_,_,e=>by simp at e
 | _::_,_,_,_,.nil,_,_,e=>by simp at e
 | n::ns,_,_,_,.cons a q,x,u,e=>by
  simp only[List.zip_cons_cons,List.lookup_cons] at e ⊢
  cases z:x==n with
  | true=>rw[z] at e;obtain rfl:=Option.some.inj e;exact⟨_,rfl,a⟩
  | false=>rw[z] at e;exact zcz q e
theorem zlC {fd:FuncData}{body:List Stmt}{a L:Addr}{h cH:Heap}{binds:List (Str×Value)}(F:FnOk K a fd body)(hc:∀x∈fd.scope.names,x.2≠ .cell)(R:Rel pg w K Φ ρ H h)(hL:L=h.objs.size)
  (hn:cH.Ns L (fun x=>binds.reverse.lookup x)) (hk:∀b o,h.get? b=some o→cH.get? b=some o)
  (hnd:(binds.map (·.1)).Nodup)
  (hl:∀x u,σ.lookup x=some u→fd.scope.names.lookup x=some .local∧∃u',binds.lookup x=some u'∧VR cH ρ u u'):
  EnvR K (Φ.deeper L) (callEnv fd L a) fd.scope [L] σ ρ cH:=by
 subst hL
 have fr:h.get? h.objs.size=none:=by
  cases q:h.get? h.objs.size with
  | none=>rfl
  | some o'=>exact absurd (Heap.lt_size q) (Nat.lt_irrefl _)
 refine⟨F.kind,F.gl,F.bl,fun x hx=>hx,fun x hx=>hx,fun x hx=> ?_,fun x hx=>absurd hx (F.nofree x),⟨_,hn,fun x u e _=> ?_⟩,fun x u e hk=> ?_,fun x y c e=> ?_,by simp[callEnv,newEnv],fun b hb=> ?_,fun b hb=> ?_,fun x c e=> ?_,fun x c e=> ?_,rfl⟩
 ·exact absurd rfl (hc _ (mem_of_lookup hx))
 ·obtain⟨_,u',a',q⟩:=hl x u e
  exact⟨u',by rw[zfx hnd];exact a',q⟩
 ·exact absurd (hl x u e).1 hk
 ·simp[callEnv,newEnv,F.cl] at e
 ·simp at hb;subst hb
  refine⟨fun z=> ?_,?_⟩
  ·exact absurd (R.live _ z) (Nat.lt_irrefl _)
  ·cases z:K.lookup h.objs.size with
   | none=>rfl
   | some o=>rw[R.top _ _ z] at fr;exact snE fr
 ·simp at hb;subst hb;exact zcv hn
 ·simp[callEnv,newEnv,F.cl] at e
 ·simp[callEnv,newEnv,F.cl] at e
theorem zdI (h:Heap):h.get? h.objs.size=none:=by
 cases q:h.get? h.objs.size with
 | none=>rfl
 | some o'=>exact absurd (Heap.lt_size q) (Nat.lt_irrefl _)
theorem OkC.deeper (ok:OkC Φ (d+1) A){env:Env}(g:zmb env){L:Addr}(hf:env.frame=some L)(hk:env.scope.kind= .function):OkA (Φ.deeper L) d (A.deeper env):=by
 obtain⟨h,dp,u,l,fr,fo⟩:=ok;have e:=Around.frames_deeper (env:=env) fr;refine⟨⟨h,?_,?_,_,e,?_⟩,env,l,e,g⟩
 ·show A.depth+1+4 * d < _;lia
 ·show A.units+3+40 * d < _;lia
 ·refine⟨by simp[Fm.deeper,hf,fo.1],fun e he=> ?_⟩
  rcases List.mem_cons.mp he with rfl | he
  ·rw[hk];intro z;cases z
  ·exact fo.2 e he
theorem Rel.deeper {h:Heap}{L:Addr}(R:Rel pg w K Φ ρ H h)(hL:za2 < L)(n:L∉ρ){m:Str→Option Value}(hn:h.Ns L m):Rel pg w K (Φ.deeper L) ρ H h:=
 ⟨R.top,R.len,R.nd,R.cell,R.apart,R.live,R.low,R.big,fun l hl=>by
  rcases List.mem_cons.mp hl with rfl | hl
  ·obtain⟨o,es,ep,ho,hd,_⟩:=hn;exact⟨hL,n,o,es,ep,ho,hd⟩
  ·exact R.frames l hl⟩
theorem Rel.back {h:Heap}{L:Addr}(R:Rel pg w K (Φ.deeper L) ρ H h):Rel pg w K Φ ρ H h:=
 ⟨R.top,R.len,R.nd,R.cell,R.apart,R.live,R.low,R.big,fun l hl=>R.frames l (List.mem_cons_of_mem _ hl)⟩
theorem zmr {g cQ:Str→Option Value}{fd:FuncData}{body:List Stmt}{a:Addr}{f:AFlow}{binds:List (Str×Value)}{cm:Shared}{cH:Heap}{t:Nat}(F:FnOk K a fd body)(hc:∀x∈fd.scope.names,x.2≠ .cell)(ok:OkC Φ (d+1) A)
  (R:Rel pg w K Φ ρ H cm.heap) (hg:cm.gens= #[]) (hn:cH.Ns cm.heap.objs.size (fun x=>binds.reverse.lookup x)) (hk:∀b o,cm.heap.get? b=some o→cH.get? b=some o) (hz:cm.heap.objs.size≤cH.objs.size)
  (hnd:(binds.map (·.1)).Nodup)
  (hl:∀x u,σ.lookup x=some u→fd.scope.names.lookup x=some .local∧∃u',binds.lookup x=some u'∧VR cm.heap ρ u u')
  (hB:∀L,SSs pg w K (Φ.deeper L) d fd.scope body σ H f σ' H') {m:Moves [] s.heap cm.heap ρ ρ} {o:cm.os=s.os} :
  codeAny (model pg w) A (.func body (callEnv fd cm.heap.objs.size a)) (fun r s'=>match r with | .ok (.ret v)=>PO pg w K Φ s ρ H' (zmt f) v s' | _=>False) {cm with heap:=cH,toks:=t} :=by
 have mv:Moves [] cm.heap cH ρ ρ:=Moves.grow hk hz (by exact zad);have R0:Rel pg w K Φ ρ H cH:=R.moves mv (fun b hb o ho=>hk b o ho) (by exact zad)
 have X:EnvR K (Φ.deeper cm.heap.objs.size) (callEnv fd cm.heap.objs.size a) fd.scope [cm.heap.objs.size] σ ρ cH:=zlC F hc R rfl hn hk hnd fun x u e=>
  let⟨p,u',q,r⟩:=hl x u e;⟨p,u',q,r.moves mv⟩
 refine codeAny_func (zac ((hB cm.heap.objs.size).1 _ _ ρ {cm with heap:=cH,toks:=t} _ (ok.deeper (L:=cm.heap.objs.size) ⟨F.gen,F.co,F.bl,F.gl⟩ rfl F.kind) ⟨R0.deeper R.big (fun z=>absurd (R.live _ z) (Nat.lt_irrefl _)) hn,X,hg⟩) fun f' ct ⟨ρ2,cu,X2,q,cw⟩=> ?_)
 have m2':Moves [] cm.heap ct.heap ρ ρ2:=by
  have cM:Moves [cm.heap.objs.size] cm.heap cH ρ ρ:=Moves.grow hk hz (fun b hb o e=>by simp at hb;subst hb;rw[zdI] at e;exact nsE e);exact(cM.trans cu).narrow (fun b hb=>.inr (by simp at hb;subst hb;exact zdI _)) (by exact zad)
 refine⟨ρ2,m.trans m2',X2.rel.back,X2.gens,?_,cw.trans o⟩
 cases f<;>cases f'<;>first | exact q | exact .none | cases q
theorem SCc.star {g cQ:Str→Option Value}{fd:FuncData}{body:List Stmt}{a:Addr}{f:AFlow}{ns:List Str}{va:Str}{xs ys:List AV}(T:TopOk K g cQ)(F:FnOk K a fd body)(hc:∀x∈fd.scope.names,x.2≠ .cell)
  (hb:∀vs ws:List Value,vs.length=ns.length→bindArgs fd ⟨vs++ws,[]⟩=(newTuple ws >>= fun t=>pure (ns.zip vs++ [(va,t)]))) (hnd:(ns++ [va]).Nodup)
  (hl:∀x∈ns++ [va],fd.scope.names.lookup x=some .local) (hx:xs.length=ns.length) (hsz:ys.length≤sizeLine)
  (hB:∀L,SSs pg w K (Φ.deeper L) d fd.scope body (ns.zip xs++ [(va,.tup ys)]) H f σ' H'):SCc pg w K Φ (d+1) (.ref a) (xs++ys) H (zmt f) H':=fun ρ s A us ok R hg q=>by
 obtain⟨o,ho,hd⟩:=F.at_
 obtain⟨vs,ws,rfl,cv,cx⟩:∃vs ws,us=vs++ws∧VRs s.heap ρ xs vs∧VRs s.heap ρ ys ws:=by
  refine⟨us.take xs.length,us.drop xs.length,(List.take_append_drop ..).symm,?_,?_⟩
  ·have:=q.take xs.length;simpa using this
  ·have:=q.drop xs.length;simpa using this
 have hlen:vs.length=ns.length:=cv.length.symm.trans hx;refine codeAny_call_function (by have:=ok.2.1;lia) (R.top _ _ ho) hd F.co F.gen F.body (F.code _ R.top) ?_;rw[hb vs ws hlen]
 let tup:Obj:= {cls:=.type "tuple",data:=.seq ws.toArray}
 refine wpAny_bind (wpAny_newObj_type (wpAny_pure ?_) (by show ws.toArray.size≤sizeLine;rw[List.size_toArray,←cx.length];exact hsz))
 let cm:Shared:= {s with heap:=s.heap.push tup}
 show wpAny _ _ (newFunctionEnv _ _ _ (ns.zip vs++ [(va,.ref s.heap.objs.size)]) _ _ _ _ _) _ _ cm;have mv:Moves [] s.heap cm.heap ρ ρ:=Moves.push tup (by exact zad);have R1:Rel pg w K Φ ρ H cm.heap:=R.moves mv (fun b hb o ho=>Heap.get?_push_of_some tup ho) (by exact zad);have nv:(ns.zip vs).map (·.1)=ns:=List.map_fst_zip (by lia)
 have hloc:∀x∈ns.zip vs++ [(va,Value.ref s.heap.objs.size)],fd.scope.names.lookup x.1=some .local:=fun x hx=>by
  rcases List.mem_append.mp hx with z | z
  ·exact hl x.1 (List.mem_append_left _ (List.of_mem_zip z).1)
  ·simp at z;subst z;exact hl va (by exact List.mem_append_right _ List.mem_cons_self)
 refine wpAny_newFunctionEnv hc hloc (fun cH hns hsb=>⟨(T.stat _ R1.top).fresh _ hsb,?_⟩) F.kind
 have hk:∀b o,cm.heap.get? b=some o→cH.get? b=some o:=fun b o e=>hsb.extBut b o (Nat.ne_of_lt (Heap.lt_size e)) (Heap.get?_push_of_some _ e)
 refine zmr (cm:=cm) (m:=mv) (o:=rfl) (g:=g) (cQ:=cQ) F hc ok R1 hg hns hk (by rw[hsb.1,Heap.size_push (h:=cm.heap)];exact Nat.le_succ _) (by rw[List.map_append,nv];exact hnd) (fun x u e=> ?_) hB;rw[List.lookup_append] at e
 cases z:(ns.zip xs).lookup x with
 | some u'=>
  rw[z] at e
  simp at e;subst e
  obtain⟨u'',e',r⟩:=zcz cv z;exact⟨hl x (List.mem_append_left _ (List.of_mem_zip (mem_of_lookup z)).1),u'',by rw[List.lookup_append,e'];rfl,r.moves mv⟩
 | none=>
  rw[z] at e;simp only[Option.none_or,List.lookup_cons,List.lookup_nil] at e
  cases k:x==va with
  | false=>rw[k] at e;exact nsE e
  | true=>
   rw[k] at e;obtain rfl:=Option.some.inj e
   have hxv:=beq_iff_eq.mp k
   have hz:(ns.zip vs).lookup x=none:=by
    cases k':(ns.zip vs).lookup x with
    | none=>rfl
    | some u=>
     have:=(List.of_mem_zip (mem_of_lookup k')).1;rw[hxv] at this;rw[List.nodup_append] at hnd;exact absurd rfl (hnd.2.2 va this va (by exact List.mem_cons_self))
   refine⟨hl x (by rw[hxv];simp),.ref s.heap.objs.size,by rw[List.lookup_append,hz,hxv];simp,?_⟩;refine .tup ⟨tup,Heap.get?_push_size _ rfl,rfl,0,rfl⟩ (fun z=> ?_) (cx.moves mv);exact absurd (R.live _ z) (Nat.lt_irrefl _)
theorem zgl:∀(names:List (Str×NameKind)) (n:Nat) (acc:List (Str×Addr)) (x:Str),(acc.lookup x).isSome=true→((cellsFrom n names acc).lookup x).isSome=true:=by
 intro names
 induction names with
 | nil=>
  rintro _ _ _ h
  exact h
 | cons x9 r ih=>
  rintro n acc x h
  obtain⟨y,k⟩:=x9;unfold cellsFrom
  split
  ·refine ih _ _ x ?_
   rw[List.lookup_cons]
   split
   ·rfl
   ·exact h
  ·exact ih _ _ x h
theorem zbA:∀(names:List (Str×NameKind)) (n:Nat) (acc:List (Str×Addr)) (x:Str),names.lookup x=some .cell→((cellsFrom n names acc).lookup x).isSome=true:=by
 intro names
 induction names with
 | nil=>
  rintro _ _ _ h
  simp at h
 | cons x9 r ih=>
  rintro n acc x h
  obtain⟨y,k⟩:=x9;unfold cellsFrom;rw[List.lookup_cons] at h
  split
  ·cases q:x==y with
   | true=>exact zgl r _ _ x (by rw[List.lookup_cons,q];rfl)
   | false=>rw[q] at h;exact ih _ _ x h
  ·rename_i hk
   cases q:x==y with
   | true=>rw[q] at h;obtain rfl:=Option.some.inj h;simp at hk
   | false=>rw[q] at h;exact ih _ _ x h
theorem zjj (ko:Str→Option NameKind):∀(binds:List (Str×Value)) (m:Str→Option Value),(binds.map (·.1)).Nodup→∀x,ko x=some .local→bindL ko binds m x=(binds.lookup x).or (m x)
 | [],m,_,x,_=>rfl
 | (n,v)::r,m,hn,x,hx=>by
  simp only[List.map_cons,List.nodup_cons] at hn;unfold bindL;rw[zjj ko r _ hn.2 x hx,List.lookup_cons]
  cases q:x==n with
  | true=>
   have:=beq_iff_eq.mp q;subst this
   have:r.lookup x=none:=by
    cases z:r.lookup x with
    | none=>rfl
    | some u=>exact absurd (List.mem_map_of_mem (f:=(·.1)) (mem_of_lookup z)) hn.1
   rw[this,if_pos hx];simp
  | false=>
   have: ¬ x=n:=fun e=>by rw[e] at q;simp at q
   split<;>simp[this]
theorem zjk (ko:Str→Option NameKind):∀(binds:List (Str×Value)) (m:Str→Option Value),(binds.map (·.1)).Nodup→∀x,ko x≠some .local→bindC ko binds m x=(binds.lookup x).or (m x)
 | [],m,_,x,_=>rfl
 | (n,v)::r,m,hn,x,hx=>by
  simp only[List.map_cons,List.nodup_cons] at hn;unfold bindC;rw[zjk ko r _ hn.2 x hx,List.lookup_cons]
  cases q:x==n with
  | true=>
   have:=beq_iff_eq.mp q;subst this
   have:r.lookup x=none:=by
    cases z:r.lookup x with
    | none=>rfl
    | some u=>exact absurd (List.mem_map_of_mem (f:=(·.1)) (mem_of_lookup z)) hn.1
   rw[this,if_neg hx];simp
  | false=>
   have: ¬ x=n:=fun e=>by rw[e] at q;simp at q
   split<;>simp[this]
theorem zi6 {g cQ:Str→Option Value}{fd:FuncData}{body:List Stmt}{a:Addr}{ns:List Str}{xs ds:List AV}{dv:List Value}{vs:List Value}{R0:Result→Shared→Prop}(T:TopOk K g cQ)(F:FnOk K a fd body)
  (hb:∀(s:Shared) (vs:List Value),K.In s.heap→vs.length=xs.length→BindsTo s fd ⟨vs,[]⟩ (ns.zip (vs++dv))) (hds:∀h ρ,VRs h ρ ds dv) (hnd:ns.Nodup)
  (hl:∀x∈ns,fd.scope.names.lookup x=some .local∨fd.scope.names.lookup x=some .cell) (hx:(xs++ds).length=ns.length)
  (ok:OkC Φ (d+1) A) (R:Rel pg w K Φ ρ H s.heap) (hg:s.gens= #[]) (q:VRs s.heap ρ xs vs)
  (run:∀env O' cH tk,OkA (Φ.deeper s.heap.objs.size) d (A.deeper env)→St pg w K (Φ.deeper s.heap.objs.size) env fd.scope O' (ns.zip (xs++ds)) H ρ {s with heap:=cH,toks:=tk} →Moves O' s.heap cH ρ ρ→(∀b∈O',s.heap.get? b=none) →
   codeAny (model pg w) A (.func body env) R0 {s with heap:=cH,toks:=tk}):codeAny (model pg w) A (.call (.ref a) ⟨vs,[]⟩) R0 s:=by
 obtain⟨o,ho,hd⟩:=F.at_;have q':VRs s.heap ρ (xs++ds) (vs++dv):=q.append (hds _ _);have hlen:(vs++dv).length=ns.length:=q'.length.symm.trans hx;refine codeAny_call_function (by have:=ok.2.1;lia) (R.top _ _ ho) hd F.co F.gen F.body (F.code _ R.top) ?_;refine hb s vs R.top q.length.symm _ _ _ _ ?_;have nv:(ns.zip (vs++dv)).map (·.1)=ns:=List.map_fst_zip (by lia)
 have hloc:∀x∈ns.zip (vs++dv),fd.scope.names.lookup x.1=some .local∨(fd.scope.names.lookup x.1=some .cell∧((cellsFrom (s.heap.objs.size+1) fd.scope.names []).lookup x.1).isSome=true):=fun x hx=>
  (hl x.1 (List.of_mem_zip hx).1).imp id fun z=>⟨z,zbA _ _ _ _ z⟩
 rw[F.cl]
 refine wpAny_newFunctionEnv_cells F.kind hloc fun env he s' I=> ?_
 have hloc':env.locals=s.heap.objs.size:=by rw[he];rfl
 have hcells:env.cells=cellsFrom (s.heap.objs.size+1) fd.scope.names []:=by rw[he];rfl
 have hko:∀x,env.kindOf x=fd.scope.names.lookup x:=fun x=>by rw[he];rfl
 have hbi:env.builtins=builtinsNs:=by rw[he];exact F.bl
 have hgl:env.globals=mainGlobals:=by rw[he];exact F.gl
 have hsc:env.scope=fd.scope:=by rw[he];rfl
 have hfr:env.frame=some s.heap.objs.size:=by rw[he];rfl
 obtain⟨same,hns,hkeep,_⟩:=I.toInCall
 have hk:∀b o,s.heap.get? b=some o→s'.heap.get? b=some o:=hkeep
 refine⟨(T.stat _ R.top).keeps hk,?_⟩;obtain⟨cH,tk,rfl⟩:=same
 have hz:s.heap.objs.size≤cH.objs.size:=by have:=hns.lt;rw[hloc'] at this;exact Nat.le_of_lt this
 have mv:Moves [] s.heap cH ρ ρ:=Moves.grow hk hz (by exact zad);have Rh:Rel pg w K Φ ρ H cH:=R.moves mv (fun b hb o ho=>hk b o ho) (by exact zad)
 have fresh:∀c,s.heap.objs.size≤c→c∉ρ∧K.lookup c=none:=fun c hc=>by
  have hn:=Heap.get?_none_of_le hc;refine⟨fun z=> ?_,?_⟩
  ·exact absurd (R.live _ z) (Nat.not_lt.mpr hc)
  ·cases z:K.lookup c with
   | none=>rfl
   | some o=>rw[R.top _ _ z] at hn;exact snE hn
 have above:∀x c,env.cells.lookup x=some c→s.heap.objs.size < c:=fun x c e=>by rw[←hloc'];exact I.above x c (mem_of_lookup e)
 have X:EnvR K (Φ.deeper s.heap.objs.size) env fd.scope (env.locals::(env.cells.filter fun p=>decide (env.cells.lookup p.1=some p.2)).map (·.2)) (ns.zip (xs++ds)) ρ cH:=by
  refine⟨by rw[hsc];exact F.kind,hgl,hbi,fun x hx=>(hko x).trans hx,fun x hx=>(hko x).trans hx,fun x hx=>⟨(hko x).trans hx,?_⟩,fun x hx=>absurd hx (F.nofree x),⟨_,hns,fun x u e hk'=> ?_⟩,fun x u e hk'=> ?_,fun x y c e e'=> ?_,by exact List.mem_cons_self,fun b hb=> ?_,fun b hb=> ?_,fun x c e=> ?_,fun x c e=> ?_,hfr⟩
  ·obtain⟨c,hc⟩:=Option.isSome_iff_exists.mp (zbA fd.scope.names (s.heap.objs.size+1) [] x hx)
   rw[←hcells] at hc;exact⟨c,_,hc,List.mem_cons_of_mem _ (List.mem_map_of_mem (f:=(·.2)) (List.mem_filter.mpr ⟨mem_of_lookup hc,by simpa using hc⟩)),I.cell x c hc⟩
  ·obtain⟨u',e',r⟩:=zcz q' e
   refine⟨u',?_,r.moves mv⟩
   rw[zjj _ _ _ (by rw[nv];exact hnd) x hk',e'];rfl
  ·obtain⟨u',e',r⟩:=zcz q' e
   have hxc:fd.scope.names.lookup x=some .cell:=(hl x (List.of_mem_zip (mem_of_lookup e)).1).resolve_left fun z=>hk' ((hko x).trans z)
   obtain⟨c,hc⟩:=Option.isSome_iff_exists.mp (zbA fd.scope.names (s.heap.objs.size+1) [] x hxc);rw[←hcells] at hc;refine⟨.inl ((hko x).trans hxc),c,u',hc,?_,r.moves mv⟩;have:=I.cell x c hc;rw[zjk _ _ _ (by rw[nv];exact hnd) x hk',e'] at this;exact this
  ·exact name_of_addr I.apart (mem_of_lookup e) (mem_of_lookup e')
  ·rcases List.mem_cons.mp hb with rfl | hb
   ·exact fresh _ (by rw[hloc'];exact Nat.le_refl _)
   ·obtain⟨p,hp,rfl⟩:=List.mem_map.mp hb
    refine fresh _ (Nat.le_of_lt ?_)
    rw[←hloc'];exact I.above p.1 p.2 (List.mem_filter.mp hp).1
  ·rcases List.mem_cons.mp hb with rfl | hb
   ·exact zcv hns
   ·obtain⟨p,hp,rfl⟩:=List.mem_map.mp hb
    have hc:env.cells.lookup p.1=some p.2:=by have:=(List.mem_filter.mp hp).2;simpa using this
    exact zci (I.cell _ _ hc)
  ·have:=fresh c (Nat.le_of_lt (above x c e))
   exact⟨this.1,this.2,by have:=above x c e;rw[hloc'];exact Nat.ne_of_gt this⟩
  ·exact⟨_,I.cell x c e⟩
 have dead:∀b∈(env.locals::(env.cells.filter fun p=>decide (env.cells.lookup p.1=some p.2)).map (·.2)),s.heap.get? b=none:=fun b hb=>by
  rcases List.mem_cons.mp hb with rfl | hb
  ·rw[hloc'];exact zdI _
  ·obtain⟨p,hp,rfl⟩:=List.mem_map.mp hb
   exact Heap.get?_none_of_le (Nat.le_of_lt (by rw[←hloc'];exact I.above p.1 p.2 (List.mem_filter.mp hp).1))
 have cM:Moves (env.locals::(env.cells.filter fun p=>decide (env.cells.lookup p.1=some p.2)).map (·.2)) s.heap cH ρ ρ:=Moves.grow hk hz (fun b hb o e=>by rw[dead b hb] at e;exact nsE e);exact run env _ cH tk (ok.deeper (L:=s.heap.objs.size) ⟨by rw[hsc];exact F.gen,by rw[hsc];exact F.co,hbi,hgl⟩ hfr (by rw[hsc];exact F.kind)) ⟨Rh.deeper R.big (fun z=>absurd (R.live _ z) (Nat.lt_irrefl _)) (hloc'▸hns),X,hg⟩ cM dead
theorem len1 {α:Type}{P:List α→Prop}(k:∀a,P [a])(vs:List α)(h:vs.length=1):P vs:=by
 cases vs with
 | nil=>cases h
 | cons a r=>cases List.eq_nil_of_length_eq_zero (Nat.succ.inj h);exact k a
@[elab_as_elim] theorem znR {α:Type} {P:List α→Prop} {vs:List α} (h:vs.length=1) (k:∀a,P [a]):P vs:=len1 k vs h
theorem len2 {α:Type}{P:List α→Prop}(k:∀a b,P [a,b])(vs:List α)(h:vs.length=2):P vs:=by
 cases vs with
 | nil=>cases h
 | cons a r=>exact len1 (P:=fun r=>P (a::r)) (fun b=>k a b) r (Nat.succ.inj h)
@[elab_as_elim] theorem zpf {α:Type} {P:List α→Prop} {vs:List α} (h:vs.length=2) (k:∀a b,P [a,b]):P vs:=len2 k vs h
theorem SCc.gen {g cQ:Str→Option Value}{fd:FuncData}{body:List Stmt}{a:Addr}{f:AFlow}{ns:List Str}{xs ds:List AV}{dv:List Value}(T:TopOk K g cQ)(F:FnOk K a fd body)
  (hb:∀(s:Shared) (vs:List Value),K.In s.heap→vs.length=xs.length→BindsTo s fd ⟨vs,[]⟩ (ns.zip (vs++dv))) (hds:∀h ρ,VRs h ρ ds dv) (hnd:ns.Nodup)
  (hl:∀x∈ns,fd.scope.names.lookup x=some .local∨fd.scope.names.lookup x=some .cell) (hx:(xs++ds).length=ns.length)
  (hB:∀L,SSs pg w K (Φ.deeper L) d fd.scope body (ns.zip (xs++ds)) H f σ' H'):SCc pg w K Φ (d+1) (.ref a) xs H (zmt f) H':=fun ρ s A vs ok R hg q=>by
 refine zi6 T F hb hds hnd hl hx ok R hg q fun env O' cH tk ok' X cM dead=> ?_
 refine codeAny_func (zac ((hB s.heap.objs.size).1 env _ ρ _ _ ok' X) fun f' ct ⟨ρ2,cu,X2,cx,cw⟩=> ?_);have m2':Moves [] s.heap ct.heap ρ ρ2:=(cM.trans cu).narrow (fun b hb=>.inr (dead b hb)) (by exact zad);refine⟨ρ2,m2',X2.rel.back,X2.gens,?_,cw⟩
 cases f<;>cases f'<;>first | exact cx | exact .none | cases cx
structure SG (pg:Program)(w:World)(K:Frag)(Φ:Fm)(d:Nat)(sc:Scope)(es:List Expr)(σ:List (Str×AV))(H:List Cell)(vs:List AV)(σ':List (Str×AV))(H':List Cell):Prop where
 go:∀env O ρ s A pos f,OkA Φ d A→St pg w K Φ env sc O σ H ρ s→wpAny (model pg w) A (evalArgs f true (backTo pos (starEach es env)) [])
  (fun a s'=>a.kw= []∧PL pg w K Φ env sc O s ρ σ' H' vs a.pos s') (fun _ _=>False) s
theorem SG.into {Q:Args→Shared→Prop}{es:List Expr}{vs:List AV}(a:SG pg w K Φ d sc es σ H vs σ' H')(pos:Pos)(f:Value)(ok:OkA Φ d A)(X:St pg w K Φ env sc O σ H ρ s)(k:∀v' cm,v'.kw= []→∀ρ1,Moves O s.heap cm.heap ρ ρ1→St pg w K Φ env sc O σ' H' ρ1 cm→VRs cm.heap ρ1 vs v'.pos→cm.os=s.os→Q v' cm):wpAny (model pg w) A (evalArgs f true (backTo pos (starEach es env)) []) Q E s:=
 zac (a.1 env O ρ s A pos f ok X) fun v' cm ⟨z,ρ1,m,X1,q,o⟩=>k v' cm z ρ1 m X1 q o
theorem SG.nil:SG pg w K Φ d sc [] σ H [] σ H:=.mk fun env O ρ s A pos f _ X=>PySem.evalArgs_none ⟨rfl,ρ,X.refl,X,.nil,rfl⟩
theorem SG.some {es:List Expr}{vs:List AV}(a:SL pg w K Φ d sc (e::es) σ H vs σ1 cn)(he:∀env,starEach (e::es) env=(false,eval e env)::starEach es env:=by exact Mine.star_cons rfl):
  SG pg w K Φ d sc (e::es) σ H vs σ1 cn:=.mk fun env O ρ s A pos f ok X=>by
 have h:=a.1 env O ρ s A pos ok X;rw[he env] at h ⊢;exact evalArgs_plain (zac h fun vs' cm ⟨ρ1,m,X1,q,o⟩=>⟨rfl,ρ1,m,X1,q,o⟩)
inductive Callee (K:Frag):Value→Prop
 | builtin {i} :Callee K (.builtin i)
 | type {i} :Callee K (.type i)
 | fn {a o fd} :K.lookup a=Option.some o→o.data= .func fd→Callee K (.ref a)
theorem zcs {f:Value}{first:List Value}{trees:List (Bool×Sem Value)}{Q:Value→Shared→Prop}(hf:Callee K f)(hp:trees.any (·.1)=false∨∃a,f= .ref a)
  (h:wpAny (model pg w) A (evalArgs f true trees []) (fun a cm=>K.In cm.heap∧wpAny (model pg w) A (call f (first++a.pos) a.kw) Q E cm) E s):
  wpAny (model pg w) A (callWith pos f first trees []) Q E s:=by
 cases hf with
 | builtin=>
  rcases hp with hp | ⟨a,q⟩
  ·exact callWith_builtin hp (wpAny_mono h (fun _ _ z=>z.2) fun _ _ z=>z)
  ·cases q
 | type=>
  rcases hp with hp | ⟨a,q⟩
  ·exact PySem.callWith_type hp (wpAny_mono h (fun _ _ z=>z.2) fun _ _ z=>z)
  ·cases q
 | fn hk hd=>exact callWith_function (o:=_) (fd:=_) (wpAny_mono h (fun _ _ z=>⟨⟨z.1 _ _ hk,hd⟩,z.2⟩) fun _ _ z=>z)
noncomputable def zjl (es:List Expr):Prop:=∀pos env,(backTo pos (starEach es env)).any (·.1)=false
theorem zjh {f:Value}{first:List Value}{firstA:List AV}{es:List Expr}{vs:List AV}(X:St pg w K Φ env sc O σ H ρ s)(ok:OkA Φ d A)(hf:Callee K f)(hp:zjl es∨∃a,f= .ref a)
  (q0:VRs s.heap ρ firstA first) (ha:SG pg w K Φ d sc es σ H vs σ1 cn) (hc:SC pg w K Φ d f (firstA++vs) cn v cq):
  wpAny (model pg w) A (callWith pos f first (backTo pos (starEach es env)) []) (PV pg w K Φ env sc O s ρ σ1 cq v) (fun _ _=>False) s:=by
 refine zcs hf (hp.imp (fun h=>h pos env) id) (ha.into pos f ok X fun a cm hk ρ1 m X1 q o=>⟨X1.rel.top,?_⟩);rw[hk]
 exact zac (hc ρ1 cm A _ ok X1.rel X1.gens ((q0.moves m).append q)) fun _ _ h=>(h.inFrame X1).then m o
theorem SE.call {n:Str}{p:Pos}{f:Value}{es:List Expr}{vs:List AV}(hn:SE pg w K Φ d sc (.Name n p) σ H (.cst f) σ H)(hf:Callee K f)(ha:SG pg w K Φ d sc es σ H vs σ1 cn)
  (hc:SC pg w K Φ d f vs cn v cq) (hp:zjl es:=by intro _ _;rfl):SE pg w K Φ d sc (.Call (.Name n p) es [] pos) σ H v σ1 cq:=.mk fun env O ρ s A ok X=>by
 refine Call_Name rfl (hn.into ok X fun f' cm ρ1 m X1 q o=> ?_);cases q
 exact zac (zjh (firstA:= []) X1 ok hf (.inl hp) .nil ha (by simpa using hc)) fun _ _ h=>h.then m o
noncomputable def GM (pg:Program)(w:World)(K:Frag)(Φ:Fm)(x:AV)(name:Str)(H:List Cell)(f:Value):Prop:=
 ∀ρ s A a pl (Q:Value×List Value→Shared→Prop) E,Rel pg w K Φ ρ H s.heap→VR s.heap ρ x a→Q (f,[a]) s→wpAny (model pg w) A (getMethod a name pl) Q E s
theorem SE.meth {o:Expr}{name:Str}{apos:Pos}{f:Value}{es:List Expr}{vs:List AV}(ho:SE pg w K Φ d sc o σ H x σ1 cn)(hg:GM pg w K Φ x name cn f)(hf:Callee K f)
  (ha:SG pg w K Φ d sc es σ1 cn vs cp cq) (hc:SC pg w K Φ d f (x::vs) cq v cy) (hline:(apos.endLine==pos.line)=true:=by rfl)
  (hbase:∀env,attributeBase o name env (eval o env)=eval o env:=by intro _;rfl)
  (hfew:∀env,methodCallForm (es.length+([]:List Keyword).length) (backTo pos (starEach es env)) (backToKw pos (keywordEach [] env))=true:=by intro _;rfl)
  (hp:zjl es:=by intro _ _;rfl):SE pg w K Φ d sc (.Call (.Attribute o name apos) es [] pos) σ H v cp cy:=.mk fun env O ρ s A ok X=>by
 rw[arm_eval_Call,hbase env];refine wpAny_bind (ho.into ok X fun a cm ρ1 m X1 q o'=> ?_);refine wpAny_bind (wpAny_standAt ?_)
 have hpos:methodCallPos true o env apos pos=pure pos:=by unfold methodCallPos;simp[hline]
 unfold methodCall;rw[hfew env];refine wpAny_bind (wpAny_holding (hg ρ1 cm _ a _ _ _ X1.rel q ?_));refine wpAny_bind (wpAny_of_eq hpos ?_);show wpAny _ _ (callWith pos f [a] (backTo pos (starEach es env)) []) _ _ _
 exact zac (zjh (firstA:= [x]) X1 ok hf (.inl hp) (.cons q .nil) ha hc) fun _ _ h=>h.then m o'
theorem GM.builtin {name:Str}{T id:String}(pa:PlainAttrs T)(slot:Slot T name id)(hty:typeOf (.builtin id)=pure (.type "method_descriptor"))
  (hx:∀ρ (s:Shared) a,Rel pg w K Φ ρ H s.heap→VR s.heap ρ x a→s.TypeIs a T∧∀c,a= .ref c→∃ob,s.heap.get? c=some ob∧ob.dict=none):GM pg w K Φ x name H (.builtin id):=
 fun ρ s A a pl Q E R q h=>let⟨t,u⟩:=hx ρ s a R q;getMethod_builtin t pa slot hty u h
end
section
variable {pg:Program}{w:World}{K:Frag}{Φ:Fm}{d:Nat}{sc:Scope}{σ σ' σ1 cp σ3:List (Str×AV)}{H H' cn cq cy:List Cell}{v v1 v2 x y:AV}{A:Around}{s s':Shared}
 {env:Env} {O ρ ρ':List Addr} {E:Value→Shared→Prop} {e cz cG l r:Expr} {pos:Pos} {b cI cK:Bool} {xs ys:List AV}
theorem SB.addInt {i j:Int} :SB pg w K Φ d .Add (.int i) (.int j) H (.int (i+j)) H:=fun ρ s A a b ok R g p q=>by
 refine VR.intE p fun _=> ?_;refine VR.intE q fun _=> ?_;exact PyProof.Rows.add_int (PO.here R g .int)
theorem SB.subInt {i j:Int} :SB pg w K Φ d .Sub (.int i) (.int j) H (.int (i - j)) H:=fun ρ s A a b ok R g p q=>by
 refine VR.intE p fun _=> ?_;refine VR.intE q fun _=> ?_;exact PyProof.Rows.sub_int (PO.here R g .int)
theorem SB.ah {i j:Int}(hj:j≠0):SB pg w K Φ d .Mod (.int i) (.int j) H (.int (i.fmod j)) H:=fun ρ s A a b ok R g p q=>by
 refine VR.intE p fun _=> ?_;refine VR.intE q fun _=> ?_;exact PyProof.Rows.mod_int' hj (PO.here R g .int)
theorem SB.aL {g b:Str→Option Value}{i j:Int}(T:TopOk K g b)(ht:pg.given.tree= .none)(hd:25≤d)(hj:j≠0):SB pg w K Φ d .FloorDiv (.int i) (.int j) H (.int (i.fdiv j)) H:=fun ρ s A a b ok R g p q=>by
 refine VR.intE p fun _=> ?_;refine VR.intE q fun _=> ?_
 obtain⟨env,l,e,z⟩:=ok.2;refine PyProof.Rows.floordiv_int hj (PO.here R g .int) (.inr (PylongRoom.of (T.stat _ R.top) ?_ (SeerAt.of (T.seer _ R.top) ht e z.1 z.2.1 z.2.2.1 z.2.2.2)));have:=ok.depth;show A.depth+100 < _
 lia
theorem SI.addInt {i j:Int} :SI pg w K Φ d .Add (.int i) (.int j) H (.int (i+j)) H:=fun ρ s A a b ok R g p q=>by
 refine VR.intE p fun _=> ?_;refine VR.intE q fun _=> ?_;exact PyProof.Rows.iadd_int (PO.here R g .int)
theorem SI.subInt {i j:Int} :SI pg w K Φ d .Sub (.int i) (.int j) H (.int (i - j)) H:=fun ρ s A a b ok R g p q=>by
 refine VR.intE p fun _=> ?_;refine VR.intE q fun _=> ?_;exact PyProof.Rows.isub_int (PO.here R g .int)
theorem SCmp.bC {i j:Int} :SCmp pg w K Φ d .Eq (.int i) (.int j) H (i==j) H:=fun ρ s A a b ok R g p q=>by
 refine VR.intE p fun _=> ?_;refine VR.intE q fun _=> ?_;exact PyProof.Rows.eq_int (PO.here' R g .bool)
theorem SCmp.cf {i j:Int} :SCmp pg w K Φ d .NotEq (.int i) (.int j) H (i !=j) H:=fun ρ s A a b ok R g p q=>by
 refine VR.intE p fun _=> ?_;refine VR.intE q fun _=> ?_;exact PyProof.Rows.ne_int (PO.here' R g .bool)
theorem SCmp.bR {i j:Int} :SCmp pg w K Φ d .Lt (.int i) (.int j) H (decide (i < j)) H:=fun ρ s A a b ok R g p q=>by
 refine VR.intE p fun _=> ?_;refine VR.intE q fun _=> ?_;exact PyProof.Rows.lt_int (PO.here' R g .bool)
theorem SCmp.cg {i j:Int} :SCmp pg w K Φ d .Gt (.int i) (.int j) H (decide (j < i)) H:=fun ρ s A a b ok R g p q=>by
 refine VR.intE p fun _=> ?_;refine VR.intE q fun _=> ?_;exact PyProof.Rows.gt_int (PO.here' R g .bool)
theorem SB.addStr {i j:Str}(hs:i.length+j.length≤sizeLine):SB pg w K Φ d .Add (.str i) (.str j) H (.str (i++j)) H:=fun ρ s A a b ok R g p q=>by
 refine VR.strE p fun _=> ?_;refine VR.strE q fun _=> ?_;exact PyProof.Rows.add_str (fun _ _=>PO.here R g .str) hs
theorem SI.addStr {i j:Str}(hs:i.length+j.length≤sizeLine):SI pg w K Φ d .Add (.str i) (.str j) H (.str (i++j)) H:=fun ρ s A a b ok R g p q=>by
 refine VR.strE p fun _=> ?_;refine VR.strE q fun _=> ?_;exact PyProof.Rows.iadd_str (fun _ _=>PO.here R g .str) hs
theorem SCmp.ak {i j:Str} :SCmp pg w K Φ d .Eq (.str i) (.str j) H (i==j) H:=fun ρ s A a b ok R g p q=>by
 refine VR.strE p fun _=> ?_;refine VR.strE q fun _=> ?_;exact PyProof.Rows.eq_str (PO.here' R g .bool)
theorem SCmp.a8 {i j:Str} :SCmp pg w K Φ d .NotEq (.str i) (.str j) H (i !=j) H:=fun ρ s A a b ok R g p q=>by
 refine VR.strE p fun _=> ?_;refine VR.strE q fun _=> ?_;exact PyProof.Rows.ne_str (PO.here' R g .bool)
theorem STr.str {i:Str}(hs:i.length≤sizeLine):STr pg w K Φ d (.str i) H ((i.length:Int) !=0) H:=fun ρ s A a ok R g p=>by
 refine VR.strE p fun _=> ?_;exact PySem.P.truthy_str (by have:sizeLine=2 ^ 24:=rfl;lia) ⟨rfl,ρ,Moves.refl (by exact zad),R,g,rfl⟩
theorem STr.bool {c:Bool} :STr pg w K Φ d (.bool c) H c H:=fun ρ s A a ok R g p=>by
 refine VR.bn p ?_;exact wpAny_truthy_bool ⟨rfl,ρ,Moves.refl (by exact zad),R,g,rfl⟩
theorem STr.none:STr pg w K Φ d .none H false H:=fun ρ s A a ok R g p=>by
 refine VR.aF p ?_;exact PyProof.Rows.truthy_none ⟨rfl,ρ,Moves.refl (by exact zad),R,g,rfl⟩
noncomputable def zlb:AV→Bool
 | .none=>false
 | .cst _=>false
 | _=>true
theorem zlr {h:Heap}{a:Value}(hx:zlb x=true)(p:VR h ρ x a):plainIs a .none=true∧(a==Value.none)=false:=by
 cases p<;>first | exact⟨rfl,rfl⟩ | exact ftE hx
theorem SCmp.ax (hx:zlb x=true):SCmp pg w K Φ d .Is x .none H false H:=fun ρ s A a b ok R g p q=>by
 refine VR.aF q ?_;obtain⟨h1,h2⟩:=zlr hx p;exact wpAny_is_plain h1 (by rw[h2];exact PO.here' R g .bool)
theorem SCmp.b0:SCmp pg w K Φ d .Is .none .none H true H:=fun ρ s A a b ok R g p q=>by
 refine VR.aF p ?_;refine VR.aF q ?_;exact wpAny_is_plain rfl (PO.here' R g .bool)
theorem SCmp.am:SCmp pg w K Φ d .IsNot .none .none H false H:=fun ρ s A a b ok R g p q=>by
 refine VR.aF p ?_;refine VR.aF q ?_;exact wpAny_isNot_plain rfl (PO.here' R g .bool)
inductive LH (H:List Cell):AV→List AV→Prop
 | lst {xs:List AV} :LH H (.lst xs) xs
 | obj {i:Nat} {xs:List AV} :H[i]? =some (.lst xs)→LH H (.obj i) xs
theorem LH.at {h:Heap}{a:Value}(L:LH H x xs)(R:Rel pg w K Φ ρ H h)(p:VR h ρ x a):∃c vs,a= .ref c∧h.IsList c vs.toArray∧VRs h ρ xs vs:=by
 cases L with
 | lst=>refine VR.lstE p fun _ _ u v k=> ?_;exact⟨_,_,rfl,u,k⟩
 | obj e=>
  refine VR.objE p fun _ f=> ?_
  refine CellAt.lstE (R.cell _ _ _ e f) fun _ _ u k=> ?_;exact⟨_,_,rfl,u.isList,k⟩
theorem zbe {h:Heap}(R:Rel pg w K Φ ρ H h)(o:Obj):Moves [] h (h.push o) ρ ρ∧Rel pg w K Φ ρ H (h.push o)∧h.objs.size∉ρ:=by
 have mv:Moves [] h (h.push o) ρ ρ:=Moves.push o (by exact zad);refine⟨mv,R.moves mv (fun b hb o' ho=>Heap.get?_push_of_some o ho) (by exact zad),fun z=>absurd (R.live _ z) (Nat.lt_irrefl _)⟩
theorem zer {vs:List Value}(R:Rel pg w K Φ ρ H s.heap)(g:s.gens= #[])(q:VRs s.heap ρ xs vs){t:Nat} :
  PO pg w K Φ s ρ H (.lst xs) (.ref s.heap.objs.size) {s with heap:=s.heap.push {cls:=.type "list",data:=.seq vs.toArray},toks:=t} :=by
 obtain⟨mv,R',n⟩:=zbe R {cls:=.type "list",data:=.seq vs.toArray};exact⟨ρ,mv,R',g,.lst ⟨_,Heap.get?_push_size _ rfl,rfl,0,rfl⟩ n (q.moves mv),rfl⟩
theorem zjJ {vs:List Value}(R:Rel pg w K Φ ρ H s.heap)(g:s.gens= #[])(q:VRs s.heap ρ xs vs){t:Nat} :
  PO pg w K Φ s ρ H (.tup xs) (.ref s.heap.objs.size) {s with heap:=s.heap.push {cls:=.type "tuple",data:=.seq vs.toArray},toks:=t} :=by
 obtain⟨mv,R',n⟩:=zbe R {cls:=.type "tuple",data:=.seq vs.toArray};exact⟨ρ,mv,R',g,.tup ⟨_,Heap.get?_push_size _ rfl,rfl,0,rfl⟩ n (q.moves mv),rfl⟩
theorem zfs {vs:List Value}(R:Rel pg w K Φ ρ H s.heap)(g:s.gens= #[])(q:VRs s.heap ρ xs vs){t:Nat} :
  PO pg w K Φ s ρ (H++ [.lst xs]) (.obj H.length) (.ref s.heap.objs.size) {s with heap:=s.heap.push {cls:=.type "list",data:=.seq vs.toArray},toks:=t} :=by
 obtain⟨R',mv⟩:=R.push (c:=.lst xs) (o:= {cls:=.type "list",data:=.seq vs.toArray}) rfl rfl (fun m=>.lst (n:=0) (Heap.get?_push_size _ rfl) (q.moves m));exact⟨_,mv,R',g,.obj (by rw[←R.len];simp),rfl⟩
theorem SE.list {es:List Expr}(a:SL pg w K Φ d sc es σ H xs σ1 cn)(hs:xs.length≤sizeLine):SE pg w K Φ d sc (.List es pos) σ H (.lst xs) σ1 cn:=.mk fun env O ρ s A ok X=>by
 refine List_ (a.into pos ok X fun vs cm ρ1 m X1 q o=> ?_);exact wpAny_newList (((zer X1.rel X1.gens q).inFrame X1).then m o) (by rw[←q.length];exact hs)
theorem SE.listO {es:List Expr}(a:SL pg w K Φ d sc es σ H xs σ1 cn)(hs:xs.length≤sizeLine):SE pg w K Φ d sc (.List es pos) σ H (.obj cn.length) σ1 (cn++ [.lst xs]):=.mk fun env O ρ s A ok X=>by
 refine List_ (a.into pos ok X fun vs cm ρ1 m X1 q o=> ?_);exact wpAny_newList (((zfs X1.rel X1.gens q).inFrame X1).then m o) (by rw[←q.length];exact hs)
theorem SE.tuple {es:List Expr}{k:Nat}(a:SL pg w K Φ d sc es σ H xs σ1 cn)(hs:xs.length≤sizeLine):SE pg w K Φ d sc (.Tuple es k pos) σ H (.tup xs) σ1 cn:=.mk fun env O ρ s A ok X=>by
 refine Tuple_ (a.into pos ok X fun vs cm ρ1 m X1 q o=> ?_);exact wpAny_newTuple (((zjJ X1.rel X1.gens q).inFrame X1).then m o) (by rw[←q.length];exact hs)
theorem SB.ai (l₁:LH H x xs)(l₂:LH H y ys)(hs:xs.length+ys.length≤sizeLine):SB pg w K Φ d .Add x y H (.lst (xs++ys)) H:=fun ρ s A a b ok R g p q=>by
 obtain⟨c,vs,rfl,hl,cv⟩:=l₁.at R p;obtain⟨c',ws,rfl,hl',cx⟩:=l₂.at R q;obtain⟨⟨cls,dd,data,sl⟩,ho,hc,n,hd⟩:=id hl;obtain⟨⟨cls2,dd2,data2,sl2⟩,ho2,hc2,n2,hd2⟩:=id hl';simp only at hc hd hc2 hd2;subst hc hd hc2 hd2
 have e:vs.toArray++ws.toArray=(vs++ws).toArray:=by simp
 refine concat_meets ⟨_,ho,rfl⟩ ⟨_,ho2,rfl⟩ noFill_list_add seq_list_add PySem.F.slot_list_add PySem.F.entry_list_add (PySem.F.args_list_add_2 _ _) (list_addW c c' vs.toArray ws.toArray n n2 dd dd2 sl sl2 (by simp only[List.size_toArray];rw[←cv.length,←cx.length];exact hs)) ⟨ho,ho2,?_⟩;rw[e];exact zer R g (cv.append cx)
theorem STr.list (l₁:LH H x xs)(hs:xs.length≤sizeLine):STr pg w K Φ d x H (!xs.isEmpty) H:=fun ρ s A a ok R g p=>by
 obtain⟨c,vs,rfl,hl,cv⟩:=l₁.at R p;refine wpAny_truthy_list hl (by have:=cv.length;have:sizeLine=2 ^ 24:=rfl;simp;lia) ⟨?_,ρ,Moves.refl (by exact zad),R,g,rfl⟩
 cases cv<;>simp
theorem SC.ap (l₁:LH H x xs)(hs:xs.length≤sizeLine):SC pg w K Φ d (.builtin "len") [x] H (.int xs.length) H:=fun ρ s A vs ok R g p=>by
 refine VRs.oneE p fun _ p=> ?_
 obtain⟨c,vs,rfl,hl,cv⟩:=l₁.at R p;refine call_len_list hl (by have:=cv.length;have:sizeLine=2 ^ 24:=rfl;simp;lia) ?_;have:=cv.length;simp only[List.size_toArray,←this];exact PO.here R g .int
theorem SC.aU (hs:xs.length≤sizeLine):SC pg w K Φ d (.builtin "len") [.tup xs] H (.int xs.length) H:=fun ρ s A vs ok R g p=>by
 refine VRs.oneE p fun _ p=> ?_
 refine VR.tupE p fun _ _ hl n cv=> ?_
 refine PyProof.Rows.len_tuple hl (by have:=cv.length;have:sizeLine=2 ^ 24:=rfl;simp;lia) ?_;have:=cv.length;simp only[List.size_toArray,←this];exact PO.here R g .int
theorem SE.item {value slice:Expr}{k:Int}(a:SE pg w K Φ d sc value σ H x σ1 cn)(c:SE pg w K Φ d sc slice σ1 cn (.int k) cp cq)(l₁:LH cq x xs)(h0:0≤k)(hk:k < 2 ^ 63)(hv:xs[k.toNat]? =some v)
  (hs:∀a u,subscripted slice false (.ref a) (.int k u)=operate [.ref a,.int k u] (getItem (.ref a) (.int k u)):=by intro _ _;with_unfolding_all rfl):
  SE pg w K Φ d sc (.Subscript value slice pos) σ H v cp cq:=.mk fun env O ρ s A ok X=>by
 refine Subscript_ (a.into ok X fun a' cm ρ1 m X1 q o=> ?_)
 refine c.into ok X1 fun b' ct ρ2 m' X2 q' o'=> ?_
 obtain⟨c',vs,rfl,hl,cv⟩:=l₁.at X2.rel (q.moves m');cases q';obtain⟨v',e,qv⟩:=cv.get hv;exact tail_any hl.typeIs PySem.slot_list_getitem.lookup (wpAny_getItem_list hl h0 hk (by simpa using e) (((PV.here' X2 qv).then m' o').then m o)) (hs _ _)
theorem SE.aJ {value slice:Expr}{k:Int}(a:SE pg w K Φ d sc value σ H x σ1 cn)(c:SE pg w K Φ d sc slice σ1 cn (.int k) cp cq)(l₁:LH cq x xs)(h0:k < 0)(h1: -(xs.length:Int)≤k)(hk: -(2 ^ 63)≤k)(hv:xs[(k+xs.length).toNat]? =some v)
  (hs:∀a u,subscripted slice false (.ref a) (.int k u)=operate [.ref a,.int k u] (getItem (.ref a) (.int k u)):=by intro _ _;with_unfolding_all rfl):
  SE pg w K Φ d sc (.Subscript value slice pos) σ H v cp cq:=.mk fun env O ρ s A ok X=>by
 refine Subscript_ (a.into ok X fun a' cm ρ1 m X1 q o=> ?_)
 refine c.into ok X1 fun b' ct ρ2 m' X2 q' o'=> ?_
 obtain⟨c',vs,rfl,hl,cv⟩:=l₁.at X2.rel (q.moves m');cases q';obtain⟨v',e,qv⟩:=cv.get hv;have:=cv.length;exact tail_any hl.typeIs PySem.slot_list_getitem.lookup (wpAny_getItem_list_neg hl h0 (by simp only[List.size_toArray,←this];exact h1) hk (by simp only[List.size_toArray,←this];simpa using e) (((PV.here' X2 qv).then m' o').then m o)) (hs _ _)
structure SPart (pg:Program)(w:World)(K:Frag)(Φ:Fm)(d:Nat)(sc:Scope)(e:Option Expr)(σ:List (Str×AV))(H:List Cell)(i:Option Int)(σ':List (Str×AV))(H':List Cell):Prop where
 go:∀env O ρ s A,OkA Φ d A→St pg w K Φ env sc O σ H ρ s→wpAny (model pg w) A (evalPart e env)
  (fun v s'=>∃ρ',Moves O s.heap s'.heap ρ ρ'∧St pg w K Φ env sc O σ' H' ρ' s'∧(∃u:Option (Int×Tok),v=partValue u∧u.map (·.1)=i)∧s'.os=s.os) (fun _ _=>False) s
theorem SPart.none:SPart pg w K Φ d sc .none σ H .none σ H:=.mk fun env O ρ s A ok X=>by
 rw[evalPart_none];exact wpAny_pure ⟨ρ,X.refl,X,⟨.none,rfl,rfl⟩,rfl⟩
theorem SPart.some {i:Int}(a:SE pg w K Φ d sc e σ H (.int i) σ1 cn):SPart pg w K Φ d sc (.some e) σ H (.some i) σ1 cn:=.mk fun env O ρ s A ok X=>by
 show wpAny _ _ (eval e env) _ _ s
 exact a.into ok X fun a' cm ρ1 m X1 q o=>by
  refine VR.intE q fun t=> ?_;exact⟨ρ1,m,X1,⟨.some (i,t),rfl,rfl⟩,o⟩
theorem zg3 (u:Option (Int×Tok)):IsPart (partValue u) (u.map (·.1)):=by
 cases u with
 | none=>exact .none
 | some u=>exact .int u.1 u.2
noncomputable def cut (lo hi:Option Int)(xs:List AV):List AV:=
 (xs.drop (lo.elim 0 (clipAt xs.length))).take (hi.elim xs.length (clipAt xs.length) - lo.elim 0 (clipAt xs.length))
theorem zjg (n k:Nat):clipAt n (k:Int)=min k n:=by
 unfold clipAt;rw[if_neg (Int.not_lt.mpr (Int.natCast_nonneg k))]
 rcases Nat.le_total k n with h | h
 ·rw[Int.min_eq_left (Int.ofNat_le.mpr h),Int.max_eq_right (Int.natCast_nonneg _),Nat.min_eq_left h];rfl
 ·rw[Int.min_eq_right (Int.ofNat_le.mpr h),Int.max_eq_right (Int.natCast_nonneg _),Nat.min_eq_right h];rfl
theorem zgf (xs:List AV)(k:Nat):cut none (some (k:Int)) xs=xs.take k:=by
 show(xs.drop 0).take (clipAt xs.length k - 0)=_;rw[zjg,List.drop_zero,Nat.sub_zero,←List.take_eq_take_min]
theorem zm7 (xs:List AV)(k:Nat):cut (some (k:Int)) none xs=xs.drop k:=by
 show(xs.drop (clipAt xs.length k)).take (xs.length - clipAt xs.length k)=_;rw[zjg,List.take_of_length_le (by rw[List.length_drop];exact Nat.le_refl _)]
 rcases Nat.le_total k xs.length with h | h
 ·rw[Nat.min_eq_left h]
 ·rw[Nat.min_eq_right h,List.drop_length,List.drop_eq_nil_of_le h]
theorem SE.af {value:Expr}{p:Pos}{lower zfL:Option Expr}{lo hi:Option Int}(a:SE pg w K Φ d sc value σ H x σ1 cn)(bl:SPart pg w K Φ d sc lower σ1 cn lo cp cq)(bu:SPart pg w K Φ d sc zfL cp cq hi σ3 cy)
  (l₁:LH cy x xs) (hz:xs.length≤sizeLine)
  (hs:∀c i,subscripted (.Slice lower zfL .none p) false (.ref c) (.ref i)=operate [.ref i,.ref c] (getItem (.ref c) (.ref i)):=by intro _ _;with_unfolding_all rfl):
  SE pg w K Φ d sc (.Subscript value (.Slice lower zfL .none p) pos) σ H (.lst (cut lo hi xs)) σ3 cy:=.mk fun env O ρ s A ok X=>by
 refine Subscript_ (a.into ok X fun a' cm ρ1 cM X1 q cP=> ?_);refine wpAny_Slice (zac (bl.1 env O ρ1 cm A ok X1) fun b' ct ⟨ρ2,cu,X2,⟨ul,cz,cZ⟩,cw⟩=> ?_)
 refine zac (bu.1 env O ρ2 ct A ok X2) fun c' cA ⟨ρ3,m3,X3,⟨uu,cG,dq⟩,cJ⟩=> ?_
 rw[evalPart_none];refine wpAny_pure ?_;subst cz cG;obtain⟨c,vs,rfl,hl,cv⟩:=l₁.at X3.rel ((q.moves cu).moves m3);obtain⟨mv,R',n⟩:=zbe X3.rel {cls:=.type "slice",data:=.fields #[partValue ul,partValue uu,.none]};refine tail_any (hl.push _).typeIs PySem.slot_list_getitem.lookup (wpAny_getItem_list_slice (hl.push _) (Heap.IsSliceOf.new ..) (zg3 ul) (zg3 uu) .none (by decide) ?_ (by simp only[List.size_toArray,←cv.length];exact hz)) (hs _ _);rw[cZ,dq,slicePick_plain]
 have qs:VRs (cA.heap.push {cls:=.type "slice",data:=.fields #[partValue ul,partValue uu,.none]}) ρ3 (cut lo hi xs) (((vs.toArray.toList.drop (lo.elim 0 (clipAt vs.toArray.size))).take (hi.elim vs.toArray.size (clipAt vs.toArray.size) - lo.elim 0 (clipAt vs.toArray.size)))):=by
  unfold cut;simp only[List.size_toArray,←cv.length];exact((cv.moves mv).drop _).take _
 obtain⟨ρ4,m4,dU,dZ,v4,o4⟩:=zer (s:= {cA with heap:=cA.heap.push {cls:=.type "slice",data:=.fields #[partValue ul,partValue uu,.none]}}) R' X3.gens qs (t:=cA.toks);refine PV.then cM cP (PV.then cu cw (PV.then m3 cJ (PO.inFrame X3 ?_)));exact⟨ρ4,mv.trans m4,dU,dZ,v4,o4⟩
theorem POU.kept {H:List Cell} :KeptByPush (POU pg w K Φ s ρ H):=fun cm ob k ⟨ρ',m,R,g,o⟩=>by
 obtain⟨mv,R',n⟩:=zbe R ob;exact⟨ρ',m.trans mv,R',g,o⟩
theorem SE.ac {value:Expr}{p:Pos}{lower zfL:Option Expr}{lo hi:Option Int}{i:Str}(a:SE pg w K Φ d sc value σ H (.str i) σ1 cn)(bl:SPart pg w K Φ d sc lower σ1 cn lo cp cq)(bu:SPart pg w K Φ d sc zfL cp cq hi σ3 cy)
  (hz:i.length≤sizeLine)
  (hs:∀c t j,∃ops,subscripted (.Slice lower zfL .none p) false (.str c t) (.ref j)=operate ops (getItem (.str c t) (.ref j)):=by intro _ _ _;exact⟨_,by with_unfolding_all rfl⟩):
  SE pg w K Φ d sc (.Subscript value (.Slice lower zfL .none p) pos) σ H (.str (Txt.slice i lo hi)) σ3 cy:=.mk fun env O ρ s A ok X=>by
 refine Subscript_ (a.into ok X fun a' cm ρ1 cM X1 q cP=> ?_);refine wpAny_Slice (zac (bl.1 env O ρ1 cm A ok X1) fun b' ct ⟨ρ2,cu,X2,⟨ul,cz,cZ⟩,cw⟩=> ?_)
 refine zac (bu.1 env O ρ2 ct A ok X2) fun c' cA ⟨ρ3,m3,X3,⟨uu,cG,dq⟩,cJ⟩=> ?_
 rw[evalPart_none];refine wpAny_pure ?_;subst cz cG cZ dq
 refine VR.strE q fun t=> ?_
 obtain⟨ops,ho⟩:=hs i t cA.heap.objs.size
 refine tail_any (typeIs_str _ _ _) PySem.F.slot_str_getitem.lookup (wpAny_getItem_str_slice (l:=ul) (u:=uu) (st:=Option.none) ⟨_,Heap.get?_push_size _ rfl,rfl,rfl⟩ rfl
  (post_val_or_str ⟨Nat.le_trans (Txt.slice_le i _ _) hz,fun t' k=> ?_⟩)) ho
 obtain⟨mv,R',n⟩:=zbe X3.rel {cls:=.type "slice",data:=.fields #[partValue ul,partValue uu,.none]};refine PV.then cM cP (PV.then cu cw (PV.then m3 cJ (PO.inFrame X3 ?_)));exact⟨ρ3,mv,R',X3.gens,.str,rfl⟩
theorem GM.str {i:Str}{name:Str}{id:String}(slot:Slot "str" name id)(ty:typeOf (.builtin id)=pure (.type "method_descriptor")):GM pg w K Φ (.str i) name H (.builtin id):=
 GM.builtin PySem.F.plainAttrs_str slot ty fun ρ s a R q=>by cases q;exact⟨typeIs_str _ _ _,fun c e=>nomatch e⟩
theorem SC.startswith {i j:Str} :SC pg w K Φ d (.builtin "str.startswith") [.str i,.str j] H (.bool (Txt.startswith i j)) H:=fun ρ s A vs ok R g p=>by
 refine VRs.twoE p fun _ _ p q=> ?_;refine VR.strE p fun _=> ?_;refine VR.strE q fun _=> ?_
 exact call_gives PySem.F.slot_str_startswith (typeIs_str _ _ _) PySem.F.entry_str_startswith (PySem.F.args_str_startswith_2 _ _) (gives_str_startswith i j _ _) (PO.here' R g .bool)
theorem SC.endswith {i j:Str} :SC pg w K Φ d (.builtin "str.endswith") [.str i,.str j] H (.bool (Txt.endswith i j)) H:=fun ρ s A vs ok R g p=>by
 refine VRs.twoE p fun _ _ p q=> ?_;refine VR.strE p fun _=> ?_;refine VR.strE q fun _=> ?_
 exact call_gives PySem.F.slot_str_endswith (typeIs_str _ _ _) PySem.F.entry_str_endswith (PySem.F.args_str_endswith_2 _ _) (gives_str_endswith i j _ _) (PO.here' R g .bool)
noncomputable def txts (xs:List Str):List AV:=xs.map .str
theorem zmi {h:Heap} :∀(l:List (Str×Tok)),VRs h ρ (txts (l.map (·.1))) (strValues l):=by
 intro l
 induction l with
 | nil=>
  exact .nil
 | cons _ r ih=>
  exact .cons .str (ih)
theorem zkK {h:Heap} :∀{xs:List Str} {vs:List Value},VRs h ρ (txts xs) vs→∃l:List (Str×Tok),vs=strValues l∧l.map (·.1)=xs
 | [],_,.nil=>⟨[],rfl,rfl⟩
 | x::xs,_,.cons a q=>by
  obtain⟨l,e,f⟩:=zkK q
  refine VR.strE a fun t=> ?_;exact⟨(x,t)::l,by rw[e];rfl,by rw[←f];rfl⟩
theorem SC.split {i j:Str}(hj:(j.length==0)=false)(hi:i.length≤sizeLine)(hn:(Builtin.Str.partsBetween i (Builtin.Str.occurrences i j 0 i.length (i.length+1)) j.length).length≤sizeLine):
  SC pg w K Φ d (.builtin "str.split") [.str i,.str j] H (.lst (txts (Txt.split i j))) H:=fun ρ s A vs ok R g p=>by
 refine VRs.twoE p fun _ _ p q=> ?_;refine VR.strE p fun t=> ?_;refine VR.strE q fun u=> ?_
 have key:∀D l s',l.map (·.1)=Txt.split i j→POU pg w K Φ s ρ H s'→s'.heap.IsList D (strValues l).toArray→D=s.heap.objs.size→(∃t,∃o,s'= {s with heap:=s.heap.push o,toks:=t})→PO pg w K Φ s ρ H (.lst (txts (Txt.split i j))) (.ref D) s':=by
  rintro D l s' e ⟨ρ',m,R',g',o'⟩ hl rfl ⟨t,o,rfl⟩
  obtain⟨mv,cX,n⟩:=zbe R o;refine⟨ρ,mv,cX,g,.lst hl n ?_,rfl⟩
  rw[←e];exact zmi l
 have k0:POU pg w K Φ s ρ H s:=⟨ρ,Moves.refl (by exact zad),R,g,rfl⟩;cases h1:(decide (i.length < j.length)|| decide (Builtin.Str.strKind i < Builtin.Str.strKind j))
 ·cases hf:(Builtin.Str.occurrences i j 0 i.length (i.length+1)).isEmpty
  ·refine call_meets PySem.F.slot_str_split (typeIs_str _ _ _) PySem.F.entry_str_split (PySem.F.args_str_split_2 _ _) (meets_str_split_sep i j t u h1 hj hf hi hn) ?_
   show PO pg w K Φ s ρ H _ _ {s with toks:=_,heap:=s.heap.push {cls:=.type "list",data:=.seq (strsFrom s.toks (Builtin.Str.partsBetween i (Builtin.Str.occurrences i j 0 i.length (i.length+1)) j.length)).toArray}};rw[strsFrom_eq];exact key _ (numbered s.toks _) _ ((numbered_texts _ _).trans ((if_neg (ne_true_of_eq_false h1)).trans (if_neg (ne_true_of_eq_false hf))).symm) (POU.kept _ _ _ k0) ⟨_,Heap.get?_push_size _ rfl,rfl,_,rfl⟩ rfl ⟨_,_,rfl⟩
  ·exact call_meets PySem.F.slot_str_split (typeIs_str _ _ _) PySem.F.entry_str_split (PySem.F.args_str_split_2 _ _) (meets_str_split_not_found i j t u h1 hj hf)
    (key _ [(i,t)] _ ((if_neg (ne_true_of_eq_false h1)).trans (if_pos hf)).symm (POU.kept _ _ _ k0) ⟨_,Heap.get?_push_size _ rfl,rfl,_,rfl⟩ rfl ⟨s.toks,_,rfl⟩)
 ·exact call_meets PySem.F.slot_str_split (typeIs_str _ _ _) PySem.F.entry_str_split (PySem.F.args_str_split_2 _ _) (meets_str_split_cannot_occur i j t u h1)
   (key _ [(i,t)] _ (if_pos h1).symm (POU.kept _ _ _ k0) ⟨_,Heap.get?_push_size _ rfl,rfl,_,rfl⟩ rfl ⟨s.toks,_,rfl⟩)
theorem SC.join {i:Str}{ts:List Str}(l₁:LH H x (txts ts))(hok:JoinOk i ts=true):
  SC pg w K Φ d (.builtin "str.join") [.str i,x] H (.str (Txt.join i ts)) H:=fun ρ s A vs ok R g p=>by
 refine VRs.twoE p fun _ _ p q=> ?_;refine VR.strE p fun t=> ?_
 obtain⟨c,vs,rfl,hl,cv⟩:=l₁.at R q;obtain⟨l,rfl,rfl⟩:=zkK cv;unfold JoinOk at hok;rw[Bool.not_eq_true'] at hok;exact call_meets PySem.F.slot_str_join (typeIs_str _ _ _) PySem.F.entry_str_join (PySem.F.args_str_join_2 _ _) (meets_str_join_list i t c l hok) ⟨hl,post_join l ⟨joinFit_length hok,fun t' k=>PO.here R g .str⟩⟩
theorem GM.listO {i:Nat}{name:Str}{id:String}(e:H[i]? =some (.lst xs))(slot:Slot "list" name id)(ty:typeOf (.builtin id)=pure (.type "method_descriptor")):GM pg w K Φ (.obj i) name H (.builtin id):=
 GM.builtin PySem.F.plainAttrs_list slot ty fun ρ s a R q=>by
  refine VR.objE q fun _ f=> ?_
  refine CellAt.lstE (R.cell _ _ _ e f) fun _ _ u k=> ?_;exact⟨⟨_,u,rfl⟩,fun c e=>by(injection e with e;subst e);exact⟨_,u,rfl⟩⟩
theorem zel {i:Nat}{a:Addr}{vs vs':List Value}{n:Nat}{ys:List AV}(R:Rel pg w K Φ ρ H s.heap)(g:s.gens= #[])(f:ρ[i]? =some a)(u:IsL s.heap a vs.toArray n)(F:Array Value→Array Value)(hF:F vs.toArray=vs'.toArray)
  (q:VRs s.heap ρ ys vs'):POU pg w K Φ s ρ (H.set i (.lst ys)) {s with heap:=s.heap.update a (Obj.mapSeq F)} :=by
 have u':=u.update F;rw[hF] at u'
 obtain⟨R',m⟩:=R.set f (Heap.SameBut.update ..) (c:=.lst ys) fun m=>.lst u' (q.moves m)
 exact⟨ρ,m,R',g,rfl⟩
theorem SC.append {i:Nat}(e:H[i]? =some (.lst xs))(hz:xs.length≤sizeLine):SC pg w K Φ d (.builtin "list.append") [.obj i,x] H .none (H.set i (.lst (xs++ [x]))):=fun ρ s A vs ok R g p=>by
 obtain _ | @⟨_,_,_,_,p,q⟩:=p;obtain _ | @⟨_,a,_,_,q,q'⟩:=q;cases q'
 refine VR.objE p fun _ f=> ?_
 refine CellAt.lstE (R.cell _ _ _ e f) fun vs n u k=> ?_
 refine call_meets PySem.F.slot_list_append ⟨_,u,rfl⟩ PySem.F.entry_list_append (PySem.F.args_list_append_2 _ _) (list_append _ _ _ _ (by simp only[List.size_toArray,←k.length];exact hz)) ⟨u,?_⟩;obtain⟨ρ',m,R',g',o⟩:=zel R g f u (fun b=>b.push a) (vs':=vs++ [a]) (by simp) (k.append (.cons q .nil));exact⟨ρ',m,R',g',.none,o⟩
theorem SC.pop {i:Nat}(e:H[i]? =some (.lst (xs++ [x])))(hz:xs.length < sizeLine):SC pg w K Φ d (.builtin "list.pop") [.obj i] H x (H.set i (.lst xs)):=fun ρ s A vs ok R g p=>by
 refine VRs.oneE p fun _ p=> ?_
 refine VR.objE p fun _ f=> ?_
 refine CellAt.lstE (R.cell _ _ _ e f) fun vs n u k=> ?_
 obtain⟨ws,y,rfl,cv,cx⟩:∃ws y,vs=ws++ [y]∧VRs s.heap ρ xs ws∧VR s.heap ρ x y:=by
  have h1:=k.take xs.length;have h2:=k.drop xs.length;simp at h1 h2;have e:=(List.take_append_drop xs.length vs).symm;generalize List.drop xs.length vs=zs at h2 e
  cases h2 with | cons a b=>cases b;exact⟨_,_,e,h1,a⟩
 have hk:(ws++ [y]).toArray.size - 1=ws.length:=by rw[List.size_toArray,List.length_append];rfl
 refine call_meets PySem.F.slot_list_pop ⟨_,u,rfl⟩ PySem.F.entry_list_pop (PySem.F.args_list_pop_1 _) (PySem.MeetsSeq.list_pop_last _ _ n y (by rw[hk];simp) (by simp only[List.size_toArray,List.length_append,←cv.length,List.length_singleton];exact hz)) ⟨u,?_⟩
 obtain⟨ρ',m,R',g',o⟩:=zel R g f u (fun a=>a.eraseIdxIfInBounds ((ws++ [y]).toArray.size - 1)) (vs':=ws) (by
  rw[hk];apply Array.toList_inj.mp
  simp[List.eraseIdx_append_of_length_le]) cv
 exact⟨ρ',m,R',g',cx.moves m,o⟩
theorem SC.clear {i:Nat}(e:H[i]? =some (.lst xs))(hz:xs.length≤sizeLine):SC pg w K Φ d (.builtin "list.clear") [.obj i] H .none (H.set i (.lst [])):=fun ρ s A vs ok R g p=>by
 refine VRs.oneE p fun _ p=> ?_
 refine VR.objE p fun _ f=> ?_
 refine CellAt.lstE (R.cell _ _ _ e f) fun vs n u k=> ?_
 refine call_meets PySem.F.slot_list_clear ⟨_,u,rfl⟩ PySem.F.entry_list_clear (PySem.F.args_list_clear_1 _) (AutoSeq1.list_clear_list_0 _ _ _ (by simp only[List.size_toArray,←k.length];exact hz)) ⟨u,?_⟩;obtain⟨ρ',m,R',g',o⟩:=zel R g f u (fun _=> #[]) (vs':= []) rfl .nil;exact⟨ρ',m,R',g',.none,o⟩
end
end Mine
open PySem.SeqAt
section
namespace Mine
variable {pg:Program}{w:World}{K:Frag}{Φ:Fm}{d:Nat}{sc:Scope}{σ σ' σ1 cp σ3:List (Str×AV)}{H H' cn cq cy:List Cell}{v v1 v2 x y:AV}{A:Around}{s s':Shared}
 {env:Env} {O ρ ρ':List Addr} {E:Value→Shared→Prop} {e cz cG l r:Expr} {pos:Pos} {b cI cK:Bool} {xs ys:List AV}
mutual
inductive Eqv (H:List Cell):Nat→AV→AV→Prop
 | str {n} {x:Str} :Eqv H n (.str x) (.str x)
 | int {n} {x:Int} :Eqv H n (.int x) (.int x)
 | bool {n} {x:Bool} :Eqv H n (.bool x) (.bool x)
 | lst {n:Nat} {x y:AV} {xs ys:List AV} :LH H x xs→LH H y ys→Eqvs H n xs ys→Eqv H (n+1) x y
 | tup {n:Nat} {xs ys:List AV} :Eqvs H n xs ys→Eqv H (n+1) (.tup xs) (.tup ys)
inductive Eqvs (H:List Cell):Nat→List AV→List AV→Prop
 | nil {n} :Eqvs H n [] []
 | cons {n x y xs ys} :Eqv H n x y→Eqvs H n xs ys→Eqvs H n (x::xs) (y::ys)
end
theorem Eqvs.length {n:Nat}{xs ys}(q:Eqvs H n xs ys):xs.length=ys.length:=by
 induction xs generalizing ys with
 | nil=>cases q;rfl
 | cons x r ih=>cases q with | cons _ q=>exact congrArg (· +1) (ih q)
theorem zcf {n:Nat} :((List.range n).all fun _=>true)=true:=by simp
theorem Eqvs.at (R:Rel pg w K Φ ρ H s.heap){n:Nat}{xs ys:List AV}{A:Around}{vs ws:List Value}(q:Eqvs H n xs ys):A.units+n≤cLine→VRs s.heap ρ xs vs→VRs s.heap ρ ys ws→∀j (h1:j < vs.length) (h2:j < ws.length),EqAt A s vs[j] ws[j] true:=by
 refine Eqvs.rec (motive_1:=fun n x y _=>∀{A:Around} {a c:Value},A.units+n≤cLine→VR s.heap ρ x a→VR s.heap ρ y c→EqAt A s a c true)
  (motive_2:=fun n xs ys _=>∀{A:Around} {vs ws:List Value},A.units+n≤cLine→VRs s.heap ρ xs vs→VRs s.heap ρ ys ws→∀j (h1:j < vs.length) (h2:j < ws.length),EqAt A s vs[j] ws[j] true)
  ?str ?int ?bool ?lst ?tup ?nil ?cons q
 case str=>
  intro n x A a c _ p p'
  refine VR.strE p fun t=> ?_
  refine VR.strE p' fun u=> ?_
  have:=EqAt.str_str (A:=A) (s:=s) x t x u;rw[beq_self_eq_true] at this;exact this
 case int=>
  intro n x A a c _ p p'
  refine VR.intE p fun t=> ?_
  refine VR.intE p' fun u=> ?_
  have:=EqAt.int_int (A:=A) (s:=s) x t x u;rw[beq_self_eq_true] at this;exact this
 case bool=>
  intro n x A a c _ p p';refine VR.bn p ?_;refine VR.bn p' ?_
  have:=EqAt.bool_bool (A:=A) (s:=s) x x;rw[beq_self_eq_true] at this;exact this
 case lst=>
  intro n x y xs ys l₁ l₂ q ih A a c hu p p';obtain⟨a,vs,rfl,hl,cv⟩:=l₁.at R p;obtain⟨c,ws,rfl,hl',cx⟩:=l₂.at R p'
  by_cases h:a=c
  ·subst h;exact EqAt.same _
  have hsz:vs.toArray.size=ws.toArray.size:=by rw[List.size_toArray,List.size_toArray,←cv.length,←cx.length];exact q.length
  have:=RcAt.lists (e:=fun _=>true) hl hl' hsz (A:=A) (by lia) (fun j h1 h2=>ih (A:=A.in1) (by show A.units+1+n≤_;lia) cv cx j h1 h2);rw[zcf] at this;exact .of_refs h this
 case tup=>
  intro n xs ys q ih A a c hu p p'
  refine VR.tupE p fun vs a hl cM cv=> ?_
  refine VR.tupE p' fun ws c hl' cu cx=> ?_
  by_cases h:a=c
  ·subst h;exact EqAt.same _
  have:=RcAt.tuples (e:=fun _=>true) (A:=A) (s:=s) (l:=a) (b:=c) hl hl' (by lia) (fun j h1 h2=>ih (A:=A.in1) (by show A.units+1+n≤_;lia) cv cx j h1 h2);rw[zcf,Bool.true_and] at this
  have hsz:(vs.toArray.size==ws.toArray.size)=true:=by rw[List.size_toArray,List.size_toArray,←cv.length,←cx.length,q.length];exact beq_self_eq_true _
  rw[hsz] at this;exact .of_refs h this
 case nil=>
  intro n A vs ws _ p _ j h1;refine absurd h1 ?_;cases p;exact Nat.not_lt_zero _
 case cons=>
  intro n x y xs ys _ _ iha ihq A vs ws hu p r j h1 h2
  cases p with | cons p p'=>
  cases r with | cons r r'=>
  cases j with
  | zero=>exact iha hu p r
  | succ j=>exact ihq hu p' r' j (Nat.lt_of_succ_lt_succ h1) (Nat.lt_of_succ_lt_succ h2)
theorem SCmp.b6 {n:Nat}(l₁:LH H x xs)(l₂:LH H y ys)(q:Eqvs H n xs ys)(hn:n≤30:=by decide)(hd:1≤d:=by first | exact Nat.succ_pos _ | lia):SCmp pg w K Φ d .Eq x y H true H:=fun ρ s A a c ok R g p p'=>by
 obtain⟨a,vs,rfl,hl,cv⟩:=l₁.at R p;obtain⟨c,ws,rfl,hl',cx⟩:=l₂.at R p'
 have hsz:vs.toArray.size=ws.toArray.size:=by simp only[List.size_toArray,←cv.length,←cx.length];exact q.length
 have hu:=ok.units;exact eq_listAt (e:=fun _=>true) hl hl' hsz (by lia) (fun j h1 h2=>q.at R (A:=A.in1) (by show A.units+1+n≤_;lia) cv cx j (by simpa using h1) (by simpa using h2)) (by rw[zcf];exact PO.here' R g .bool)
theorem SCmp.bB {n:Nat}(l₁:LH H x xs)(l₂:LH H y ys)(q:Eqvs H n xs ys)(hn:n≤30:=by decide)(hd:1≤d:=by first | exact Nat.succ_pos _ | lia):SCmp pg w K Φ d .NotEq x y H false H:=fun ρ s A a c ok R g p p'=>by
 obtain⟨a,vs,rfl,hl,cv⟩:=l₁.at R p;obtain⟨c,ws,rfl,hl',cx⟩:=l₂.at R p'
 have hsz:vs.toArray.size=ws.toArray.size:=by simp only[List.size_toArray,←cv.length,←cx.length];exact q.length
 have hu:=ok.units;exact RcNeAt.lists (e:=fun _=>true) hl hl' hsz (by lia) (fun j h1 h2=>q.at R (A:=A.in1) (by show A.units+1+n≤_;lia) cv cx j (by simpa using h1) (by simpa using h2)) pg w _ _ (by rw[zcf];exact PO.here' R g .bool)
theorem SCmp.bA {n:Nat}(q:Eqvs H n xs ys)(hn:n≤30:=by decide)(hd:1≤d:=by first | exact Nat.succ_pos _ | lia):SCmp pg w K Φ d .NotEq (.tup xs) (.tup ys) H false H:=fun ρ s A a c ok R g p p'=>by
 refine VR.tupE p fun vs a hl m cv=> ?_
 refine VR.tupE p' fun ws c hl' m' cx=> ?_
 have hsz:(vs.toArray.size==ws.toArray.size)=true:=by simp only[List.size_toArray,←cv.length,←cx.length,q.length];simp
 have hu:=ok.units;exact RcNeAt.tuples (e:=fun _=>true) (l:=a) (b:=c) hl hl' (by lia) (fun j h1 h2=>q.at R (A:=A.in1) (by show A.units+1+n≤_;lia) cv cx j (by simpa using h1) (by simpa using h2)) pg w _ _ (by rw[zcf,hsz];exact PO.here' R g .bool)
theorem SCmp.ch (l₁:LH H x xs)(hd:1≤d:=by first | exact Nat.succ_pos _ | lia):SCmp pg w K Φ d .Eq x (.lst []) H xs.isEmpty H:=fun ρ s A a c ok R g p p'=>by
 obtain⟨a,vs,rfl,hl,cv⟩:=l₁.at R p
 refine VR.lstE p' fun _ _ hl' m cx=> ?_
 cases cx;have hu:=ok.units
 cases cv with
 | nil=>exact eq_listAt (e:=fun _=>true) hl hl' rfl (by lia) (fun j h1=>absurd h1 (Nat.not_lt_zero _)) (by rw[zcf];exact PO.here' R g .bool)
 | cons a b=>exact eq_list_lengthsAt hl hl' (by rfl) (by lia) (PO.here' R g .bool)
theorem SCmp.a9 (l₁:LH H x xs)(hd:1≤d:=by first | exact Nat.succ_pos _ | lia):SCmp pg w K Φ d .NotEq x (.lst []) H (!xs.isEmpty) H:=fun ρ s A a c ok R g p p'=>by
 obtain⟨a,vs,rfl,hl,cv⟩:=l₁.at R p
 refine VR.lstE p' fun _ _ hl' m cx=> ?_
 cases cx;have hu:=ok.units
 cases cv with
 | nil=>exact RcNeAt.lists (e:=fun _=>true) hl hl' rfl (by lia) (fun j h1=>absurd h1 (Nat.not_lt_zero _)) pg w _ _ (by rw[zcf];exact PO.here' R g .bool)
 | cons a b=>exact RcNeAt.lists_lengths hl hl' (by rfl) (by lia) pg w _ _ (PO.here' R g .bool)
noncomputable def zoF (x:Str):Value→Bool
 | .str y _=>y==x
 | _=>false
theorem zhz (x:Str){h:Heap} :∀{xs:List Str} {vs:List Value},VRs h ρ (txts xs) vs→vs.toArray.any (zoF x)=xs.any (· ==x)∧∀v∈vs,∃y t,v= .str y t
 | [],_,.nil=>by simp
 | z::zs,_,.cons a q=>by
  obtain⟨h1,h2⟩:=zhz x q;cases a;refine⟨?_,fun v hv=> ?_⟩
  ·simp only[List.any_toArray] at h1 ⊢
   simp only[List.any_cons,h1];rfl
  ·rcases List.mem_cons.mp hv with rfl | hv
   ·exact⟨_,_,rfl⟩
   ·exact h2 v hv
theorem SCmp.ag {i:Str}{zs:List Str}(l₁:LH H y (txts zs)):SCmp pg w K Φ d .NotIn (.str i) y H (!zs.any (· ==i)) H:=fun ρ s A a c ok R g p p'=>by
 obtain⟨c,vs,rfl,hl,cv⟩:=l₁.at R p'
 refine VR.strE p fun t=> ?_
 obtain⟨h1,h2⟩:=zhz i cv;refine notIn_listAt (zoF i) hl (fun y hy=> ?_) (by rw[h1];exact PO.here' R g .bool);obtain⟨z,u,rfl⟩:=h2 y (by simpa using hy);exact EqAt.str_str _ _ _ _
noncomputable def dset (es:List (Str×AV))(k:Str)(v:AV):List (Str×AV):=
 if es.any (fun kv=>kv.1=k) then es.map (fun kv=>if kv.1=k then (kv.1,v) else kv) else es++ [(k,v)]
noncomputable def ddel (es:List (Str×AV))(k:Str):List (Str×AV):=es.filter fun kv=>decide (kv.1≠k)
theorem ER.get {h:Heap}{k:Str}{es fs}(q:ER h ρ es fs):OVR h ρ (dget es k) (valueAt fs k):=by
 induction q with
 | nil=>exact .none
 | @cons j _ _ _ _ a _ ih=>
  unfold dget valueAt at ih ⊢;rw[List.find?_cons,List.find?_cons]
  by_cases e:j=k
  ·rw[decide_eq_true e];exact .some a
  ·rw[decide_eq_false e];exact ih
theorem ER.any {h:Heap}{k:Str}{es fs}(q:ER h ρ es fs):(es.any fun kv=>decide (kv.1=k))=(fs.any fun kv=>decide (kv.1=k)):=by
 induction q with
 | nil=>rfl
 | cons _ _ ih=>rw[List.any_cons,List.any_cons,ih]
theorem ER.setAt {h:Heap}{k:Str}{u:Value}(hv:VR h ρ v u){es fs}(q:ER h ρ es fs):ER h ρ (es.map fun kv=>if kv.1=k then (kv.1,v) else kv) (fs.map fun kv=>if kv.1=k then (kv.1,u) else kv):=by
 induction q with
 | nil=>exact .nil
 | @cons j _ _ _ _ a _ ih=>
  rw[List.map_cons,List.map_cons]
  by_cases e:j=k
  ·rw[if_pos e,if_pos e];exact .cons hv ih
  ·rw[if_neg e,if_neg e];exact .cons a ih
theorem ER.app {h:Heap}{k:Str}{u:Value}(hv:VR h ρ v u){es fs}(q:ER h ρ es fs):ER h ρ (es++ [(k,v)]) (fs++ [(k,u)]):=by
 induction q with
 | nil=>exact .cons hv .nil
 | cons a _ ih=>exact .cons a ih
theorem ER.set {h:Heap}{k:Str}{u:Value}{es fs}(q:ER h ρ es fs)(hv:VR h ρ v u):ER h ρ (dset es k v) (stored fs k u):=by
 unfold dset stored;rw[q.any]
 split
 ·exact q.setAt hv
 ·exact q.app hv
theorem ER.del {h:Heap}{k:Str}{es fs}(q:ER h ρ es fs):ER h ρ (ddel es k) (without fs k):=by
 induction q with
 | nil=>exact .nil
 | @cons j _ _ _ _ a _ ih=>
  unfold ddel without at ih ⊢;rw[List.filter_cons,List.filter_cons]
  by_cases e:j=k
  ·rw[if_neg (by simpa using e),if_neg (by simpa using e)];exact ih
  ·rw[if_pos (by simpa using e),if_pos (by simpa using e)];exact .cons a ih
theorem ER.length {h:Heap}{es fs}(q:ER h ρ es fs):es.length=fs.length:=by
 induction q with
 | nil=>rfl
 | cons _ _ ih=>exact congrArg (· +1) ih
theorem zdV {h:Heap}{k:Str}{a:Value}(p:VR h ρ (.str k) a):(strKind pg w).is k a=true:=by
 cases p;exact strKind_is pg w k _
theorem zgR {g b:Str→Option Value}(T:TopOk K g b){h:Heap}(R:Rel pg w K Φ ρ H h){i:Nat}{a:Addr}(f:ρ[i]? =some a):(a==sysModules)=false:=by
 rw[beq_eq_false_iff_ne]
 rintro rfl
 exact T.mods (R.apart _ (zbC f))
theorem OVR.getD {h:Heap}{o:Option AV}{u:Option Value}(q:OVR h ρ o u){y:AV}{c:Value}(p:VR h ρ y c):VR h ρ (o.getD y) (u.getD c):=by
 cases q with
 | none=>exact p
 | some a=>exact a
theorem OVR.isSome {h:Heap}{o:Option AV}{u:Option Value} :OVR h ρ o u→u.isSome=o.isSome
 | .none=>rfl
 | .some _=>rfl
theorem SC.bD {g b:Str→Option Value}(T:TopOk K g b){i:Nat}{es:List (Str×AV)}{ep:Option Nat}{k:Str}(e:H[i]? =some (.dct es ep)):SC pg w K Φ d (.builtin "dict.get") [.obj i,.str k] H ((dget es k).getD .none) H:=fun ρ s A vs ok R g p=>by
 refine VRs.twoE p fun _ _ p q=> ?_
 refine VR.objE p fun _ f=> ?_
 refine CellAt.dctE (R.cell _ _ _ e f) fun _ _ D E z=> ?_
 exact call_meetsIn PySem.F.slot_dict_get D.dictOf.typeIs PySem.F.entry_dict_get (PySem.F.args_dict_get_2 _ _) (meets_dict_get (strKind pg w) _ (zdV q) (zgR T R f)) ⟨_,D.dictOf.mapOf,PO.here R g (E.get.getD .none)⟩
theorem SC.bS {g b:Str→Option Value}(T:TopOk K g b){i:Nat}{es:List (Str×AV)}{ep:Option Nat}{k:Str}(e:H[i]? =some (.dct es ep)):SC pg w K Φ d (.builtin "dict.get") [.obj i,.str k,x] H ((dget es k).getD x) H:=fun ρ s A vs ok R g p=>by
 refine VRs.bk p fun _ _ _ p q q'=> ?_
 refine VR.objE p fun _ f=> ?_
 refine CellAt.dctE (R.cell _ _ _ e f) fun _ _ D E z=> ?_
 exact call_meetsIn PySem.F.slot_dict_get D.dictOf.typeIs PySem.F.entry_dict_get (PySem.F.args_dict_get_3 _ _ _) (meets_dict_get_default (strKind pg w) _ (zdV q) (zgR T R f) _) ⟨_,D.dictOf.mapOf,PO.here R g (E.get.getD q')⟩
theorem GM.dict {i:Nat}{es:List (Str×AV)}{ep:Option Nat}{name:Str}{id:String}(e:H[i]? =some (.dct es ep))(slot:Slot "dict" name id)(ty:typeOf (.builtin id)=pure (.type "method_descriptor")):GM pg w K Φ (.obj i) name H (.builtin id):=
 GM.builtin PySem.F.plainAttrs_dict slot ty fun ρ s a R q=>by
  refine VR.objE q fun _ f=> ?_
  refine CellAt.dctE (R.cell _ _ _ e f) fun _ _ D E z=> ?_;exact⟨D.dictOf.typeIs,D.dictOf.mapOf.noDict⟩
theorem SCmp.b5 {g b:Str→Option Value}(T:TopOk K g b){i:Nat}{es:List (Str×AV)}{ep:Option Nat}{k:Str}(e:H[i]? =some (.dct es ep)):SCmp pg w K Φ d .In (.str k) (.obj i) H (dget es k).isSome H:=fun ρ s A a c ok R g p q=>by
 refine VR.objE q fun _ f=> ?_
 refine CellAt.dctE (R.cell _ _ _ e f) fun fs _ D E z=> ?_
 refine wpAny_in_of (zdV p) (zgR T R f) D.dictOf.mapOf ?_
 rw[(E.get (k:=k)).isSome];exact PO.here R g .bool
theorem SE.dictItem {value slice:Expr}{i:Nat}{es:List (Str×AV)}{ep:Option Nat}{k:Str}(a:SE pg w K Φ d sc value σ H (.obj i) σ1 cn)(c:SE pg w K Φ d sc slice σ1 cn (.str k) cp cq)(e:cq[i]? =some (.dct es ep))(hv:dget es k=some v)
  (hs:∀a t,subscripted slice false (.ref a) (.str k t)=operate [.ref a,.str k t] (getItem (.ref a) (.str k t)):=by intro _ _;with_unfolding_all rfl):
  SE pg w K Φ d sc (.Subscript value slice pos) σ H v cp cq:=.mk fun env O ρ s A ok X=>by
 refine Subscript_ (a.into ok X fun a' cm ρ1 m X1 q o=> ?_)
 refine c.into ok X1 fun b' ct ρ2 m' X2 q' o'=> ?_
 have cx:=q.moves m'
 refine VR.objE cx fun _ f=> ?_
 refine CellAt.dctE (X2.rel.cell _ _ _ e f) fun _ _ D E z=> ?_
 have hk:=zdV (pg:=pg) (w:=w) q'
 cases q' with | @str _ t=>
 have h:=E.get (k:=k);rw[hv] at h;generalize hu:valueAt _ k=u at h
 cases h with | some h=>
 exact tail_any D.dictOf.typeIs PySem.F.slot_dict_getitem.lookup (wpAny_getItem_of hk D.dictOf.mapOf hu (((PV.here X2 h).then m' o').then m o)) (hs _ _)
theorem zem {i:Nat}{a:Addr}{es:List (Str×AV)}{fs:List (Str×Value)}{h':Heap}(R:Rel pg w K Φ ρ H s.heap)(g:s.gens= #[])(f:ρ[i]? =some a)(D:h'.DictOf (strKind pg w) a fs)(hs:Heap.SameBut a s.heap h')
  (q:ER s.heap ρ es fs) {t:Nat} :POU pg w K Φ s ρ (H.set i (.dct es .none)) {s with heap:=h',toks:=t} :=by
 obtain⟨ep,D'⟩:=D.dictAt
 obtain⟨R',m⟩:=R.set f hs (c:=.dct es .none) fun m=>.dct D' (q.moves m) (fun n e=>nomatch e)
 exact⟨ρ,m,R',g,rfl⟩
theorem SA.dictItem {o k':Expr}{i:Nat}{es:List (Str×AV)}{ep:Option Nat}{k:Str}(a:SE pg w K Φ d sc o σ H (.obj i) σ1 cn)(c:SE pg w K Φ d sc k' σ1 cn (.str k) cp cq)(e:cq[i]? =some (.dct es ep))(hz:es.length≤sizeLine):
  SA pg w K Φ d sc (.Subscript o k' pos) x σ H cp (cq.set i (.dct (dset es k x) .none)):=.mk fun env O ρ s A u ok X hu=>by
 rw[arm_assign_Subscript];refine wpAny_bind (wpAny_holding (a.into ok X fun a' cm ρ1 m X1 q o=> ?_));refine wpAny_bind (wpAny_holding (c.into ok X1 fun b' ct ρ2 m' X2 q' o'=> ?_));refine wpAny_bind (wpAny_standAt ?_);have cx:=q.moves m'
 refine VR.objE cx fun _ f=> ?_
 refine CellAt.dctE (X2.rel.cell _ _ _ e f) fun _ _ D E z=> ?_
 refine wpAny_bind (wpAny_holding (wpAny_setItem_pairs (zdV (pg:=pg) (w:=w) q') D.dictOf (fun h' D' hs=>wpAny_release ?_) (by rw[←E.length];exact hz)));exact(((zem X2.rel X2.gens f D' hs (E.set ((hu.moves m).moves m'))).inFrame X2).then m' o').then m o
theorem SS.bG {o k':Expr}{p:Pos}{i:Nat}{es:List (Str×AV)}{ep:Option Nat}{k:Str}(a:SE pg w K Φ d sc o σ H (.obj i) σ1 cn)(c:SE pg w K Φ d sc k' σ1 cn (.str k) cp cq)(e:cq[i]? =some (.dct es ep))(hz:es.length≤sizeLine)(hk:(dget es k).isSome=true):
  SS pg w K Φ d sc (.Delete [.Subscript o k' p] pos) σ H .next cp (cq.set i (.dct (ddel es k) .none)):=.mk fun env O ρ s A ok X=>by
 refine wpAny_Delete (wpAny_deleteEach_cons (wpAny_delete_Subscript ?_))
 refine a.into ok X fun a' cm ρ1 m X1 q o=> ?_
 refine c.into ok X1 fun b' ct ρ2 m' X2 q' o'=> ?_
 have cx:=q.moves m'
 refine VR.objE cx fun _ f=> ?_
 refine CellAt.dctE (X2.rel.cell _ _ _ e f) fun fs _ D E z=> ?_
 have hd:(valueAt fs k).isSome=true:=(E.get (k:=k)).isSome.trans hk;refine wpAny_delItem_slot D.dictOf.typeIs (by decide) PySem.F.slot_dict_delitem
  (call_meetsIn PySem.F.slot_dict_delitem D.dictOf.typeIs PySem.F.entry_dict_delitem (PySem.F.args_dict_delitem_2 _ _) (meets_dict_delitem_pairs (strKind pg w) _ (zdV q')) ⟨fs,D.dictOf,by rw[←E.length];exact hz,hd,fun h' D' hs=> ?_⟩)
 refine wpAny_deleteEach_nil ?_;obtain⟨ρ3,m3,X3,cJ⟩:=(((zem X2.rel X2.gens f D' hs E.del (t:=ct.toks+1)).inFrame X2).then m' o').then m o;exact⟨ρ3,m3,X3,trivial,cJ⟩
end Mine
end
namespace Mine
section
variable {pg:Program}{w:World}{K:Frag}{Φ:Fm}{d:Nat}{sc:Scope}{σ σ' σ1 cp σ3:List (Str×AV)}{H H' cn cq cy:List Cell}{v v1 v2 x y:AV}{A:Around}{s s':Shared}
 {env:Env} {O ρ ρ':List Addr} {E:Value→Shared→Prop} {e cz cG l r o:Expr} {pos:Pos} {b cI cK:Bool} {xs ys:List AV} {C:Addr} {name:Str} {i dd:Nat} {es:List (Str×AV)}
theorem zhk (es:List (Str×AV))(k:Str)(v:AV)(j:Str):dget (dset es k v) j=if j=k then some v else dget es j:=by
 unfold dget dset
 by_cases ha:(es.any fun kv=>decide (kv.1=k))=true
 ·rw[if_pos ha,List.find?_map,Option.map_map]
  have e:((fun kv:Str×AV=>decide (kv.1=j)) ∘ fun kv=>if kv.1=k then (kv.1,v) else kv)=fun kv=>decide (kv.1=j):=by
   funext kv;show decide ((if kv.1=k then (kv.1,v) else kv).1=j)=_
   by_cases z:kv.1=k
   ·rw[if_pos z]
   ·rw[if_neg z]
  rw[e]
  cases hf:es.find? fun kv=>decide (kv.1=j) with
  | none=>
   by_cases h:j=k
   ·subst h
    obtain⟨x,hx,q⟩:=List.any_eq_true.mp ha;exact absurd q (List.find?_eq_none.mp hf x hx)
   ·rw[if_neg h];rfl
  | some x=>
   have q:x.1=j:=of_decide_eq_true (p:=x.1=j) (List.find?_some (p:=fun kv:Str×AV=>decide (kv.1=j)) hf);show some (if x.1=k then (x.1,v) else x).2=_;rw[q]
   by_cases h:j=k
   ·rw[if_pos h,if_pos h]
   ·rw[if_neg h,if_neg h];rfl
 ·rw[if_neg ha,List.find?_append]
  by_cases h:j=k
  ·subst h
   have e:es.find? (fun kv=>decide (kv.1=j))=none:=List.find?_eq_none.mpr fun x hx q=>ha (List.any_eq_true.mpr ⟨x,hx,q⟩)
   rw[e,if_pos rfl,List.find?_cons_of_pos (p:=fun kv:Str×AV=>decide (kv.1=j)) (decide_eq_true rfl)];rfl
  ·rw[if_neg h,List.find?_cons_of_neg (p:=fun kv:Str×AV=>decide (kv.1=j)) (fun z=>h (of_decide_eq_true z).symm)]
   show((es.find? _).or none).map _=_;rw[Option.or_none]
theorem zgZ {h:Heap}{a:Addr}{m:Str→Option Value}(hn:h.Ns a m):∃od,h.get? a=some od∧∀k,lookIn k od=some (m k):=by
 obtain⟨o,es,ep,ho,hd,hs,hf⟩:=hn;refine⟨o,ho,fun k=> ?_⟩;have this:=hf k;unfold nsFind findBy at this;rw[←Array.find?_toList] at this;unfold lookIn;rw[hd];dsimp only;rw[←this]
 cases es.toList.find? fun e=>e.key.isStr k with
 | some e=>rfl
 | none=>
  refine(if_neg fun z=> ?_).trans rfl;obtain⟨e,hm,hr⟩:=List.any_eq_true.mp z;obtain⟨n,t,hk⟩:=hs e (by simpa using hm);simp[DictEntry.refKey,hk] at hr
structure InstCls (K:Frag)(C:Addr):Prop where
 ga:findIn K (.ref C) "__getattribute__" =some (some (.builtin "object.__getattribute__"))
 hk:findIn K (.ref C) "__getattr__" =some none
 sa:findIn K (.ref C) "__setattr__" =some (some (.builtin "object.__setattr__"))
 over:plainOver K C=true
 dict:(clsIn K C).any (·.hasDict)=true
theorem zf9 {h:Heap}{a:Addr}(R:Rel pg w K Φ ρ H h)(e:H[i]? =some (.inst C dd))(e':H[dd]? =some (.ns es))(f:ρ[i]? =some a):
  ∃od dx m,InstAt h a ⟨.ref C,some dx,.plain,#[]⟩ C (some od)∧ρ[dd]? =some dx∧h.get? dx=some od∧h.Ns1 dx m∧(∀k,OVR h ρ (dget es k) (m k))∧∀k,lookIn k od=some (m k):=by
 refine CellAt.bU (R.cell _ _ _ e f) fun dx f' ho=> ?_
 refine CellAt.nsE (R.cell _ _ _ e' f') fun _ hn q=> ?_
 obtain⟨od,hod,hl⟩:=zgZ hn.ns;exact⟨od,dx,_,⟨ho,rfl,rfl,hod⟩,f',hod,hn,q,hl⟩
noncomputable def zcU:AV→Bool
 | .cst _=>false
 | _=>true
theorem zdX {h:Heap}{a:Value}(hx:zcU x=true)(p:VR h ρ x a):handedIn a=true:=by
 cases p<;>first | rfl | exact ftE hx
theorem zmO {od:Obj}{u:Value}(F:InstCls K C)(hn:findIn K (.ref C) name=some none)(hl:lookIn name od=some (some u)):findObj K C (some od) name=some (.value u):=by
 obtain⟨cd,hc,hd⟩:=any_some F.dict;unfold findObj;rw[hc,Option.bind_some,hn,Option.bind_some]
 have:W.ownOf cd (some od) name=some (some u):=by unfold W.ownOf;rw[if_pos hd];exact hl
 show(W.ownOf cd (some od) name).bind _=_
 rw[this];rfl
theorem zi4 {u:Value}{a:Addr}{expr:Bool}{Q:Value→Shared→Prop}(R:Rel pg w K Φ ρ H s.heap)(F:InstCls K C)(hn:findIn K (.ref C) name=some none)(e:H[i]? =some (.inst C dd))(e':H[dd]? =some (.ns es))(f:ρ[i]? =some a)
  (hv:dget es name=some v) (hp:zcU v=true) (h:∀u,VR s.heap ρ v u→Q u {s with toks:=s.toks+1}):wpAny (model pg w) A (getAttr (.ref a) name expr) Q E s:=by
 obtain⟨od,dx,m,I,f',hod,hN,q,hl⟩:=zf9 R e e' f;have q':=q name;rw[hv] at q';generalize hm:m name=u at q'
 cases q' with | some q'=>
 exact get_value R.top I F.ga (zmO F hn ((hl name).trans (by rw[hm]))) (zdX hp q') (h _ q')
theorem SE.attr (a:SE pg w K Φ d sc o σ H (.obj i) σ1 cn)(F:InstCls K C)(hn:findIn K (.ref C) name=some Option.none)(e:cn[i]? =some (.inst C dd))(e':cn[dd]? =some (.ns es))(hv:dget es name=some v)(hp:zcU v=true)
  (hb:∀env whole,attributeBase o name env whole=whole:=by intro _ _;rfl):SE pg w K Φ d sc (.Attribute o name pos) σ H v σ1 cn:=.mk fun env O ρ s A ok X=>by
 rw[arm_eval_Attribute,hb];refine wpAny_bind (a.into ok X fun a' cm ρ1 m X1 q o'=>wpAny_bind (wpAny_standAt (wpAny_bind (wpAny_holding ?_))))
 refine VR.objE q fun _ f=> ?_
 exact zi4 (u:=.none) X1.rel F hn e e' f hv hp fun u q=>wpAny_bind (wpAny_letTemporaryGo (wpAny_pure ((PV.here X1 q).then m o')))
theorem zkw {h:Heap}{m:Str→Option Value}(q:∀k,OVR h ρ (dget es k) (m k)):Within m (es.map (·.1)):=fun y hy=>by
 have:=q y
 cases hd:dget es y with
 | none=>rw[hd] at this;generalize m y=u at this hy;cases this;exact absurd rfl hy
 | some v=>
  unfold dget at hd;obtain⟨p,hp,_⟩:=Option.map_eq_some_iff.mp hd;have h1:=List.find?_some hp;have h2:=List.mem_of_find?_eq_some hp;exact List.mem_map.mpr ⟨p,h2,of_decide_eq_true h1⟩
theorem ziJ {u:Value}{a:Addr}{Q:Unit→Shared→Prop}(R:Rel pg w K Φ ρ H s.heap)(g:s.gens= #[])(F:InstCls K C)(hn:findIn K (.ref C) name=some none)(e:H[i]? =some (.inst C dd))(e':H[dd]? =some (.ns es))(f:ρ[i]? =some a)
  (hz:es.length≤1000) (hv:VR s.heap ρ v u) (h:∀s',POU pg w K Φ s ρ (H.set dd (.ns (dset es name v))) s'→Q () s'):wpAny (model pg w) A (setAttr (.ref a) name u) Q E s:=by
 obtain⟨od,dx,m,I,f',hod,hN,q,hl⟩:=zf9 R e e' f;obtain⟨cd,hc,hd'⟩:=any_some F.dict;refine set_plain R.top I F.sa (osa_open (r:=.none) R.top I F.over (by unfold takerIn;rw[hn];rfl) fun b=> ?_);have hx:=I.at_;unfold Builtin.ObjectAttr.storeInOwnDict;refine wpAny_bind (wpAny_pure (wpAny_bind (wpAny_bind (wpAny_loadPart hx (wpAny_bind ((looks_clsIn (h:=s.heap) R.top hc) _ _ _ _ (fun _ _ e=>e) ?_))))));rw[hd'];refine wpAny_pure (a:=some dx) (wpAny_bind (wpAny_pure (wpAny_bind ?_)))
 refine wpAny_nsSet1 (s:= {s with toks:=s.toks+1}) hN fun h' hn' hs=> ?_
 obtain⟨oD,esD,epD,hoD,hdD,hcD⟩:=hn'.count (Within.cons name u (zkw q));refine wpAny_bind (wpAny_lookBehind hoD (by rw[hdD];exact pastItsLine_dict (Nat.le_trans hcD (by rw[List.length_cons,List.length_map,sizeLine_eq];exact slK ‹_› rfl))) ?_);refine wpAny_pure (h _ ?_)
 have hcell:Moves [] s.heap h' ρ ρ→CellAt pg w h' ρ dx (.ns (dset es name v)):=fun mv=>.ns hn' fun k=>by
  rw[zhk]
  by_cases hk:k=name
  ·rw[if_pos hk,if_pos hk];exact .some (hv.moves mv)
  ·rw[if_neg hk,if_neg hk];exact(q k).moves mv
 obtain⟨R',mv⟩:=R.set f' hs hcell;exact⟨ρ,mv,R',g,rfl⟩
theorem SA.attr (a:SE pg w K Φ d sc o σ H (.obj i) σ1 cn)(F:InstCls K C)(hn:findIn K (.ref C) name=some Option.none)(e:cn[i]? =some (.inst C dd))(e':cn[dd]? =some (.ns es))(hz:es.length≤1000):
  SA pg w K Φ d sc (.Attribute o name pos) x σ H σ1 (cn.set dd (.ns (dset es name x))):=.mk fun env O ρ s A u ok X hu=>by
 rw[arm_assign_Attribute];refine wpAny_bind (wpAny_holding (a.into ok X fun a' cm ρ1 m X1 q o'=>wpAny_bind (wpAny_standAt (wpAny_bind (wpAny_holding ?_)))))
 refine VR.objE q fun _ f=> ?_
 exact ziJ X1.rel X1.gens F hn e e' f hz (hu.moves m) fun s' z=>wpAny_release ((z.inFrame X1).then m o')
theorem SS.aZ {value:Expr}{op:Operator}{tp:Pos}(a:SE pg w K Φ d sc o σ H (.obj i) σ1 cn)(F:InstCls K C)(hn:findIn K (.ref C) name=some Option.none)(e:cn[i]? =some (.inst C dd))(e':cn[dd]? =some (.ns es))(hv:dget es name=some v)(hp:zcU v=true)
  (c:SE pg w K Φ d sc value σ1 cn y cp cq) (op':SI pg w K Φ d op v y cq x cy) {dd':Nat} {es':List (Str×AV)} (g:cy[i]? =some (.inst C dd')) (g':cy[dd']? =some (.ns es')) (hz:es'.length≤1000):
  SS pg w K Φ d sc (.AugAssign (.Attribute o name tp) op value pos) σ H .next cp (cy.set dd' (.ns (dset es' name x))):=.mk fun env O ρ s A ok X=>by
 rw[arm_exec_AugAssign_2];refine wpAny_bind (wpAny_standAt (wpAny_bind (a.into ok X fun a' cm ρ1 m X1 q o'=>wpAny_bind (wpAny_holding (wpAny_bind (wpAny_standAt (wpAny_bind ?_)))))))
 refine VR.objE q fun _ f=> ?_
 refine zi4 (u:=.none) X1.rel F hn e e' f hv hp fun u qu=>wpAny_bind (wpAny_holding ?_)
 have X1':=X1.tok (cm.toks+1)
 refine c.into ok X1' fun b' ct ρ2 cu X2 cx cw=>wpAny_bind (wpAny_standAt ?_)
 refine wpAny_operating (zac (op' ρ2 ct A u b' ok X2.rel X2.gens (qu.moves cu) cx) fun v' cA cT=>wpAny_bind (wpAny_standAt (wpAny_bind (wpAny_holding ?_))));obtain⟨ρ3,m3,X3,cS,cJ⟩:=cT.inFrame X2
 exact ziJ X3.rel X3.gens F hn g g' (m3.ext.get (cu.ext.get f)) hz cS fun s' z=>wpAny_bind (wpAny_release (wpAny_pure (by
  obtain⟨ρ4,m4,X4,o4⟩:=z.inFrame X3
  exact⟨ρ4,((m.trans cu).trans m3).trans m4,X4,trivial,((o4.trans cJ).trans cw).trans o'⟩)))
theorem GM.inst {f:Addr}(F:InstCls K C)(hf:findIn K (.ref C) name=some (some (.ref f)))(ht:typeIn K (.ref f)=some (.type "function"))(e:H[i]? =some (.inst C dd))(e':H[dd]? =some (.ns es))(hv:dget es name=Option.none):
  GM pg w K Φ (.obj i) name H (.ref f):=fun ρ s A a pl Q E R q h=>by
 cases q with | obj f'=>
 obtain⟨od,dx,m,I,f'',hod,hN,q,hl⟩:=zf9 R e e' f';refine method_fn R.top I F.ga F.hk hf ht ?_ h;have q':=q name;rw[hv] at q';generalize hm:m name=u at q';cases q';unfold shadowIn;dsimp only
 rw[hl name,hm];rfl
end
section
variable {pg:Program}{w:World}{K:Frag}{Φ:Fm}{d:Nat}{sc:Scope}{σ σ' σ1 cp σ3:List (Str×AV)}{H H' cn cq cy:List Cell}{v v1 v2 x y:AV}{A:Around}{s s':Shared}
 {env:Env} {O ρ ρ':List Addr} {E:Value→Shared→Prop} {e cz cG l r o:Expr} {pos:Pos} {b cI cK:Bool} {xs ys:List AV} {C:Addr} {name:Str} {i dd:Nat} {es:List (Str×AV)} {nd np su:Option AV}
structure SlotAttr (K:Frag)(name:Str)(p:Addr)(j:Nat):Prop where
 cd:(clsIn K za3).isSome=true
 find:findIn K (.ref za3) name=some (some (.ref p))
 get:specialIn K (.ref p) "__get__" =some (some (.builtin "member_descriptor.__get__"))
 takes:takesIn K (.ref p)=some true
 ty:typeIn K (.ref p)=some (.type "member_descriptor")
 slot:slotIn K p za3=some j
structure InfoCls (K:Frag):Prop where
 ga:findIn K (.ref za3) "__getattribute__" =some (some (.builtin "object.__getattribute__"))
 hk:findIn K (.ref za3) "__getattr__" =some none
 sa:findIn K (.ref za3) "__setattr__" =some (some (.builtin "object.__setattr__"))
 over:plainOver K za3=true
theorem zlu {h:Heap}{a:Addr}{d:Nat}(R:Rel pg w K Φ ρ H h)(e:H[i]? =some (.info d nd np su))(e':H[d]? =some (.ns es))(f:ρ[i]? =some a):
  ∃od dx sl,InstAt h a ⟨.ref za3,some dx,.plain,sl⟩ za3 (some od)∧ρ[d]? =some dx∧(∀j,OVR h ρ (iget nd np su j) (sl[j]?).join):=by
 refine CellAt.bV (R.cell _ _ _ e f) fun dx sl f' ho q=> ?_
 refine CellAt.nsE (R.cell _ _ _ e' f') fun _ hn q'=> ?_
 obtain⟨od,hod,hl⟩:=zgZ hn.ns;exact⟨od,dx,sl,⟨ho,rfl,rfl,hod⟩,f',q⟩
theorem zlF {od:Obj}{p:Addr}{j:Nat}(F:SlotAttr K name p j):findObj K za3 (some od) name=some (.bind (.builtin "member_descriptor.__get__") (.ref p)):=by
 obtain⟨cd,hc⟩:=Option.isSome_iff_exists.mp F.cd;unfold findObj;rw[hc,Option.bind_some,F.find,Option.bind_some];dsimp only;rw[F.get,Option.bind_some];dsimp only;rw[F.takes,Option.bind_some]
theorem zi3 {a:Addr}{p:Addr}{j d:Nat}{expr:Bool}{Q:Value→Shared→Prop}(R:Rel pg w K Φ ρ H s.heap)(G:InfoCls K)(F:SlotAttr K name p j)(e:H[i]? =some (.info d nd np su))(e':H[d]? =some (.ns es))(f:ρ[i]? =some a)
  (hv:iget nd np su j=some v) (hp:zcU v=true) (h:∀u,VR s.heap ρ v u→Q u {s with toks:=s.toks+1}):wpAny (model pg w) A (getAttr (.ref a) name expr) Q E s:=by
 obtain⟨od,dx,sl,I,f',q⟩:=zlu R e e' f;have q':=q j;rw[hv] at q';generalize hm:(sl[j]?).join=u at q'
 cases q' with | some q'=>
 refine get_bind R.top I G.ga (zlF F) G.hk (wpAny_call (slot_get (s:= {s with toks:=s.toks+1}) R.top I F.slot hm ?_));show wpAny _ _ (handedOut _) _ _ _;rw[handedOut_of (zdX hp q')];exact wpAny_pure (h _ q')
theorem SE.slot {p:Addr}{j d':Nat}(a:SE pg w K Φ d sc o σ H (.obj i) σ1 cn)(G:InfoCls K)(F:SlotAttr K name p j)(e:cn[i]? =some (.info d' nd np su))(e':cn[d']? =some (.ns es))(hv:iget nd np su j=some v)(hp:zcU v=true)
  (hb:∀env whole,attributeBase o name env whole=whole:=by intro _ _;rfl):SE pg w K Φ d sc (.Attribute o name pos) σ H v σ1 cn:=.mk fun env O ρ s A ok X=>by
 rw[arm_eval_Attribute,hb];refine wpAny_bind (a.into ok X fun a' cm ρ1 m X1 q o'=>wpAny_bind (wpAny_standAt (wpAny_bind (wpAny_holding ?_))))
 refine VR.objE q fun _ f=> ?_
 exact zi3 X1.rel G F e e' f hv hp fun u q=>wpAny_bind (wpAny_letTemporaryGo (wpAny_pure ((PV.here X1 q).then m o')))
noncomputable def Turned (nd np su:Option AV)(j:Nat)(v:AV)(nd' np' su':Option AV):Prop:=∀k,iget nd' np' su' k=if k=j then some v else iget nd np su k
theorem Turned.at0 {v:AV} :Turned nd np su 2 v nd np (some v):=fun k=>by rcases k with _ | _ | _ | k<;>rfl
theorem Turned.at1 {v:AV} :Turned nd np su 1 v nd (some v) su:=fun k=>by rcases k with _ | _ | _ | k<;>rfl
theorem Turned.at2 {v:AV} :Turned nd np su 0 v (some v) np su:=fun k=>by rcases k with _ | _ | _ | k<;>rfl
theorem zjz {sl:Array (Option Value)}{j:Nat}{u:Value}(k:Nat):
  (((sl++Array.replicate (j+1 - sl.size) none).setIfInBounds j (some u))[k]?).join=if k=j then some u else (sl[k]?).join:=by
 rw[Array.getElem?_setIfInBounds]
 by_cases h:j=k
 ·subst h
  have:j < (sl++Array.replicate (j+1 - sl.size) none).size:=by simp;omega
  simp only[this,if_true,Option.join_some]
 ·have h': ¬ k=j:=fun e=>h e.symm
  simp only[h,if_false,h'];rw[Array.getElem?_append]
  split
  ·rfl
  ·rename_i q
   rw[show sl[k]? =none from by simp;exact Nat.not_lt.mp ‹_›]
   by_cases z:k - sl.size < j+1 - sl.size<;>simp[z]
open Builtin Builtin.ObjectAttr Builtin.Getset_descriptor in
theorem zjA {x C p i:Nat}{ox:Obj}{od:Option Obj}{v:Value}{R:Result→Shared→Prop}(X:K.In s.heap)(I:InstAt s.heap x ox C od)(hp:slotIn K p C=some i)(hi:i < 1000)
  (h:R (.ok (.ret .none)) {s with heap:=s.heap.update x fun o=> {o with slots:=(o.slots++Array.replicate (i+1 - o.slots.size) none).setIfInBounds i (some v)}}):
  codeAny (model pg w) A (.call (.builtin "member_descriptor.__set__") ⟨[.ref p,.ref x,v],[]⟩) R s:=by
 obtain⟨n,tn,owner,behind,tb,d,sl,cd,ho,hc,hm,hb,rfl⟩:=slot_of X hp;obtain⟨hh,g,dr,t,os⟩:=s;have T0:=I.type (M:=model pg w);have T1:=looks_mroIn (M:=model pg w) X hm;have T2:Looks (model pg w) hh (Slots.slotNamesOf (.ref C)) cd.slotNames:=(looks_clsIn X hc).andThen .now;have hx:=I.at_;dsimp only at ho hx T0 T1;have f0:=looks_field (M:=model pg w) ho 0 (v:=.str n tn) rfl;have f1:=looks_field (M:=model pg w) ho 1 (v:=owner) rfl;have f3:=looks_field (M:=model pg w) ho 3 (v:=.builtin "proto.slot#set") rfl;have f4:=looks_field (M:=model pg w) ho 4 (v:=.int behind tb) rfl;have f5:Looks (model pg w) hh (descrItself (.ref p)) [.ref p]:=((Looks.ld (part:=none) ho).andThen .now).andThen (Looks.of_pure (by kernel_rfl));refine codeAny_call_builtin KF.slot_mset.plain KF.entry_mset (KF.slot_mset.check _ _ _ _ _ _ _ _ ⟨_,ho,rfl⟩ (KF.args_mset _ _ _) ?_);unfold Builtin.«member_descriptor.__set__» descrSet descrStoreThrough descrCheckInstance descrNameAndClass isInstance
 repeat lk
 refine⟨Code.quiet_builtin _ (by decide+kernel),codeAny_builtin KF.entry_slotset ?_⟩;unfold Builtin.«proto.slot#set» Slots.target
 repeat lk
 rw[if_neg hb];refine wpAny_pure (wpAny_bind ?_);unfold setSlotAt;dsimp only;rw[if_neg (by rw[sizeLine_eq];omega)];exact wpAny_updatePart hx (wpAny_pure h)
theorem zju {p:Addr}{j:Nat}(F:SlotAttr K name p j):takerIn K za3 name=some (some (.ref p)):=by
 unfold takerIn;rw[F.find,Option.bind_some];dsimp only
 rw[F.takes];rfl
theorem ziI {u:Value}{a:Addr}{p:Addr}{j d:Nat}{nd' np' su':Option AV}{Q:Unit→Shared→Prop}(R:Rel pg w K Φ ρ H s.heap)(g:s.gens= #[])(G:InfoCls K)(F:SlotAttr K name p j)(e:H[i]? =some (.info d nd np su))(e':H[d]? =some (.ns es))(f:ρ[i]? =some a)
  (hj:j < 1000) (ht:Turned nd np su j v nd' np' su') (hv:VR s.heap ρ v u) (h:∀s',POU pg w K Φ s ρ (H.set i (.info d nd' np' su')) s'→Q () s'):wpAny (model pg w) A (setAttr (.ref a) name u) Q E s:=by
 obtain⟨od,dx,sl,I,f',q⟩:=zlu R e e' f;refine set_plain R.top I G.sa (osa_descr KF.slot_mset R.top I G.over (zju F) F.ty (zjA (s:= {s with toks:=s.toks+1}) R.top I F.slot hj ?_));refine h _ ?_;have hx:=I.at_
 have hg:(s.heap.update a fun o=> {o with slots:=(o.slots++Array.replicate (j+1 - o.slots.size) none).setIfInBounds j (some u)}).get? a=some ⟨.ref za3,some dx,.plain,(sl++Array.replicate (j+1 - sl.size) none).setIfInBounds j (some u)⟩:=
  Heap.get?_update_self _ hx rfl
 obtain⟨R',mv⟩:=R.set f (Heap.SameBut.update ..) (c:=.info d nd' np' su') fun mv=>.info f' hg fun k=>by
  rw[ht k,zjz]
  split
  ·exact .some (hv.moves mv)
  ·exact(q k).moves mv
 exact⟨ρ,mv,R',g,rfl⟩
theorem SA.slot {p:Addr}{j d':Nat}{nd' np' su':Option AV}(a:SE pg w K Φ d sc o σ H (.obj i) σ1 cn)(G:InfoCls K)(F:SlotAttr K name p j)(e:cn[i]? =some (.info d' nd np su))(e':cn[d']? =some (.ns es))(hj:j < 1000)(ht:Turned nd np su j x nd' np' su'):
  SA pg w K Φ d sc (.Attribute o name pos) x σ H σ1 (cn.set i (.info d' nd' np' su')):=.mk fun env O ρ s A u ok X hu=>by
 rw[arm_assign_Attribute];refine wpAny_bind (wpAny_holding (a.into ok X fun a' cm ρ1 m X1 q o'=>wpAny_bind (wpAny_standAt (wpAny_bind (wpAny_holding ?_)))))
 refine VR.objE q fun _ f=> ?_
 exact ziI X1.rel X1.gens G F e e' f hj ht (hu.moves m) fun s' z=>wpAny_release ((z.inFrame X1).then m o')
theorem SS.aX {value:Expr}{op:Operator}{tp:Pos}{p:Addr}{j d' d'':Nat}{dG np1 su1 nd' np' su':Option AV}{es':List (Str×AV)}(a:SE pg w K Φ d sc o σ H (.obj i) σ1 cn)(G:InfoCls K)(F:SlotAttr K name p j)(e:cn[i]? =some (.info d' nd np su))(e':cn[d']? =some (.ns es))(hv:iget nd np su j=some v)(hp:zcU v=true)
  (c:SE pg w K Φ d sc value σ1 cn y cp cq) (op':SI pg w K Φ d op v y cq x cy) (g:cy[i]? =some (.info d'' dG np1 su1)) (g':cy[d'']? =some (.ns es')) (hj:j < 1000) (ht:Turned dG np1 su1 j x nd' np' su'):
  SS pg w K Φ d sc (.AugAssign (.Attribute o name tp) op value pos) σ H .next cp (cy.set i (.info d'' nd' np' su')):=.mk fun env O ρ s A ok X=>by
 rw[arm_exec_AugAssign_2];refine wpAny_bind (wpAny_standAt (wpAny_bind (a.into ok X fun a' cm ρ1 m X1 q o'=>wpAny_bind (wpAny_holding (wpAny_bind (wpAny_standAt (wpAny_bind ?_)))))))
 refine VR.objE q fun _ f=> ?_
 refine zi3 X1.rel G F e e' f hv hp fun u qu=>wpAny_bind (wpAny_holding ?_)
 refine c.into ok (X1.tok _) fun b' ct ρ2 cu X2 cx cw=>wpAny_bind (wpAny_standAt ?_)
 refine wpAny_operating (zac (op' ρ2 ct A u b' ok X2.rel X2.gens (qu.moves cu) cx) fun v' cA cT=>wpAny_bind (wpAny_standAt (wpAny_bind (wpAny_holding ?_))));obtain⟨ρ3,m3,X3,cS,cJ⟩:=cT.inFrame X2
 exact ziI X3.rel X3.gens G F g g' (m3.ext.get (cu.ext.get f)) hj ht cS fun s' z=>wpAny_bind (wpAny_release (wpAny_pure (by
  obtain⟨ρ4,m4,X4,o4⟩:=z.inFrame X3
  exact⟨ρ4,((m.trans cu).trans m3).trans m4,X4,trivial,((o4.trans cJ).trans cw).trans o'⟩)))
theorem zkL (C:Addr)(vs:List Value):(Code.builtin "type.__call__" ⟨.ref C::vs,[]⟩).weight=1:=by kernel_rfl
theorem zmk (C:Addr)(vs:List Value):(Code.builtin "type.__call__" ⟨.ref C::vs,[]⟩).cUnits=1:=by kernel_rfl
theorem znB (C:Addr)(vs:List Value):(Code.builtin "type.__call__" ⟨.ref C::vs,[]⟩).envs= []:=by kernel_rfl
theorem zh2 {A:Around}(ok:OkC Φ (d+1) A)(C:Addr)(vs:List Value):OkC Φ d (A.under (.builtin "type.__call__" ⟨.ref C::vs,[]⟩)):=by
 obtain⟨h,dp,u,l,fr,fo⟩:=ok;refine⟨h,?_,?_,l,?_,fo⟩
 ·show A.depth+_+4 * d < _;rw[zkL];lia
 ·show A.units+_+40 * d < _;rw[zmk];lia
 ·unfold Around.under;dsimp only;rw[znB,fr];rfl
theorem SCc.make {fI:Addr}{mk:Cell}(hm:makesIn K C=true)(hi:findIn K (.ref C) "__init__" =some (some (.ref fI)))(hf:typeIn K (.ref fI)=some (.type "function"))
  (hmk:mk= .inst C H.length∨(C=za3∧mk= .info H.length none none none)) (init:SCc pg w K Φ d (.ref fI) (.obj (H.length+1)::xs) (H++ [.ns []]++ [mk]) .none H'):
  SCc pg w K Φ (d+1) (.ref C) xs H (.obj (H.length+1)) H':=fun ρ s A vs ok R g q=>by
 obtain⟨R1,cM⟩:=R.push (c:=.ns []) (o:=emptyDict) (h':=s.heap.push emptyDict) rfl rfl fun m=>.ns (m:=fun _=>none) (Heap.Ns1.of_empty (Heap.Ns.new s.heap (.type "dict"))) fun k=>.none
 have cz:(s.heap.push emptyDict).objs.size=s.heap.objs.size+1:=Heap.size_push ..
 have eρ:(ρ++ [s.heap.objs.size])[H.length]? =some s.heap.objs.size:=by rw[←R.len];simp
 obtain⟨cX,cu⟩:=R1.push (c:=mk) (o:=instObj C s.heap.objs.size) (h':=(s.heap.push emptyDict).push (instObj C s.heap.objs.size)) rfl rfl fun m=>by
  have hx:((s.heap.push emptyDict).push (instObj C s.heap.objs.size)).get? (s.heap.push emptyDict).objs.size=some (instObj C s.heap.objs.size):=Heap.get?_push_size _ rfl
  rcases hmk with rfl | ⟨rfl,rfl⟩
  ·exact .inst (m.ext.get eρ) hx
  ·refine .info (m.ext.get eρ) hx fun j=> ?_
   have:iget none none none j=none:=by rcases j with _ | _ | _ | j<;>rfl
   rw[this];exact .none
 obtain⟨hh,gg,dd,t,os⟩:=s;dsimp only at *;refine make_core (makes_of R.top hm) (looks_findIn R.top hi) (fun self=>bind_fn R.top self hf) (.inl rfl) ?_;have ok':=zh2 ok C vs
 have hself:VR ((hh.push emptyDict).push (instObj C hh.objs.size)) (ρ++ [hh.objs.size]++ [(hh.push emptyDict).objs.size]) (.obj (H.length+1)) (.ref (hh.objs.size+1)):=.obj (by
  rw[cz,←R.len];simp)
 refine codeAny_mono (init _ ⟨(hh.push emptyDict).push (instObj C hh.objs.size),gg,dd,t,os⟩ _ _ ok' cX g (.cons hself ((q.moves cM).moves cu))) fun r s' z=> ?_
 rcases r with e | (v | _ | _ | _)<;>first | exact z.elim | skip
 obtain⟨ρ',m',R',g',q',o'⟩:=z;cases q';exact⟨rfl,ρ',(cM.trans cu).trans m',R',g',hself.moves m',o'⟩
theorem zi2 {h:Heap}{k:Str}{a:Value}(p:VR h ρ (.str k) a):a.scannable=true:=by cases p;rfl
theorem SC.setNew:SC pg w K Φ d (.type "set") [] H (.obj H.length) (H++ [.set []]):=fun ρ s A vs ok R g q=>by
 cases q
 refine call_set_0 fun led=> ?_
 obtain⟨R',mv⟩:=R.push (c:=.set []) (o:= {cls:=.type "set",dict:=none,data:=.set #[] 0 (.fresh 0 0 led)}) rfl rfl fun m=>.set (n:=0) (a:=s.heap.objs.size) ⟨_,#[],0,_,Heap.get?_push_size _ rfl,⟨rfl,rfl,rfl⟩,rfl,fun e he=>by simp at he,fun k=>by simp,by decide,by rfl,rfl⟩ (Nat.le_refl _)
 exact⟨_,mv,R',g,.obj (by rw[←R.len];simp),rfl⟩
theorem SCmp.inSet {zs:List Str}{k:Str}(e:H[i]? =some (.set zs)):SCmp pg w K Φ d .In (.str k) (.obj i) H (decide (k∈zs)) H:=fun ρ s A a c ok R g p q=>by
 refine VR.objE q fun _ f=> ?_
 refine CellAt.setE (R.cell _ _ _ e f) fun _ S hn=> ?_
 exact wpAny_inSet_of (zdV p) (zi2 p) S (PO.here R g .bool)
theorem GM.set {zs:List Str}(e:H[i]? =some (.set zs)):GM pg w K Φ (.obj i) "add" H (.builtin "set.add"):=fun ρ s A a pl Q E R q h=>by
 cases q with | obj f=>
 refine CellAt.setE (R.cell _ _ _ e f) fun _ S hn=> ?_
 exact getMethod_set_add S h
theorem SC.setAdd {zs:List Str}{k:Str}(e:H[i]? =some (.set zs))(hz:zs.length < 1000):SC pg w K Φ d (.builtin "set.add") [.obj i,.str k] H .none (H.set i (.set (k::zs))):=fun ρ s A vs ok R g p=>by
 refine VRs.twoE p fun _ _ p q=> ?_
 refine VR.objE p fun a f=> ?_
 refine CellAt.setE (R.cell _ _ _ e f) fun n S hn=> ?_
 have:scanBound=4096:=rfl
 refine call_set_add (zdV q) (zi2 q) S (by lia) fun h' hs S'=> ?_
 have S'':h'.SetOf (PySem.strKind pg w) a (fun j=>decide (j∈k::zs)) (if decide (k∈zs)=true then n else n+1):=by
  have e:(fun j=>decide (j∈k::zs))=fun k'=>decide (k'∈zs)|| decide (k'=k):=by
   funext j
   by_cases h1:j=k<;>by_cases h2:j∈zs<;>simp[h1,h2]
  rw[e];exact S'
 obtain⟨o,es,ep,t,ho,r⟩:=S''
 obtain⟨R',mv⟩:=R.set f hs (c:=.set (k::zs)) fun m=>.set (n:=if decide (k∈zs)=true then n else n+1) ⟨o,es,ep,t,ho,r⟩ (by split<;>simp<;>lia)
 exact⟨ρ,mv,R',g,.none,rfl⟩
end
end Mine
section
namespace Mine
theorem zbF (h:Heap)(a:Addr)(f:Obj→Obj):(h.update a f).objs.size=h.objs.size:=(Heap.SameBut.update h a f).1
noncomputable def Grown (h h':Heap):Prop:=h.objs.size≤h'.objs.size∧∀a,a < h.objs.size→h.get? a=none→h'.get? a=none
theorem Grown.refl (h:Heap):Grown h h:=⟨Nat.le_refl _,fun _ _ e=>e⟩
theorem Grown.trans {h h' h'':Heap}(x:Grown h h')(y:Grown h' h''):Grown h h'':=⟨Nat.le_trans x.1 y.1,fun a ha e=>y.2 a (Nat.lt_of_lt_of_le ha x.1) (x.2 a ha e)⟩
theorem Grown.push (h:Heap)(o:Obj):Grown h (h.push o):=⟨by rw[Heap.size_push];exact Nat.le_succ _,fun a ha e=>by rw[Heap.get?_push_ne _ _ _ (Nat.ne_of_lt ha)];exact e⟩
theorem Grown.update {h:Heap}{a:Addr}(ha:(h.get? a).isSome)(f:Obj→Obj):Grown h (h.update a f):=⟨Nat.le_of_eq (zbF h a f).symm,fun b _ e=>by
 have hb:b≠a:=fun z=>by subst z;rw[e] at ha;exact ftE ha
 rw[Heap.get?_update_ne _ _ _ _ hb];exact e⟩
theorem zdA {M:Model}{Γ:Ctx}{p:Pos}{t:Sem Fin}{fs:List Frame}{s s':Shared}{e:End}(h:Runs M Γ p t fs s e s'):Grown s.heap s'.heap:=by
 induction h with
 | done=>exact Grown.refl _
 | raise=>exact Grown.refl _
 | yield=>exact Grown.refl _
 | update h1 _ ih=>exact(Grown.update h1 _).trans ih
 | alloc _ ih=>exact(Grown.push _ _).trans ih
 | call _ _ ih1 ih2=>exact ih1.trans ih2
 | resumeFresh _ _ _ _ ih1 ih2=>exact Grown.trans (show Grown _ _ from ih1) ih2
 | resumeSuspended _ _ _ _ ih1 ih2=>exact Grown.trans (show Grown _ _ from ih1) ih2
 | segRet _ _ ih1 ih2=>exact ih1.trans ih2
 | segGen _ _ ih1 ih2=>exact ih1.trans ih2
 | segSuspGen _ _ _ _ ih1 ih2=>exact ih1.trans ih2
 | _=>assumption
theorem zhC {M:Model}{Γ:Ctx}{p:Pos}{g:Nat}{r:Resume}{s s':Shared}{res:GenResult}(h:Wakes M Γ p g r s res s'):Grown s.heap s'.heap:=by
 unfold Wakes at h
 split at h
 ·exact h.elim
 ·split at h
  ·obtain⟨cz,cm,hr,_,_,rfl⟩:=h;exact(zdA hr:Grown (s.setGen g .running).heap cm.heap)
  ·rw[h.2];exact Grown.refl _
  ·rw[h.2];exact Grown.refl _
 ·obtain⟨cz,cm,hr,_,_,rfl⟩:=h;exact(zdA hr:Grown (s.setGen g .running).heap cm.heap)
 ·rw[h.2];exact Grown.refl _
 ·rw[h.2];exact Grown.refl _
theorem zmd {α:Type}(M:Model)(Γ:Ctx)(cH:Heap)(t:Sem α):∀(Q:α→Pos→Shared→Prop) (E:Value→Pos→Shared→Prop) (p:Pos) (s:Shared),Grown cH s.heap→Sem.wp M Γ t Q E p s →
  Sem.wp M Γ t (fun a p' s'=>Grown cH s'.heap∧Q a p' s') (fun e p' s'=>Grown cH s'.heap∧E e p' s') p s:=by
 induction t with
 | pure a=>intro Q E p s hn h;exact⟨hn,h⟩
 | raise e=>intro Q E p s hn h;exact⟨hn,h⟩
 | unsupported _=>intro Q E p s _ h;exact h
 | finish _=>intro Q E p s _ h;exact h
 | rule _ k ih=>intro Q E p s hn h;exact ih () Q E p s hn h
 | «at» p' k ih=>intro Q E p s hn h;exact ih () Q E p' s hn h
 | load a _ k ih=>intro Q E p s hn h;obtain⟨o,ho,h⟩:=h;exact⟨o,ho,ih o Q E p s hn h⟩
 | update a _ f k ih=>intro Q E p s hn h;exact⟨h.1,ih () Q E p _ (hn.trans (Grown.update h.1 f)) h.2⟩
 | loadIfAlive a k ih=>intro Q E p s hn h;exact ih _ Q E p s hn h
 | point _ k ih=>intro Q E p s hn h;exact ih () Q E p s hn h
 | register _ _=>intro Q E p s _ h;exact h
 | alloc o k ih=>intro Q E p s hn h;exact ih _ Q E p _ (hn.trans (Grown.push _ o)) h
 | fresh k ih=>intro Q E p s hn h;exact ih _ Q E p _ hn h
 | ask k ih=>intro Q E p s hn h;exact ih _ Q E p s hn h
 | choose src m k ih=>intro Q E p s hn h;exact⟨h.1,ih _ Q E p _ hn h.2⟩
 | os q _ k ih=>intro Q E p s hn h;exact ih _ Q E p _ hn h
 | call c hd _ _ k ih=>intro Q E p s hn h;obtain⟨r,s',hr,h⟩:=h;exact⟨r,s',hr,ih r Q E p s' (hn.trans (zdA hr)) h⟩
 | handled own k ih=>intro Q E p s hn h;exact ih _ Q E p s hn h
 | genState g k ih=>intro Q E p s hn h;obtain⟨st,hs,h⟩:=h;exact⟨st,hs,ih _ Q E p s hn h⟩
 | newGen c k ih=>intro Q E p s hn h;exact ih _ Q E p _ hn h
 | resume g r _ k ih=>intro Q E p s hn h;obtain⟨res,s',hw,h⟩:=h;exact⟨res,s',hw,ih res Q E p s' (hn.trans (zhC hw)) h⟩
 | yield _ _ _ _=>intro Q E p s _ h;exact h
 | stack k ih=>intro Q E p s hn h;exact ih _ Q E p s hn h
 | fork _ _=>intro Q E p s _ h;exact h
 | thread k ih=>intro Q E p s hn h;exact ih _ Q E p s hn h
 | await _ _ _ _ _=>intro Q E p s _ h;exact h
theorem zcO {α:Type}{M:Model}{A:Around}{s:Shared}{t:Sem α}{Q:α→Shared→Prop}{E:Value→Shared→Prop}(h:wpAny M A t (fun a s'=>Grown s.heap s'.heap→Q a s') E s):wpAny M A t Q E s:=
 wpAny_mono (fun Γ p hΓ=>zmd M Γ s.heap t _ _ p s (Grown.refl _) (h Γ p hΓ):wpAny M A t (fun a s'=>Grown s.heap s'.heap∧(Grown s.heap s'.heap→Q a s')) (fun e s'=>Grown s.heap s'.heap∧E e s') s)
  (fun a s' z=>z.2 z.1) fun e s' z=>z.2
theorem zav {α:Type}{M:Model}{A:Around}{s:Shared}{t:Sem α}{Q:α→Shared→Prop}{E:Value→Shared→Prop}(h:wpAny M A t (fun a s'=>s.heap.objs.size≤s'.heap.objs.size→Q a s') E s):wpAny M A t Q E s:=
 zcO (wpAny_mono h (fun a s' z g=>z g.1) fun _ _ z=>z)
section
variable (pg:Program)(w:World)(K:Frag)(Φ:Fm)
noncomputable def SN (d i:Nat)(H:List Cell)(r:Option AV)(H':List Cell):Prop:=
 ∀ρ s A a,OkA Φ d A→Rel pg w K Φ ρ H s.heap→s.gens= #[]→ρ[i]? =some a→wpAny (model pg w) A (pyNext (.ref a))
  (fun u s'=>match r,u with | some x,some v=>PO pg w K Φ s ρ H' x v s' | none,none=>POU pg w K Φ s ρ H' s' | _,_=>False) (fun _ _=>False) s
noncomputable def SIt (d:Nat)(x:AV)(H:List Cell)(i:Nat)(H':List Cell):Prop:=
 ∀ρ s A a,OkA Φ d A→Rel pg w K Φ ρ H s.heap→s.gens= #[]→VR s.heap ρ x a→wpAny (model pg w) A (pyIter a) (PO pg w K Φ s ρ H' (.obj i)) (fun _ _=>False) s
end
variable {pg:Program}{w:World}{K:Frag}{Φ:Fm}{d:Nat}{sc:Scope}{σ σ' σ1 cp σ3:List (Str×AV)}{H H' cn cq cy:List Cell}{v v1 v2 x y:AV}{A:Around}{s s':Shared}
 {env:Env} {O ρ ρ':List Addr} {E:Value→Shared→Prop} {e cz cG l r o:Expr} {pos:Pos} {b cI cK:Bool} {xs ys:List AV} {C:Addr} {name:Str} {i dd:Nat} {es:List (Str×AV)} {nd np su:Option AV}
theorem gone (R:Rel pg w K Φ ρ H s.heap)(g:s.gens= #[]){a:Addr}(f:ρ[i]? =some a){h':Heap}(hs:Heap.ExtBut a s.heap h')(hz:s.heap.objs.size≤h'.objs.size){t:Nat} :POU pg w K Φ s ρ (H.set i .junk) {s with heap:=h',toks:=t} :=by
 obtain⟨R',m⟩:=R.turn f hs hz (c:=.junk) fun _=>.junk
 exact⟨ρ,m,R',g,rfl⟩
theorem zfo (R:Rel pg w K Φ ρ H s.heap)(g:s.gens= #[]){a:Addr}(f:ρ[i]? =some a){h':Heap}{c:Cell}(hs:Heap.SameBut a s.heap h')(hc:Moves [] s.heap h' ρ ρ→CellAt pg w h' ρ a c)
  {x:AV} {u:Value} (q:VR s.heap ρ x u) {t:Nat} :PO pg w K Φ s ρ (H.set i c) x u {s with heap:=h',toks:=t} :=by
 obtain⟨R',m⟩:=R.set f hs hc;exact⟨ρ,m,R',g,q.moves m,rfl⟩
theorem SIt.list (l₁:LH H x xs):SIt pg w K Φ d x H H.length (H++ [.iter x 0]):=fun ρ s A a ok R g p=>by
 obtain⟨c,vs,rfl,hl,cv⟩:=l₁.at R p;refine wpAny_pyIter_list hl ?_
 obtain⟨R',mv⟩:=R.push (c:=.iter x 0) (o:= {cls:=.type "list_iterator",data:=.fields #[.ref c,.int 0 0]}) rfl rfl fun m=>.iter (p.moves m) ⟨_,Heap.get?_push_size _ rfl,rfl,rfl⟩
 exact⟨_,mv,R',g,.obj (by rw[←R.len];simp),rfl⟩
theorem SN.aP {pos:Nat}(e:H[i]? =some (.iter x pos))(l₁:LH H x xs)(hv:xs[pos]? =some v):SN pg w K Φ d i H (some v) (H.set i (.iter x (pos+1))):=fun ρ s A a ok R g f=>by
 refine CellAt.al (R.cell _ _ _ e f) fun _ p hit=> ?_
 obtain⟨c,vs,ec,hl,cv⟩:=l₁.at R p
 (injection ec with ec;subst ec)
 obtain⟨u,eu,qu⟩:=cv.get hv
 exact wpAny_pyNext_list_item hit hl (by simpa using eu) fun h' hit' hs=>zfo R g f hs (fun m=>.iter (p.moves m) hit') qu
theorem SN.a5 (hc:Φ.calm=Bool.true){pos:Nat}(e:H[i]? =some (.iter x pos))(l₁:LH H x xs)(hv:xs[pos]? =none):SN pg w K Φ d i H none (H.set i .junk):=fun ρ s A a ok R g f=>by
 refine CellAt.al (R.cell _ _ _ e f) fun _ p hit=> ?_
 obtain⟨c,vs,ec,hl,cv⟩:=l₁.at R p
 (injection ec with ec;subst ec)
 have hn:vs.toArray[pos]? =none:=by have:=cv.length;simp at hv ⊢;lia
 exact zav (wpAny_pyNext_list_end (ok.handled hc) hit hl hn fun h' hs hz=>gone R g f hs hz)
theorem SIt.tuple:SIt pg w K Φ d (.tup xs) H H.length (H++ [.titer xs 0]):=fun ρ s A a ok R g p=>by
 refine VR.tupE p fun vs c ht n cv=> ?_
 refine wpAny_pyIter_tuple ht ?_
 obtain⟨R',mv⟩:=R.push (c:=.titer xs 0) (o:= {cls:=.type "tuple_iterator",data:=.fields #[.ref c,.int 0 0]}) rfl rfl fun m=>.titer ((VR.tup ht n cv).moves m) ⟨_,Heap.get?_push_size _ rfl,rfl,rfl⟩
 exact⟨_,mv,R',g,.obj (by rw[←R.len];simp),rfl⟩
theorem SN.ao {pos:Nat}(e:H[i]? =some (.titer xs pos))(hv:xs[pos]? =some v):SN pg w K Φ d i H (some v) (H.set i (.titer xs (pos+1))):=fun ρ s A a ok R g f=>by
 refine CellAt.aB (R.cell _ _ _ e f) fun c p hit=> ?_
 refine VR.tupR p fun vs ht n cv=> ?_
 obtain⟨u,eu,qu⟩:=cv.get hv
 exact wpAny_pyNext_tuple_item hit ht (by simpa using eu) fun h' hit' hs=>zfo R g f hs (fun m=>.titer ((VR.tup ht n cv).moves m) hit') qu
theorem SN.aI (hc:Φ.calm=Bool.true){pos:Nat}(e:H[i]? =some (.titer xs pos))(hv:xs[pos]? =none):SN pg w K Φ d i H none (H.set i .junk):=fun ρ s A a ok R g f=>by
 refine CellAt.aB (R.cell _ _ _ e f) fun c p hit=> ?_
 refine VR.tupR p fun vs ht n cv=> ?_
 have hn:vs.toArray[pos]? =none:=by have:=cv.length;simp at hv ⊢;lia
 exact zav (wpAny_pyNext_tuple_end (ok.handled hc) hit ht hn fun h' hs hz=>gone R g f hs hz)
theorem SIt.range {n:Nat}(hn:n≤1000):SIt pg w K Φ d (.rng n) H H.length (H++ [.riter n 0]):=fun ρ s A a ok R g p=>by
 refine VR.rngE p fun _ _ _ _ hr na=> ?_
 have sz:Builtin.Range.rangeSize 0 (n:Int) 1=n:=by unfold Builtin.Range.rangeSize;simp;lia
 refine wpAny_pyIter_range hr (by
  unfold Builtin.Range.small;rw[sz]
  simp[Builtin.Range.rangeFitsLong];lia) ?_
 rw[sz]
 obtain⟨R',mv⟩:=R.push (c:=.riter n 0) (o:= {cls:=.type "range_iterator",data:=.fields #[rawInt 0,rawInt n,rawInt 1]}) rfl rfl fun m=>.riter (Nat.zero_le _) (by simpa using Heap.get?_push_size _ rfl)
 exact⟨_,mv,R',g,.obj (by rw[←R.len];simp),rfl⟩
theorem SN.a0 {n pos:Nat}(e:H[i]? =some (.riter n pos))(hv:pos < n):SN pg w K Φ d i H (some (.int pos)) (H.set i (.riter n (pos+1))):=fun ρ s A a ok R g f=>by
 refine CellAt.aD (R.cell _ _ _ e f) fun hp hit=> ?_
 exact wpAny_pyNext_range_item hit (by lia) fun h' hit' hs=>zfo R g f hs (fun m=>.riter hv (by
  have e1:((pos+1:Nat):Int)=(pos:Int)+1:=by push_cast;rfl
  have e2:(n:Int) - ((pos+1:Nat):Int)=(n:Int) - (pos:Int) - 1:=by lia
  rw[e2,e1];exact hit')) .int
theorem SN.bq (hc:Φ.calm=Bool.true){n:Nat}(e:H[i]? =some (.riter n n)):SN pg w K Φ d i H none (H.set i .junk):=fun ρ s A a ok R g f=>by
 refine CellAt.aD (R.cell _ _ _ e f) fun hp hit=> ?_
 exact zav (wpAny_pyNext_range_end (ok.handled hc) hit (by lia) fun h' hs hz=>gone R g f hs hz)
theorem zlR {h:Heap}{ep:Option Nat}(R:Rel pg w K Φ ρ H h)(e:H[i]? =some (.dct es ep)):∃n,Rel pg w K Φ ρ (H.set i (.dct es (some n))) h:=by
 obtain⟨a,f⟩:=zdD R.len e
 refine CellAt.dctE (R.cell _ _ _ e f) fun fs n D q z=> ?_
 refine⟨n,R.top,by simpa using R.len,R.nd,fun j c b hc hb=> ?_,R.apart,R.live,R.low,R.big,R.frames⟩
 by_cases hij:i=j
 ·subst hij
  rw[f] at hb;obtain rfl:=Option.some.inj hb
  rw[List.getElem?_set] at hc;have:i < H.length:=(List.getElem?_eq_some_iff.mp e).1;simp[this] at hc;subst hc
  exact .dct D q fun m hm=>(Option.some.inj hm).symm
 ·rw[List.getElem?_set_ne hij] at hc
  exact R.cell j c b hc hb
theorem zjf {h:Heap}{ep:Option Nat}(R:Rel pg w K Φ ρ H h)(e:H[i]? =some (.dct es ep)):Rel pg w K Φ ρ (H.set i (.dct es none)) h:=by
 obtain⟨a,f⟩:=zdD R.len e
 refine CellAt.dctE (R.cell _ _ _ e f) fun fs n D q z=> ?_
 refine⟨R.top,by simpa using R.len,R.nd,fun j c b hc hb=> ?_,R.apart,R.live,R.low,R.big,R.frames⟩
 by_cases hij:i=j
 ·subst hij
  rw[f] at hb;obtain rfl:=Option.some.inj hb
  rw[List.getElem?_set] at hc;have:i < H.length:=(List.getElem?_eq_some_iff.mp e).1;simp[this] at hc;subst hc
  exact .dct D q fun m hm=>nomatch hm
 ·rw[List.getElem?_set_ne hij] at hc
  exact R.cell j c b hc hb
theorem SSs.pin {cs:List Stmt}{f:AFlow}{ep:Option Nat}(e:H[i]? =some (.dct es ep))(h:∀n,SSs pg w K Φ d sc cs σ (H.set i (.dct es (some n))) f σ' H'):SSs pg w K Φ d sc cs σ H f σ' H':=.mk fun env O ρ s A ok X=>by
 obtain⟨n,R⟩:=zlR X.rel e;exact(h n).1 env O ρ s A ok ⟨R,X.env,X.gens⟩
theorem SE.pin {c:Expr}{ep:Option Nat}(e:H[i]? =some (.dct es ep))(h:∀n,SE pg w K Φ d sc c σ (H.set i (.dct es (some n))) v σ' H'):SE pg w K Φ d sc c σ H v σ' H':=.mk fun env O ρ s A ok X=>by
 obtain⟨n,R⟩:=zlR X.rel e;exact(h n).1 env O ρ s A ok ⟨R,X.env,X.gens⟩
theorem SSs.free {c:List Stmt}{f:AFlow}{ep:Option Nat}(h:SSs pg w K Φ d sc c σ H f σ' H')(e:H'[i]? =some (.dct es ep)):SSs pg w K Φ d sc c σ H f σ' (H'.set i (.dct es none)):=.mk fun env O ρ s A ok X=>
 h.into ok X fun f' cm ρ1 m X1 q o=>⟨ρ1,m,⟨zjf X1.rel e,X1.env,X1.gens⟩,q,o⟩
theorem SE.free {c:Expr}{ep:Option Nat}(h:SE pg w K Φ d sc c σ H v σ' H')(e:H'[i]? =some (.dct es ep)):SE pg w K Φ d sc c σ H v σ' (H'.set i (.dct es Option.none)):=.mk fun env O ρ s A ok X=>
 h.into ok X fun f' cm ρ1 m X1 q o=>⟨ρ1,m,⟨zjf X1.rel e,X1.env,X1.gens⟩,q,o⟩
theorem zlq {k:Str}{key:Value}{h:Heap}(q:(PySem.strKind pg w).is k key=true):VR h ρ (.str k) key:=by
 have:key.isStrOf k=true:=q
 cases key<;>simp[Value.isStrOf] at this
 subst this;exact .str
theorem ER.at {h:Heap}{es:List (Str×AV)}{fs:List (Str×Value)}(q:ER h ρ es fs):∀{pos:Nat} {k:Str} {v:AV},es[pos]? =some (k,v)→∃u,fs[pos]? =some (k,u)∧VR h ρ v u:=by
 induction q with
 | nil=>intro _ _ _ e;exact nsE (List.getElem?_nil.symm.trans e)
 | cons a _ ih=>
  intro pos k v e
  cases pos with
  | zero=>obtain⟨rfl,rfl⟩:=Prod.mk.inj (Option.some.inj e);exact⟨_,rfl,a⟩
  | succ p=>exact ih e
theorem SIt.dict {g b:Str→Option Value}{ep:Nat}(T:TopOk K g b)(e:H[i]? =some (.dct es (some ep))):SIt pg w K Φ d (.obj i) H H.length (H++ [.kiter i es.length ep 0]):=fun ρ s A a ok R g p=>by
 refine VR.objE p fun a f=> ?_
 refine CellAt.dctE (R.cell _ _ _ e f) fun fs n D q z=> ?_
 cases z ep rfl;refine wpAny_pyIter_dict (zgR T R f) D ?_;rw[←q.length]
 obtain⟨R',mv⟩:=R.push (c:=.kiter i es.length ep 0) (o:= {cls:=.type "dict_keyiterator",data:=.fields #[.ref a,.int 0 0,.int es.length 0,.int ep 0]}) rfl rfl fun m=>.kiter (m.ext.get f) ⟨_,Heap.get?_push_size _ rfl,rfl,rfl⟩
 exact⟨_,mv,R',g,.obj (by rw[←R.len];simp),rfl⟩
theorem SN.a6 {j ep pos:Nat}{k:Str}(e:H[j]? =some (.kiter i es.length ep pos))(e':H[i]? =some (.dct es (some ep)))(hv:es[pos]? =some (k,v)):SN pg w K Φ d j H (some (.str k)) (H.set j (.kiter i es.length ep (pos+1))):=fun ρ s A a ok R g f=>by
 refine CellAt.aE (R.cell _ _ _ e f) fun _ fd hit=> ?_
 refine CellAt.dctE (R.cell _ _ _ e' fd) fun fs n D q z=> ?_
 cases z ep rfl;obtain⟨u,hu,qu⟩:=q.at hv;rw[q.length] at hit ⊢
 exact wpAny_pyNext_dict_item hit D hu fun key h' hk hit' hs=>zfo R g f hs (fun m=>.kiter (m.ext.get fd) hit') (zlq hk)
theorem SN.br (hc:Φ.calm=Bool.true){j ep pos:Nat}(e:H[j]? =some (.kiter i es.length ep pos))(e':H[i]? =some (.dct es (some ep)))(hv:es[pos]? =none):SN pg w K Φ d j H none (H.set j .junk):=fun ρ s A a ok R g f=>by
 refine CellAt.aE (R.cell _ _ _ e f) fun _ fd hit=> ?_
 refine CellAt.dctE (R.cell _ _ _ e' fd) fun fs n D q z=> ?_
 cases z ep rfl;rw[q.length] at hit;exact zav (wpAny_pyNext_dict_end (ok.handled hc) hit D (by have:=q.length;simp at hv ⊢;lia) fun h' hs hz=>gone R g f hs hz)
theorem SC.values {g b:Str→Option Value}{ep:Option Nat}(T:TopOk K g b)(e:H[i]? =some (.dct es ep)):SC pg w K Φ d (.builtin "dict.values") [.obj i] H (.vals i) H:=fun ρ s A vs ok R g p=>by
 refine VRs.oneE p fun _ p=> ?_
 refine VR.objE p fun a f=> ?_
 refine CellAt.dctE (R.cell _ _ _ e f) fun fs n D q z=> ?_
 refine call_meetsIn PySem.F.slot_dict_values D.dictOf.typeIs PySem.F.entry_dict_values (PySem.F.args_dict_values_1 _) (meets_dict_values (PySem.strKind pg w) _ (zgR T R f)) ⟨⟨_,D.dictOf⟩,?_⟩;obtain⟨mv,R',hn⟩:=zbe R {cls:=.type "dict_values",data:=.fields #[.ref a]};exact⟨ρ,mv,R',g,.vals f (Heap.get?_push_size _ rfl) hn,rfl⟩
theorem SIt.values {ep:Nat}(e:H[i]? =some (.dct es (some ep))):SIt pg w K Φ d (.vals i) H H.length (H++ [.viter i es.length ep 0]):=fun ρ s A a ok R g p=>by
 refine VR.cb p fun a b f hb hn=> ?_
 refine CellAt.dctE (R.cell _ _ _ e f) fun fs n D q z=> ?_
 cases z ep rfl;refine wpAny_pyIter_values ⟨_,hb,rfl,rfl⟩ D ?_;rw[←q.length]
 obtain⟨R',mv⟩:=R.push (c:=.viter i es.length ep 0) (o:= {cls:=.type "dict_valueiterator",data:=.fields #[.ref a,.int 0 0,.int es.length 0,.int ep 0]}) rfl rfl fun m=>.viter (m.ext.get f) ⟨_,Heap.get?_push_size _ rfl,rfl,rfl⟩
 exact⟨_,mv,R',g,.obj (by rw[←R.len];simp),rfl⟩
theorem SN.bJ {j ep pos:Nat}{k:Str}(e:H[j]? =some (.viter i es.length ep pos))(e':H[i]? =some (.dct es (some ep)))(hv:es[pos]? =some (k,v)):SN pg w K Φ d j H (some v) (H.set j (.viter i es.length ep (pos+1))):=fun ρ s A a ok R g f=>by
 refine CellAt.az (R.cell _ _ _ e f) fun _ fd hit=> ?_
 refine CellAt.dctE (R.cell _ _ _ e' fd) fun fs n D q z=> ?_
 cases z ep rfl;obtain⟨u,hu,qu⟩:=q.at hv;rw[q.length] at hit ⊢
 exact wpAny_pyNext_values_item hit D hu fun h' hit' hs=>zfo R g f hs (fun m=>.viter (m.ext.get fd) hit') qu
theorem SN.bY (hc:Φ.calm=Bool.true){j ep pos:Nat}(e:H[j]? =some (.viter i es.length ep pos))(e':H[i]? =some (.dct es (some ep)))(hv:es[pos]? =none):SN pg w K Φ d j H none (H.set j .junk):=fun ρ s A a ok R g f=>by
 refine CellAt.az (R.cell _ _ _ e f) fun _ fd hit=> ?_
 refine CellAt.dctE (R.cell _ _ _ e' fd) fun fs n D q z=> ?_
 cases z ep rfl;rw[q.length] at hit;exact zav (wpAny_pyNext_values_end (ok.handled hc) hit D (by have:=q.length;simp at hv ⊢;lia) fun h' hs hz=>gone R g f hs hz)
end Mine
end
section
namespace Mine
section
variable (pg:Program)(w:World)(K:Frag)(Φ:Fm)
noncomputable def znd (pg:Program)(w:World)(K:Frag)(Φ:Fm)(env:Env)(sc:Scope)(O:List Addr)(s:Shared)(ρ:List Addr)(f:AFlow)(σ':List (Str×AV))(H':List Cell):Result→Shared→Prop:=fun r s'=>
 match r with
 | .ok f'=>PF pg w K Φ env sc O s ρ σ' H' f f' s'
 | .error _=>False
structure SFor (d:Nat)(sc:Scope)(target:Expr)(i:Nat)(body orelse:List Stmt)(σ:List (Str×AV))(H:List Cell)(f:AFlow)(σ':List (Str×AV))(H':List Cell):Prop where
 go:∀env O ρ s A a,OkA Φ d A→St pg w K Φ env sc O σ H ρ s→ρ[i]? =some a→codeAny (model pg w) A (.forLoop target (.ref a) body orelse env) (znd pg w K Φ env sc O s ρ f σ' H') s
structure SWh (d:Nat)(sc:Scope)(test:Expr)(body orelse:List Stmt)(σ:List (Str×AV))(H:List Cell)(f:AFlow)(σ':List (Str×AV))(H':List Cell):Prop where
 go:∀env O ρ s A,OkA Φ d A→St pg w K Φ env sc O σ H ρ s→codeAny (model pg w) A (.whileLoop test body orelse env) (znd pg w K Φ env sc O s ρ f σ' H') s
end
variable {pg:Program}{w:World}{K:Frag}{Φ:Fm}{d:Nat}{sc:Scope}{σ σ' σ1 cp σ3:List (Str×AV)}{H H' cn cq cy:List Cell}{v v1 v2 x y:AV}{A:Around}{s s':Shared}
 {env:Env} {O ρ ρ':List Addr} {E:Value→Shared→Prop} {e cz cG l r o:Expr} {pos:Pos} {b cI cK:Bool} {xs ys:List AV} {C:Addr} {name:Str} {i dd:Nat} {es:List (Str×AV)} {nd np su:Option AV}
theorem zhG {test:Expr}{body orelse:List Stmt} :A.under (.whileLoop test body orelse env)=A:=Around.under_of_weight rfl
theorem zkJ {t:Expr}{it:Value}{body orelse:List Stmt} :A.under (.forLoop t it body orelse env)=A:=Around.under_of_weight rfl
theorem zeP {cm:Shared}{f:AFlow}(m:Moves O s.heap cm.heap ρ ρ')(o:cm.os=s.os){r:Result}(h:znd pg w K Φ env sc O cm ρ' f σ' H' r s'):znd pg w K Φ env sc O s ρ f σ' H' r s':=by
 rcases r with e | f'
 ·exact h
 ·obtain⟨ρ2,m',x,q,o'⟩:=h
  exact⟨ρ2,m.trans m',x,q,o'.trans o⟩
theorem zbI {test:Expr}{body orelse:List Stmt}{R:Result→Shared→Prop}
  (h:wpAny (model pg w) A (isTrue test env (eval test env)) (fun b cm=>if b=true then wpAny (model pg w) A (execs body env) (fun f ct=>match f with
    | .next | .cont=>codeAny (model pg w) A (.whileLoop test body orelse env) R ct
    | .brk=>R (.ok .next) ct
    | .ret v=>R (.ok (.ret v)) ct) (fun _ _=>False) cm else wpAny (model pg w) A (execs orelse env) (fun f ct=>R (.ok f) ct) (fun _ _=>False) cm) (fun _ _=>False) s):
  codeAny (model pg w) A (.whileLoop test body orelse env) R s:=by
 refine codeAny_of_tree ?_;rw[zhG];show wpAny _ A ((whileTurn test body orelse env).onRaise (fun x=>do noteFrame x env;theTreesLotGoes x)) _ _ s;refine wpAny_onRaise ?_;unfold whileTurn;refine wpAny_bind (wpAny_mono h (fun b cm cB=> ?_) fun _ _ z=>z.elim)
 cases b with
 | true=>
  rw[if_pos rfl] at cB ⊢;refine wpAny_bind (wpAny_mono cB (fun f ct cF=> ?_) fun _ _ z=>z.elim)
  cases f with
  | next=>exact wpAny_pure ⟨rfl,cF⟩
  | cont=>exact wpAny_pure ⟨rfl,cF⟩
  | brk=>exact wpAny_pure cF
  | ret v=>exact wpAny_pure cF
 | false=>
  rw[if_neg Bool.false_ne_true] at cB ⊢;exact wpAny_bind (wpAny_mono cB (fun f ct cF=>wpAny_pure cF) fun _ _ z=>z.elim)
theorem SWh.out {test:Expr}{body orelse:List Stmt}{f:AFlow}(t:ST pg w K Φ d sc test σ H false σ1 cn)(c:SSs pg w K Φ d sc orelse σ1 cn f cp cq):SWh pg w K Φ d sc test body orelse σ H f cp cq:=.mk fun env O ρ s A ok X=>by
 refine zbI (t.into ok X fun b cm q ρ1 m X1 o=> ?_);subst q;rw[if_neg Bool.false_ne_true]
 exact c.into ok X1 fun f' ct ρ2 cu X2 cx cw=>⟨ρ2,m.trans cu,X2,cx,cw.trans o⟩
theorem SWh.turn {test:Expr}{body orelse:List Stmt}{f g:AFlow}(t:ST pg w K Φ d sc test σ H true σ1 cn)(c:SSs pg w K Φ d sc body σ1 cn g cp cq)(hg:g= .next∨g= .cont)(z:SWh pg w K Φ d sc test body orelse cp cq f σ3 cy):
  SWh pg w K Φ d sc test body orelse σ H f σ3 cy:=.mk fun env O ρ s A ok X=>by
 refine zbI (t.into ok X fun b cm q ρ1 m X1 o=> ?_);subst q;rw[if_pos rfl]
 refine c.into ok X1 fun f' ct ρ2 cu X2 cx cw=> ?_
 have hf:f'= .next∨f'= .cont:=by rcases hg with rfl | rfl<;>cases f'<;>first | exact .inl rfl | exact .inr rfl | cases cx
 have h:=codeAny_mono (z.1 env O ρ2 ct A ok X2) fun r s' q=>zeP (m.trans cu) (cw.trans o) q
 rcases hf with rfl | rfl<;>exact h
theorem SWh.brk {test:Expr}{body orelse:List Stmt}(t:ST pg w K Φ d sc test σ H true σ1 cn)(c:SSs pg w K Φ d sc body σ1 cn .brk cp cq):SWh pg w K Φ d sc test body orelse σ H .next cp cq:=.mk fun env O ρ s A ok X=>by
 refine zbI (t.into ok X fun b cm q ρ1 m X1 o=> ?_);subst q;rw[if_pos rfl]
 refine c.into ok X1 fun f' ct ρ2 cu X2 cx cw=> ?_
 cases f'<;>first | exact⟨ρ2,m.trans cu,X2,trivial,cw.trans o⟩ | cases cx
theorem SWh.ret {test:Expr}{body orelse:List Stmt}(t:ST pg w K Φ d sc test σ H true σ1 cn)(c:SSs pg w K Φ d sc body σ1 cn (.ret v) cp cq):SWh pg w K Φ d sc test body orelse σ H (.ret v) cp cq:=.mk fun env O ρ s A ok X=>by
 refine zbI (t.into ok X fun b cm q ρ1 m X1 o=> ?_);subst q;rw[if_pos rfl]
 refine c.into ok X1 fun f' ct ρ2 cu X2 cx cw=> ?_
 cases f'<;>first | exact⟨ρ2,m.trans cu,X2,cx,cw.trans o⟩ | cases cx
theorem SS.aj {test:Expr}{body orelse:List Stmt}{f:AFlow}(h:SWh pg w K Φ d sc test body orelse σ H f σ' H'):SS pg w K Φ d sc (.While test body orelse pos) σ H f σ' H':=.mk fun env O ρ s A ok X=>
 wpAny_While (codeAny_mono (h.1 env O ρ s A ok X) fun r s' z=>by rcases r with e | f'<;>first | exact z.elim | exact z)
theorem zfA {target:Expr}{it:Value}{body orelse:List Stmt}{R:Result→Shared→Prop}
  (h:wpAny (model pg w) A (pyNext it) (fun r cm=>match r with
   | none=>wpAny (model pg w) A (execs orelse env) (fun f cA=>R (.ok f) cA) (fun _ _=>False) cm
   | some v=>wpAny (model pg w) A (letOwnedTupleGo target it v) (fun _ di=>wpAny (model pg w) A (assign target env v) (fun _ ct=>wpAny (model pg w) A (execs body env) (fun f cA=>match f with
      | .next | .cont=>codeAny (model pg w) A (.forLoop target it body orelse env) R cA
      | .brk=>R (.ok .next) cA
      | .ret v=>R (.ok (.ret v)) cA) (fun _ _=>False) ct) (fun _ _=>False) di) (fun _ _=>False) cm) (fun _ _=>False) s):
  codeAny (model pg w) A (.forLoop target it body orelse env) R s:=by
 refine codeAny_of_tree ?_;rw[zkJ];show wpAny _ A ((forTurn target it body orelse env).onRaise (fun x=>do noteFrame x env;theTreesLotGoes x)) _ _ s;refine wpAny_onRaise ?_;unfold forTurn;refine wpAny_bind (wpAny_standAt (wpAny_bind (wpAny_onRaise (wpAny_mono h (fun r cm cB=> ?_) fun _ _ z=>z.elim))))
 cases r with
 | none=>exact wpAny_pure ⟨rfl,codeAny_block (wpAny_mono cB (fun _ _ z=>z) fun _ _ z=>z.elim)⟩
 | some v=>
  refine wpAny_bind (wpAny_mono cB (fun _ di h1'=> ?_) fun _ _ z=>z.elim);refine wpAny_bind (wpAny_mono h1' (fun _ ct cF=>wpAny_bind (wpAny_mono cF (fun f cA cT=> ?_) fun _ _ z=>z.elim)) fun _ _ z=>z.elim)
  cases f with
  | next=>exact wpAny_pure ⟨rfl,cT⟩
  | cont=>exact wpAny_pure ⟨rfl,cT⟩
  | brk=>exact wpAny_pure cT
  | ret v=>exact wpAny_pure cT
inductive CalmIt:Cell→Prop
 | iter {x p} :CalmIt (.iter x p)
 | titer {x p} :CalmIt (.titer x p)
 | riter {x p} :CalmIt (.riter x p)
 | kiter {a b c e} :CalmIt (.kiter a b c e)
 | viter {a b c e} :CalmIt (.viter a b c e)
theorem zlW {target:Expr}{h:Heap}{a:Addr}{c:Cell}{v:Value}{Q:Unit→Shared→Prop}(cl:CalmIt c)(ca:CellAt pg w s.heap ρ a c)(hQ:Q () s):wpAny (model pg w) A (letOwnedTupleGo target (.ref a) v) Q E s:=by
 have key:∀o n vs,s.heap.get? a=some o→o.cls= .type n→o.data= .fields vs→ ["enumerate","zip","dict_itemiterator","dict_reverseitemiterator","odict_iterator","itertools.zip_longest","itertools.pairwise"].contains n=false→wpAny (model pg w) A (letOwnedTupleGo target (.ref a) v) Q E s:=by
  intro o n vs ho hc hd hn
  have inner:wpAny (model pg w) A (letOwnedTupleGo (.Tuple [] 0 default) (.ref a) v) Q E s:=by
   cases v with
   | ref b=>
    refine wpAny_bind (wpAny_load ho ?_);rw[hc,hd];dsimp only;rw[hn,Bool.false_and,if_neg Bool.false_ne_true];exact wpAny_pure hQ
   | _=>exact wpAny_pure hQ
  cases target with
  | Tuple=>exact inner
  | List=>exact inner
  | _=>exact wpAny_pure hQ
 cases cl with
 | iter=>refine CellAt.al ca fun _ p hit=> ?_;obtain⟨o,ho,hc,hd⟩:=hit;exact key o _ _ ho hc hd (by decide)
 | titer=>refine CellAt.aB ca fun _ p hit=> ?_;obtain⟨o,ho,hc,hd⟩:=hit;exact key o _ _ ho hc hd (by decide)
 | riter=>refine CellAt.aD ca fun p hit=> ?_;exact key _ "range_iterator" _ hit rfl rfl (by decide)
 | kiter=>refine CellAt.aE ca fun _ p hit=> ?_;obtain⟨o,ho,hc,hd⟩:=hit;exact key o _ _ ho hc hd (by decide)
 | viter=>refine CellAt.az ca fun _ p hit=> ?_;obtain⟨o,ho,hc,hd⟩:=hit;exact key o _ _ ho hc hd (by decide)
theorem SFor.out {target:Expr}{body orelse:List Stmt}{f:AFlow}(n:SN pg w K Φ d i H none cn)(c:SSs pg w K Φ d sc orelse σ cn f cp cq):SFor pg w K Φ d sc target i body orelse σ H f cp cq:=.mk fun env O ρ s A a ok X fa=>by
 refine zfA (zac (n ρ s A a ok X.rel X.gens fa) fun r cm cB=> ?_)
 cases r with
 | some v=>exact cB.elim
 | none=>
  obtain⟨ρ1,m,X1,o⟩:=POU.inFrame X cB
  exact c.into ok X1 fun f' ct ρ2 cu X2 cx cw=>⟨ρ2,m.trans cu,X2,cx,cw.trans o⟩
theorem zi8 {target:Expr}{body orelse:List Stmt}{c':Cell}{R:Result→Shared→Prop}{a:Addr}(ok:OkA Φ d A)(X:St pg w K Φ env sc O σ H ρ s)(fa:ρ[i]? =some a)(n:SN pg w K Φ d i H (some v) cn)(hc:cn[i]? =some c')(cl:CalmIt c')(t:SA pg w K Φ d sc target v σ cn cp cq)
  (h:∀ρ2 ct,Moves O s.heap ct.heap ρ ρ2→St pg w K Φ env sc O cp cq ρ2 ct→ct.os=s.os→wpAny (model pg w) A (execs body env) (fun f cA=>match f with
      | .next | .cont=>codeAny (model pg w) A (.forLoop target (.ref a) body orelse env) R cA
      | .brk=>R (.ok .next) cA
      | .ret v=>R (.ok (.ret v)) cA) (fun _ _=>False) ct):codeAny (model pg w) A (.forLoop target (.ref a) body orelse env) R s:=by
 refine zfA (zac (n ρ s A a ok X.rel X.gens fa) fun r cm cB=> ?_)
 cases r with
 | none=>exact cB.elim
 | some u=>
  obtain⟨ρ1,m,X1,q,o⟩:=PO.inFrame X cB;have cZ:=m.ext.get fa;refine zlW (h:=cm.heap) cl (X1.rel.cell _ _ _ hc cZ) ?_
  refine t.into u ok X1 q fun _ ct ρ2 cu X2 cw=> ?_
  exact h ρ2 ct (m.trans cu) X2 (cw.trans o)
theorem SFor.turn {target:Expr}{body orelse:List Stmt}{f g:AFlow}{c':Cell}(n:SN pg w K Φ d i H (some v) cn)(hc:cn[i]? =some c')(cl:CalmIt c')(t:SA pg w K Φ d sc target v σ cn σ1 cq)(c:SSs pg w K Φ d sc body σ1 cq g cp cy)(hg:g= .next∨g= .cont)
  (z:SFor pg w K Φ d sc target i body orelse cp cy f σ3 H'):SFor pg w K Φ d sc target i body orelse σ H f σ3 H':=.mk fun env O ρ s A a ok X fa=>by
 refine zi8 ok X fa n hc cl t fun ρ1 cm m X1 o=>c.into ok X1 fun f' ct ρ2 cu X2 cx cw=> ?_
 have hf:f'= .next∨f'= .cont:=by rcases hg with rfl | rfl<;>cases f'<;>first | exact .inl rfl | exact .inr rfl | cases cx
 have h:=codeAny_mono (z.1 env O ρ2 ct A a ok X2 (cu.ext.get (m.ext.get fa))) fun r s' q=>zeP (m.trans cu) (cw.trans o) q
 rcases hf with rfl | rfl<;>exact h
theorem SFor.ret {u:AV}{target:Expr}{body orelse:List Stmt}{c':Cell}(n:SN pg w K Φ d i H (some v) cn)(hc:cn[i]? =some c')(cl:CalmIt c')(t:SA pg w K Φ d sc target v σ cn σ1 cq)(c:SSs pg w K Φ d sc body σ1 cq (.ret u) cp cy):
  SFor pg w K Φ d sc target i body orelse σ H (.ret u) cp cy:=.mk fun env O ρ s A a ok X fa=>by
 refine zi8 ok X fa n hc cl t fun ρ1 cm m X1 o=>c.into ok X1 fun f' ct ρ2 cu X2 cx cw=> ?_
 cases f'<;>first | exact⟨ρ2,m.trans cu,X2,cx,cw.trans o⟩ | cases cx
theorem SS.for {target iter:Expr}{body orelse:List Stmt}{f:AFlow}(a:SE pg w K Φ d sc iter σ H x σ1 cn)(t:SIt pg w K Φ d x cn i cq)(h:SFor pg w K Φ d sc target i body orelse σ1 cq f σ' H')
  (hs:∀env x,foldedSetIterable iter env x=pure x:=by intro _ _;rfl):SS pg w K Φ d sc (.For target iter body orelse pos) σ H f σ' H':=.mk fun env O ρ s A ok X=>by
 refine wpAny_For (a.into ok X fun u cm ρ1 m X1 q o=>zac (t ρ1 cm A u ok X1.rel X1.gens q) fun it ct cF=> ?_) (hs env);obtain⟨ρ2,cu,X2,cx,cw⟩:=cF.inFrame X1
 refine VR.objE cx fun _ dq=> ?_
 exact codeAny_mono (h.1 env O ρ2 ct A _ ok X2 dq) fun r s' z=>by
  rcases r with e | f'
  ·exact z.elim
  ·exact zeP (r:=.ok f') (m.trans cu) (cw.trans o) z
end Mine
end
namespace Mine
section
variable {pg:Program}{w:World}{K:Frag}{Φ:Fm}{d:Nat}{sc:Scope}{σ σ' σ1 cp σ3 σc:List (Str×AV)}{H H' cn cq cy:List Cell}{v v1 v2 x y:AV}{A:Around}{s s':Shared}
 {env:Env} {O ρ ρ':List Addr} {E:Value→Shared→Prop} {e cz cG l r o:Expr} {pos:Pos} {b cI cK:Bool} {xs ys:List AV} {C:Addr} {name:Str} {i dd:Nat} {es:List (Str×AV)} {nd np su:Option AV}
theorem zds:∀(names:List (Str×NameKind)) (n:Nat) (acc:List (Str×Addr)),cellsFrom n names acc=cellsFrom n names []++acc:=by
 intro names
 induction names with
 | nil=>
  rintro _ _
  exact rfl
 | cons x9 r ih=>
  rintro n acc
  obtain⟨y,k⟩:=x9;unfold cellsFrom
  split
  ·rw[ih _ ((y,n)::acc),ih _ [(y,n)]];simp
  ·exact ih n acc
theorem zgk:∀(names:List (Str×NameKind)) (n:Nat) (x:Str) (c:Addr),(x,c)∈cellsFrom n names []→(x,NameKind.cell)∈names:=by
 intro names
 induction names with
 | nil=>
  rintro _ _ _ h
  exact mnE h
 | cons x9 r ih=>
  rintro n x c h
  obtain⟨y,k⟩:=x9;unfold cellsFrom at h
  split at h
  ·rename_i hk
   rw[zds] at h
   rcases List.mem_append.mp h with q | q
   ·exact List.mem_cons_of_mem _ (ih _ x c q)
   ·simp at q;obtain⟨rfl,rfl⟩:=q
    rw[show k= .cell from by simpa using hk];exact List.mem_cons_self
  ·exact List.mem_cons_of_mem _ (ih _ x c h)
theorem ze9:∀(names:List (Str×NameKind)) (h:Heap),h.objs.size≤(pushCells h names).objs.size:=by
 intro names
 induction names with
 | nil=>
  rintro _
  exact Nat.le_refl _
 | cons x9 r ih=>
  rintro h
  obtain⟨_,k⟩:=x9;unfold pushCells
  split
  ·exact Nat.le_trans (by rw[Heap.size_push];exact Nat.le_succ _) (ih _)
  ·exact ih h
theorem ziv {env:Env} :∀(names:List (Str×NameKind)) (acc:List (Str×Addr)),(∀x∈names,x.2= .free→∃c,env.cells.lookup x.1=some c) →
  ∃cl,(forIn names acc (fun(x:Str×NameKind) cs=>(match x with
   | (name,kind)=>if (kind==NameKind.free)=true then (do let a←cellOf env name;pure (ForInStep.yield ((name,a)::cs))) else pure (ForInStep.yield cs):Sem (ForInStep (List (Str×Addr))))))=pure (cl++acc) ∧
   (∀x c,(x,c)∈cl→(x,NameKind.free)∈names∧env.cells.lookup x=some c)∧(∀x,(x,NameKind.free)∈names→∃c,(x,c)∈cl):=by
 intro names
 induction names with
 | nil=>
  rintro acc _
  exact⟨[],rfl,fun _ _ h=>absurd h List.not_mem_nil,fun _ h=>absurd h List.not_mem_nil⟩
 | cons x9 r ih=>
  rintro acc h
  obtain⟨y,k⟩:=x9;rw[List.forIn_cons]
  by_cases hk:k= .free
  ·subst hk
   obtain⟨c,hc⟩:=h (y,.free) List.mem_cons_self rfl
   have hco:cellOf env y=pure c:=by unfold cellOf;rw[hc]
   obtain⟨cl,e,h1,h2⟩:=ih ((y,c)::acc) fun x hx=>h x (List.mem_cons_of_mem _ hx)
   refine⟨cl++ [(y,c)],?_,fun x c' hm=> ?_,fun x hm=> ?_⟩
   ·simp only[beq_self_eq_true,if_true,hco,pure_bind]
    simp only[beq_self_eq_true] at e
    rw[List.append_assoc];exact e
   ·rcases List.mem_append.mp hm with q | q
    ·exact⟨List.mem_cons_of_mem _ (h1 x c' q).1,(h1 x c' q).2⟩
    ·simp at q;obtain⟨rfl,rfl⟩:=q;exact⟨List.mem_cons_self,hc⟩
   ·rcases List.mem_cons.mp hm with q | q
    ·cases q;exact⟨c,by exact List.mem_append_right _ List.mem_cons_self⟩
    ·obtain⟨c',hc'⟩:=h2 x q;exact⟨c',List.mem_append_left _ hc'⟩
  ·have hb:(k==NameKind.free)=false:=by simpa using hk
   obtain⟨cl,e,h1,h2⟩:=ih acc fun x hx=>h x (List.mem_cons_of_mem _ hx)
   refine⟨cl,?_,fun x c' hm=>⟨List.mem_cons_of_mem _ (h1 x c' hm).1,(h1 x c' hm).2⟩,fun x hm=> ?_⟩
   ·simp only[hb,Bool.false_eq_true,if_false,pure_bind];exact e
   ·rcases List.mem_cons.mp hm with q | q
    ·cases q;exact absurd rfl hk
    ·exact h2 x q
theorem zeX {env:Env}{scope:Scope}(h:∀x∈scope.names,x.2= .free→∃c,env.cells.lookup x.1=some c):
  ∃cl,closureFor scope env=pure cl∧(∀x c,(x,c)∈cl→(x,NameKind.free)∈scope.names∧env.cells.lookup x=some c)∧(∀x,(x,NameKind.free)∈scope.names→∃c,(x,c)∈cl):=by
 obtain⟨cl,e,h1,h2⟩:=ziv scope.names [] h;refine⟨cl,?_,h1,h2⟩;rw[List.append_nil] at e;unfold closureFor
 have:(forIn scope.names ([]:List (Str×Addr)) fun(x:Str×NameKind) (cs:List (Str×Addr))=>(match x with
   | (name,kind)=>if (kind==NameKind.free)=true then (do let a←cellOf env name;pure (ForInStep.yield ((name,a)::cs))) else pure (ForInStep.yield cs):Sem (ForInStep (List (Str×Addr))))) >>= (fun cs=>pure cs)=pure cl:=by rw[e];rfl
 exact this
theorem ze8 (env:Env):∀(names:List (Str×NameKind)) (x:Str),
  (names.map fun(n,k)=>if (k==NameKind.free&&env.scope.kind== .function&&env.kindOf n==some .cell)=true then (n,NameKind.cell) else (n,k)).lookup x
   =(names.lookup x).map fun k=>if (k==NameKind.free&&env.scope.kind== .function&&env.kindOf x==some .cell)=true then NameKind.cell else k:=by
 intro names
 induction names with
 | nil=>
  rintro _
  exact rfl
 | cons x9 r ih9=>
  rintro x
  obtain⟨n,k⟩:=x9;have ih:=ih9 x
  have step:∀c:Bool,(if c=true then (n,NameKind.cell) else (n,k))=(n,if c=true then NameKind.cell else k):=fun c=>by cases c<;>rfl
  rw[List.map_cons];show List.lookup x ((if (k==NameKind.free&&env.scope.kind== .function&&env.kindOf n==some .cell)=true then (n,NameKind.cell) else (n,k))::_)=_;rw[step,List.lookup_cons,List.lookup_cons]
  cases q:x==n with
  | true=>have:=beq_iff_eq.mp q;subst this;rfl
  | false=>exact ih
theorem zbx {α:Type}[DecidableEq Str]:∀{l:List (Str×α)},(l.map (·.1)).Nodup→∀{x:Str} {k:α},(x,k)∈l→l.lookup x=some k
 | (n,j)::r,hn,x,k,h=>by
  simp only[List.map_cons,List.nodup_cons] at hn;rw[List.lookup_cons]
  rcases List.mem_cons.mp h with q | q
  ·cases q;simp
  ·have:x≠n:=fun e=>hn.1 (e▸List.mem_map_of_mem (f:=(·.1)) q)
   have hb:(x==n)=false:=by simpa using this
   rw[hb];exact zbx hn.2 q
theorem zkl {scope:Scope}(X:St pg w K Φ env sc O σ H ρ s)(hkind:scope.kind= .function)(hnd:(scope.names.map (·.1)).Nodup)
  (hfree:∀x∈scope.names,x.2= .free→sc.names.lookup x.1=some .cell∨sc.names.lookup x.1=some .free)
  (hσ:∀x v,σc.lookup x=some v→scope.names.lookup x=some .free∧σ.lookup x=some v):
  ∃cl,closureFor scope env=pure cl∧∀(Q:Env→Shared→Prop) (E:Value→Shared→Prop),
   (∀cenv h' O',cenv.locals=s.heap.objs.size→St pg w K Φ {cenv with scope:=relabel scope env} scope O' σc H ρ {s with heap:=h'} →Moves [] s.heap h' ρ ρ→(∀b∈O',s.heap.objs.size≤b)→Q cenv {s with heap:=h'}) →
   wpAny (model pg w) A (newFunctionEnv scope env.globals cl [] env.qual none .none (some env)) Q E s:=by
 have hcells:∀x∈scope.names,x.2= .free→∃c,env.cells.lookup x.1=some c:=fun x hx hk=>by
  rcases hfree x hx hk with q | q
  ·obtain⟨_,c,_,hc,_⟩:=X.env.cel x.1 q;exact⟨c,hc⟩
  ·obtain⟨_,c,hc⟩:=X.env.fre x.1 q;exact⟨c,hc⟩
 obtain⟨cl,hcl,cl1,cl2⟩:=zeX hcells;refine⟨cl,hcl,fun Q E hQ=> ?_⟩;refine wpAny_bind (wpAny_alloc ?_);refine wpAny_bind (wpAny_layCells _ (fun name kind cells=>by cases kind<;>rfl) _ _ _ _ ?_);refine wpAny_pure ?_;show Q ({scope:=scope,locals:=s.heap.objs.size,globals:=env.globals,cells:=cellsFrom ({s with heap:=s.heap.push {cls:=.type "dict",data:=.dict #[]}} :Shared).heap.objs.size scope.names cl,qual:=env.qual,code:=env.code,frame:=env.frame,builtins:=env.builtins} :Env) {s with heap:=pushCells (s.heap.push {cls:=.type "dict",data:=.dict #[]}) scope.names};have esz:(s.heap.push {cls:=.type "dict",data:=.dict #[]}).objs.size=s.heap.objs.size+1:=Heap.size_push ..;generalize hcs:cellsFrom ({s with heap:=s.heap.push {cls:=.type "dict",data:=.dict #[]}} :Shared).heap.objs.size scope.names cl=cs
 have hcs':cs=cellsFrom (s.heap.objs.size+1) scope.names []++cl:=by rw[←hcs,zds];show cellsFrom (s.heap.push _).objs.size _ _++_=_;rw[esz]
 have ok:=cellsFrom_ok scope.names (s.heap.push {cls:=.type "dict",data:=.dict #[]}) (s.heap.objs.size+1) [] ⟨fun _ _ hm=>(nomatch hm),List.Pairwise.nil⟩ (by rw[esz];exact Nat.le_refl _);rw[esz] at ok
 have hk:∀b o,s.heap.get? b=some o→(pushCells (s.heap.push {cls:=.type "dict",data:=.dict #[]}) scope.names).get? b=some o:=fun b o e=>pushCells_keeps _ _ b o (Heap.get?_push_of_some _ e)
 have hz:s.heap.objs.size≤(pushCells (s.heap.push {cls:=.type "dict",data:=.dict #[]}) scope.names).objs.size:=Nat.le_trans (by rw[esz];exact Nat.le_succ _) (ze9 _ _);have hns:(pushCells (s.heap.push {cls:=.type "dict",data:=.dict #[]}) scope.names).Ns s.heap.objs.size (fun _=>none):=(Heap.Ns.new s.heap (.type "dict")).keeps (pushCells_keeps _ _)
 have ownCell:∀x c,(x,c)∈cellsFrom (s.heap.objs.size+1) scope.names []→scope.names.lookup x=some .cell:=fun x c h=>zbx hnd (zgk _ _ x c h)
 have ownHas:=zbA scope.names (s.heap.objs.size+1) [];generalize pushCells (s.heap.push {cls:=.type "dict",data:=.dict #[]}) scope.names=h' at ok hk hz hns ⊢;generalize cellsFrom (s.heap.objs.size+1) scope.names []=own at ok ownCell ownHas hcs';refine hQ _ h' (s.heap.objs.size::(own.filter fun p=>decide (own.lookup p.1=some p.2)).map (·.2)) rfl ?_ ?_ ?_
 ·have mv:Moves [] s.heap h' ρ ρ:=Moves.grow hk hz (by exact zad)
  have R0:=X.rel.moves mv (fun b hb o ho=>hk b o ho) (by exact zad)
  have fresh:∀c,s.heap.objs.size≤c→c∉ρ∧K.lookup c=none:=fun c hc=>by
   have hn:=Heap.get?_none_of_le hc;refine⟨fun z=>absurd (X.rel.live _ z) (Nat.not_lt.mpr hc),?_⟩
   cases z:K.lookup c with
   | none=>rfl
   | some o=>rw[X.rel.top _ _ z] at hn;exact snE hn
  have ko:∀x,Env.kindOf {scope:=relabel scope env,locals:=s.heap.objs.size,globals:=env.globals,cells:=cs,qual:=env.qual,code:=env.code,frame:=env.frame,builtins:=env.builtins} x
    =(scope.names.lookup x).map fun k=>if (k==NameKind.free&&env.scope.kind== .function&&env.kindOf x==some .cell)=true then NameKind.cell else k:=fun x=>ze8 env scope.names x
  have freeOwn:∀x,scope.names.lookup x=some .free→own.lookup x=none:=fun x h=>by
   cases z:own.lookup x with
   | none=>rfl
   | some c=>have:=ownCell x c (mem_of_lookup z);rw[this] at h;cases h
  have clAt:∀x c,cl.lookup x=some c→scope.names.lookup x=some .free∧env.cells.lookup x=some c:=fun x c h=>⟨zbx hnd (cl1 x c (mem_of_lookup h)).1,(cl1 x c (mem_of_lookup h)).2⟩
  have freeAt:∀x,scope.names.lookup x=some .free→∃c,cl.lookup x=some c:=fun x h=>by
   obtain⟨c,hc⟩:=cl2 x (mem_of_lookup h)
   cases z:cl.lookup x with
   | some c'=>exact⟨c',rfl⟩
   | none=>have:=List.lookup_eq_none_iff.mp z (x,c) hc;simp at this
  have csFree:∀x,scope.names.lookup x=some .free→cs.lookup x=cl.lookup x:=fun x h=>by
   rw[hcs',List.lookup_append,freeOwn x h];rfl
  have csCases:∀x c,cs.lookup x=some c→own.lookup x=some c∨cl.lookup x=some c:=fun x c h=>by
   rw[hcs',List.lookup_append] at h
   cases z:own.lookup x with
   | none=>rw[z] at h;exact .inr h
   | some c'=>rw[z] at h;exact .inl h
  have ownAt:∀x c,own.lookup x=some c→h'.IsCell c none∧s.heap.objs.size+1≤c:=fun x c h=>ok.empty x c (mem_of_lookup h)
  have oldCell:∀x c,env.cells.lookup x=some c→c < s.heap.objs.size:=fun x c h=>let⟨v,o,ho,_⟩:=X.env.cellLive x c h;Heap.lt_size ho
  have isc:∀c v,s.heap.IsCell c v→h'.IsCell c v:=fun c v ⟨o,ho,hd⟩=>⟨o,hk _ _ ho,hd⟩
  refine⟨R0,⟨hkind,X.env.gl,X.env.bl,fun x hx=> ?_,fun x hx=> ?_,fun x hx=> ?_,fun x hx=> ?_,⟨_,hns,fun x v e hl=> ?_⟩,fun x v e hl=> ?_,fun x y c e e'=> ?_,List.mem_cons_self,fun a ha=> ?_,fun a ha=> ?_,fun x c e=> ?_,fun x c e=> ?_,X.env.frame⟩,X.gens⟩
  ·rw[ko,hx];rfl
  ·rw[ko,hx];rfl
  ·refine⟨by rw[ko,hx];rfl,?_⟩
   obtain⟨c,hc⟩:=Option.isSome_iff_exists.mp (ownHas x hx);refine⟨c,none,?_,List.mem_cons_of_mem _ (List.mem_map_of_mem (f:=(·.2)) (List.mem_filter.mpr ⟨mem_of_lookup hc,by simpa using hc⟩)),(ownAt x c hc).1⟩;show cs.lookup x=some c
   rw[hcs',List.lookup_append,hc];rfl
  ·refine⟨?_,?_⟩
   ·rw[ko,hx]
    dsimp only[Option.map_some]
    split
    ·exact .inr rfl
    ·exact .inl rfl
   ·obtain⟨c,hc⟩:=freeAt x hx
    exact⟨c,(csFree x hx).trans hc⟩
  ·have:=(hσ x v e).1
   rw[ko,this] at hl;dsimp only[Option.map_some] at hl
   split at hl<;>cases hl
  ·obtain⟨hf,hs⟩:=hσ x v e
   refine⟨?_,?_⟩
   ·rw[ko,hf]
    dsimp only[Option.map_some]
    split
    ·exact .inl rfl
    ·exact .inr rfl
   ·obtain⟨c,hc⟩:=freeAt x hf
    have hce:=(clAt x c hc).2
    have hkl:env.kindOf x≠some .local:=by
     rcases hfree (x,.free) (mem_of_lookup hf) rfl with q | q
     ·rw[(X.env.cel x q).1];simp
     ·rcases (X.env.fre x q).1 with z | z<;>rw[z]<;>simp
    obtain⟨_,c',v',a,b',q⟩:=X.env.cells x v hs hkl
    rw[hce] at a;obtain rfl:=Option.some.inj a
    exact⟨c,v',(csFree x hf).trans hc,isc _ _ b',q.moves mv⟩
  ·rcases csCases x c e with q | q<;>rcases csCases y c e' with q' | q'
   ·exact name_of_addr ok.apart (mem_of_lookup q) (mem_of_lookup q')
   ·have h1:=(ownAt x c q).2
    exact absurd (oldCell y c (clAt y c q').2) (Nat.not_lt.mpr (Nat.le_of_succ_le h1))
   ·have h1:=(ownAt y c q').2
    exact absurd (oldCell x c (clAt x c q).2) (Nat.not_lt.mpr (Nat.le_of_succ_le h1))
   ·exact X.env.apart x y c (clAt x c q).2 (clAt y c q').2
  ·rcases List.mem_cons.mp ha with rfl | hb
   ·exact fresh _ (Nat.le_refl _)
   ·obtain⟨p,hp,rfl⟩:=List.mem_map.mp hb
    exact fresh _ (Nat.le_of_succ_le (ok.empty p.1 p.2 (List.mem_filter.mp hp).1).2)
  ·rcases List.mem_cons.mp ha with rfl | hb
   ·exact zcv hns
   ·obtain⟨p,hp,rfl⟩:=List.mem_map.mp hb
    exact zci (ok.empty p.1 p.2 (List.mem_filter.mp hp).1).1
  ·rcases csCases x c e with q | q
   ·have h1:=(ownAt x c q).2
    exact⟨(fresh c (Nat.le_of_succ_le h1)).1,(fresh c (Nat.le_of_succ_le h1)).2,Nat.ne_of_gt h1⟩
   ·have h1:=X.env.cellOff x c (clAt x c q).2
    have h2:=oldCell x c (clAt x c q).2;exact⟨h1.1,h1.2.1,Nat.ne_of_lt h2⟩
  ·rcases csCases x c e with q | q
   ·exact⟨_,(ownAt x c q).1⟩
   ·obtain⟨u,hu⟩:=X.env.cellLive x c (clAt x c q).2
    exact⟨u,isc _ _ hu⟩
 ·exact Moves.grow hk hz (by exact zad)
 ·intro b hb
  rcases List.mem_cons.mp hb with rfl | hb
  ·exact Nat.le_refl _
  ·obtain⟨p,hp,rfl⟩:=List.mem_map.mp hb
   exact Nat.le_of_succ_le (ok.empty p.1 p.2 (List.mem_filter.mp hp).1).2
end
end Mine
section
namespace Mine
variable {pg:Program}{w:World}{K:Frag}{Φ:Fm}{d:Nat}{sc:Scope}{σ σ' σ1 cp σ3 σc:List (Str×AV)}{H H' cn cq cy c5:List Cell}{v v1 v2 x y:AV}{A:Around}{s s':Shared}
 {env:Env} {O P ρ ρ':List Addr} {E:Value→Shared→Prop} {e cz cG l r o:Expr} {pos:Pos} {b cI cK:Bool} {xs ys:List AV} {C:Addr} {name:Str} {i j dd dep:Nat} {es:List (Str×AV)} {nd np su:Option AV}
theorem EnvR.movesP {ρ ρ':List Addr}{h h':Heap}(x:EnvR K Φ env sc O σ ρ h)(m:Moves P h h' ρ ρ')(hP:∀a∈P,a∉O∧∀y c,env.cells.lookup y=some c→c≠a):EnvR K Φ env sc O σ ρ' h':=by
 have keep:∀a o,h.get? a=some o→a∉ρ→a∉P→(∃o',h'.get? a=some o'∧Like a o o')∧a∉ρ':=fun a o e n p=>⟨m.keep a o e n p,m.ext.not_mem e n⟩
 have nO:∀a∈O,a∉P:=fun a ha hp=>(hP a hp).1 ha
 have nC:∀y c,env.cells.lookup y=some c→c∉P:=fun y c hc hp=>(hP c hp).2 y c hc rfl
 have cl:∀y c v,env.cells.lookup y=some c→h.IsCell c v→h'.IsCell c v∧c∉ρ':=fun y c v hc ⟨o,ho,hd⟩=>
  let⟨⟨o',e',l⟩,n⟩:=keep c o ho (x.cellOff y c hc).1 (nC y c hc);⟨⟨o',e',l.data.trans hd⟩,n⟩
 refine⟨x.fn,x.gl,x.bl,x.glob,x.loc,fun y hy=> ?_,x.fre,?_,fun y v hy hk=> ?_,x.apart,x.locO,fun a ha=> ?_,fun a ha=> ?_,fun y c hc=> ?_,fun y c hc=> ?_,x.frame⟩
 ·obtain⟨a,c,v,b,d,e⟩:=x.cel y hy
  exact⟨a,c,v,b,d,(cl y c v b e).1⟩
 ·obtain⟨mm,⟨o,es,ep,ho,r⟩,q⟩:=x.ns
  obtain⟨⟨o',e',l⟩,_⟩:=keep _ _ ho (x.off _ x.locO).1 (nO _ x.locO);refine⟨mm,⟨o',es,ep,e',l.data.trans r.1,r.2⟩,fun y v hy hk=> ?_⟩;obtain⟨v',a,b⟩:=q y v hy hk;exact⟨v',a,b.moves m⟩
 ·obtain⟨a,c,v',b,d,e⟩:=x.cells y v hy hk
  exact⟨a,c,v',b,(cl y c _ b d).1,e.moves m⟩
 ·obtain⟨o,ho,_⟩:=x.soft a ha
  exact⟨(keep a o ho (x.off a ha).1 (nO a ha)).2,(x.off a ha).2⟩
 ·obtain⟨o,ho,hs⟩:=x.soft a ha
  obtain⟨⟨o',e',l⟩,_⟩:=keep a o ho (x.off a ha).1 (nO a ha);exact⟨o',e',l.soft hs⟩
 ·obtain⟨n,k,l⟩:=x.cellOff y c hc
  obtain⟨v,hv⟩:=x.cellLive y c hc;exact⟨(cl y c v hc hv).2,k,l⟩
 ·obtain⟨v,hv⟩:=x.cellLive y c hc
  exact⟨v,(cl y c v hc hv).1⟩
section
variable (pg:Program)(w:World)(K:Frag)(Φ:Fm)
structure STs (d:Nat)(sc:Scope)(ifs:List Expr)(σ:List (Str×AV))(H:List Cell)(b:Bool)(σ':List (Str×AV))(H':List Cell):Prop where
 go:∀env O ρ s A,OkA Φ d A→St pg w K Φ env sc O σ H ρ s→wpAny (model pg w) A (forIn ifs true fun c r=>if r=true then do let ok←isTrue c env (eval c env);pure (ForInStep.yield ok) else pure (ForInStep.yield r))
  (fun b' s'=>b'=b∧PU pg w K Φ env sc O s ρ σ' H' s') (fun _ _=>False) s
structure SEm (d:Nat)(sc:Scope)(emit:Value→Env→Sem Unit)(j:Nat)(σ:List (Str×AV))(H:List Cell)(σ':List (Str×AV))(H':List Cell):Prop where
 go:∀env O ρ s A c,OkA Φ d A→St pg w K Φ env sc O σ H ρ s→ρ[j]? =some c→wpAny (model pg w) A (emit (.ref c) env) (fun _ s'=>PU pg w K Φ env sc O s ρ σ' H' s') (fun _ _=>False) s
noncomputable def zmc (pg:Program)(w:World)(K:Frag)(Φ:Fm)(env:Env)(sc:Scope)(O:List Addr)(s:Shared)(ρ:List Addr)(σ:List (Str×AV))(H':List Cell):Result→Shared→Prop
 | .ok _,s'=>PU pg w K Φ env sc O s ρ σ H' s'
 | .error _,_=>False
structure SCL (d:Nat)(sc:Scope)(e:Expr)(dep i j:Nat)(σ:List (Str×AV))(H H':List Cell):Prop where
 go:∀env O ρ s A a c,OkA Φ d A→St pg w K Φ env sc O σ H ρ s→ρ[i]? =some a→ρ[j]? =some c→codeAny (model pg w) A (.compLoop e dep (.ref a) (.ref c) env) (zmc pg w K Φ env sc O s ρ σ H') s
end
inductive IsComp:Expr→Prop
 | lst {a b c p} :IsComp (.ListComp a b c p)
 | dct {a b c d p} :IsComp (.DictComp a b c d p)
theorem STs.into {Q:Bool→Shared→Prop}{ifs:List Expr}(a:STs pg w K Φ d sc ifs σ H b σ' H')(ok:OkA Φ d A)(X:St pg w K Φ env sc O σ H ρ s)(k:∀b' cm,b'=b→∀ρ1,Moves O s.heap cm.heap ρ ρ1→St pg w K Φ env sc O σ' H' ρ1 cm→cm.os=s.os→Q b' cm):wpAny (model pg w) A (forIn ifs true fun c r=>if r=true then do let ok←isTrue c env (eval c env);pure (ForInStep.yield ok) else pure (ForInStep.yield r)) Q E s:=
 zac (a.1 env O ρ s A ok X) fun v' cm ⟨q,ρ1,m,X1,o⟩=>k v' cm q ρ1 m X1 o
theorem SEm.into {Q:Unit→Shared→Prop}{emit:Value→Env→Sem Unit}(a:SEm pg w K Φ d sc emit j σ H σ' H')(c:Addr)(ok:OkA Φ d A)(X:St pg w K Φ env sc O σ H ρ s)(f:ρ[j]? =some c)(k:∀b' cm ρ1,Moves O s.heap cm.heap ρ ρ1→St pg w K Φ env sc O σ' H' ρ1 cm→cm.os=s.os→Q b' cm):wpAny (model pg w) A (emit (.ref c) env) Q E s:=
 zac (a.1 env O ρ s A c ok X f) fun v' cm ⟨ρ1,m,X1,o⟩=>k v' cm ρ1 m X1 o
theorem STs.nil:STs pg w K Φ d sc [] σ H true σ H:=.mk fun env O ρ s A ok X=>wpAny_tests_nil ⟨rfl,PU.here X⟩
theorem STs.one {c:Expr}(a:ST pg w K Φ d sc c σ H b σ1 cn):STs pg w K Φ d sc [c] σ H b σ1 cn:=.mk fun env O ρ s A ok X=>wpAny_tests_one (a.1 env O ρ s A ok X)
theorem SEm.list {elt:Expr}(a:SE pg w K Φ d sc elt σ H y σ1 cn)(e:cn[j]? =some (.lst ys))(hz:ys.length≤sizeLine):SEm pg w K Φ d sc (fun acc env=>do let _←call (.builtin "list.append") [acc,←eval elt env]) j σ H σ1 (cn.set j (.lst (ys++ [y]))):=.mk fun env O ρ s A c ok X fc=>by
 refine wpAny_bind (a.into ok X fun u cm ρ1 m X1 q o=> ?_);have fc':=m.ext.get fc;refine wpAny_bind (zac (SC.append (d:=d) (x:=y) e hz ρ1 cm A _ ok X1.rel X1.gens (.cons (.obj fc') (.cons q .nil))) fun _ ct cF=>wpAny_pure ?_);obtain⟨ρ2,cu,X2,_,cw⟩:=cF.inFrame X1;exact⟨ρ2,m.trans cu,X2,cw.trans o⟩
noncomputable def zbH (e:Expr)(dep:Nat)(p:Pos)(target:Expr)(ifs:List Expr)(emit:Value→Env→Sem Unit):Prop:=
 ∀it acc env,compTurn e dep it acc env=(do
   standAt p
   match←pyNext it with
   | none=>pure (.done .next)
   | some v=>
    letOwnedTupleGo target it v
    assign target env v
    let mut ok:=true
    for c in ifs do
     if ok then ok←isTrue c env (eval c env)
    if ok then emit acc env
    again (.compLoop e dep it acc env))
theorem zjs {e:Expr}{it acc:Value}(c:IsComp e):A.under (.compLoop e dep it acc env)=A:=by cases c<;>exact Around.under_of_weight rfl
theorem zhH {e:Expr}{it acc:Value}(c:IsComp e):A.under (.compStart e dep it acc env)=A:=by cases c<;>exact Around.under_of_weight rfl
theorem zmZ {e:Expr}{it acc:Value}(c:IsComp e):(model pg w).den (.compLoop e dep it acc env)=(compTurn e dep it acc env).onRaise (fun x=>do noteFrame x env;theTreesLotGoes x):=by cases c<;>rfl
theorem zlQ {e:Expr}{it acc:Value}(c:IsComp e):(model pg w).den (.compStart e dep it acc env)=(compStart e dep it acc env).onRaise (fun x=>do noteFrame x env;standAt theWindowsPlace):=by cases c<;>rfl
theorem zc5 {p:Pos}{target:Expr}{ifs:List Expr}{emit:Value→Env→Sem Unit}{it acc:Value}{R:Result→Shared→Prop}(ic:IsComp e)(hT:zbH e dep p target ifs emit)
  (h:wpAny (model pg w) A (pyNext it) (fun r cm=>match r with
   | none=>R (.ok .next) cm
   | some v=>wpAny (model pg w) A (letOwnedTupleGo target it v) (fun _ di=>wpAny (model pg w) A (assign target env v) (fun _ ct=>
     wpAny (model pg w) A (forIn ifs true fun c r=>if r=true then do let ok←isTrue c env (eval c env);pure (ForInStep.yield ok) else pure (ForInStep.yield r)) (fun ok cA=>
      if ok=true then wpAny (model pg w) A (emit acc env) (fun _ c7=>codeAny (model pg w) A (.compLoop e dep it acc env) R c7) (fun _ _=>False) cA
      else codeAny (model pg w) A (.compLoop e dep it acc env) R cA) (fun _ _=>False) ct) (fun _ _=>False) di) (fun _ _=>False) cm) (fun _ _=>False) s):
  codeAny (model pg w) A (.compLoop e dep it acc env) R s:=by
 refine codeAny_of_tree ?_;rw[zjs ic,zmZ ic];refine wpAny_onRaise ?_;rw[hT];refine wpAny_bind (wpAny_standAt (wpAny_bind (wpAny_mono h (fun r cm cB=> ?_) fun _ _ z=>z.elim)))
 cases r with
 | none=>exact wpAny_pure cB
 | some v=>
  refine wpAny_bind (wpAny_mono cB (fun _ di h1'=> ?_) fun _ _ z=>z.elim);refine wpAny_bind (wpAny_mono h1' (fun _ ct cF=>wpAny_bind (wpAny_mono cF (fun ok cA cT=> ?_) fun _ _ z=>z.elim)) fun _ _ z=>z.elim)
  cases ok with
  | false=>exact wpAny_pure ⟨rfl,cT⟩
  | true=>exact wpAny_bind (wpAny_mono cT (fun _ c7 dP=>wpAny_pure ⟨rfl,dP⟩) fun _ _ z=>z.elim)
theorem SCL.out {p:Pos}{target:Expr}{ifs:List Expr}{emit:Value→Env→Sem Unit}(ic:IsComp e)(hT:zbH e dep p target ifs emit)(n:SN pg w K Φ d i H none cn):SCL pg w K Φ d sc e dep i j σ H cn:=.mk fun env O ρ s A a c ok X fa fc=>by
 refine zc5 ic hT (zac (n ρ s A a ok X.rel X.gens fa) fun r cm cB=> ?_)
 cases r with
 | some v=>exact cB.elim
 | none=>exact POU.inFrame X cB
theorem zdr {cm:Shared}(m:Moves O s.heap cm.heap ρ ρ')(o:cm.os=s.os){r:Result}(h:zmc pg w K Φ env sc O cm ρ' σ H' r s'):zmc pg w K Φ env sc O s ρ σ H' r s':=by
 rcases r with e | f
 ·exact h
 ·exact PU.then m o h
theorem zhs {p:Pos}{target:Expr}{ifs:List Expr}{emit:Value→Env→Sem Unit}{c':Cell}{R:Result→Shared→Prop}{a:Addr}{acc:Value}(ic:IsComp e)(hT:zbH e dep p target ifs emit)(ok:OkA Φ d A)(X:St pg w K Φ env sc O σ H ρ s)(fa:ρ[i]? =some a)(n:SN pg w K Φ d i H (some v) cn)(hc:cn[i]? =some c')(cl:CalmIt c')
  (t:SA pg w K Φ d sc target v σ cn σ1 cq) (ts:STs pg w K Φ d sc ifs σ1 cq b cp cy)
  (h:∀ρ2 cA,Moves O s.heap cA.heap ρ ρ2→St pg w K Φ env sc O cp cy ρ2 cA→cA.os=s.os →
   if b=true then wpAny (model pg w) A (emit acc env) (fun _ c7=>codeAny (model pg w) A (.compLoop e dep (.ref a) acc env) R c7) (fun _ _=>False) cA
      else codeAny (model pg w) A (.compLoop e dep (.ref a) acc env) R cA):codeAny (model pg w) A (.compLoop e dep (.ref a) acc env) R s:=by
 refine zc5 ic hT (zac (n ρ s A a ok X.rel X.gens fa) fun r cm cB=> ?_)
 cases r with
 | none=>exact cB.elim
 | some u=>
  obtain⟨ρ1,m,X1,q,o⟩:=PO.inFrame X cB;have cZ:=m.ext.get fa;refine zlW (h:=cm.heap) cl (X1.rel.cell _ _ _ hc cZ) ?_
  refine t.into u ok X1 q fun _ ct ρ2 cu X2 cw=> ?_
  refine ts.into ok X2 fun b' cA eb ρ3 m3 X3 cJ=> ?_
  subst eb;exact h ρ3 cA ((m.trans cu).trans m3) X3 ((cJ.trans cw).trans o)
theorem SCL.skip {p:Pos}{target:Expr}{ifs:List Expr}{emit:Value→Env→Sem Unit}{c':Cell}(ic:IsComp e)(hT:zbH e dep p target ifs emit)(n:SN pg w K Φ d i H (some v) cn)(hc:cn[i]? =some c')(cl:CalmIt c')(t:SA pg w K Φ d sc target v σ cn σ1 cq)(ts:STs pg w K Φ d sc ifs σ1 cq false cp cy)
  (hσ:∀y v,σ.lookup y=some v→cp.lookup y=some v) (z:SCL pg w K Φ d sc e dep i j σ cy H'):SCL pg w K Φ d sc e dep i j σ H H':=.mk fun env O ρ s A a c ok X fa fc=>by
 refine zhs ic hT ok X fa n hc cl t ts fun ρ2 cA m X2 o=> ?_
 rw[if_neg Bool.false_ne_true]
 exact codeAny_mono (z.1 env O ρ2 cA A a c ok (X2.weaken hσ) (m.ext.get fa) (m.ext.get fc)) fun r s' q=>zdr m o q
theorem SCL.emit {p:Pos}{target:Expr}{ifs:List Expr}{emit:Value→Env→Sem Unit}{c':Cell}(ic:IsComp e)(hT:zbH e dep p target ifs emit)(n:SN pg w K Φ d i H (some v) cn)(hc:cn[i]? =some c')(cl:CalmIt c')(t:SA pg w K Φ d sc target v σ cn σ1 cq)(ts:STs pg w K Φ d sc ifs σ1 cq true cp cy)
  (em:SEm pg w K Φ d sc emit j cp cy σ3 c5) (hσ:∀y v,σ.lookup y=some v→σ3.lookup y=some v) (z:SCL pg w K Φ d sc e dep i j σ c5 H'):SCL pg w K Φ d sc e dep i j σ H H':=.mk fun env O ρ s A a c ok X fa fc=>by
 refine zhs ic hT ok X fa n hc cl t ts fun ρ2 cA m X2 o=> ?_
 rw[if_pos rfl]
 refine em.into c ok X2 (m.ext.get fc) fun _ c7 ρ4 m4 X4 o4=> ?_
 exact codeAny_mono (z.1 env O ρ4 c7 A a c ok (X4.weaken hσ) (m4.ext.get (m.ext.get fa)) (m4.ext.get (m.ext.get fc))) fun r s' q=>zdr (m.trans m4) (o4.trans o) q
theorem zfD {it acc:Value}{R:Result→Shared→Prop}(ic:IsComp e)(hcl:((clausesOf e)[dep]?).elim false (·.is_async !=0)=false)
  (h0:codeAny (model pg w) A (.compLoop e dep it acc env) R s)
  (h:wpAny (model pg w) A (pyIter it) (fun it' s'=>codeAny (model pg w) A (.compLoop e dep it' acc env) R s') (fun _ _=>False) s):codeAny (model pg w) A (.compStart e dep it acc env) R s:=by
 refine codeAny_of_tree ?_;rw[zhH ic,zlQ ic];refine wpAny_onRaise ?_;unfold compStart;rw[hcl,if_neg Bool.false_ne_true];refine wpAny_bind (wpAny_askSetting ?_)
 split
 ·exact wpAny_bind (wpAny_pure (wpAny_pure ⟨rfl,h0⟩))
 ·refine wpAny_bind (wpAny_rule ?_)
  cases (clausesOf e)[dep]? with
  | some g=>exact wpAny_bind (wpAny_standAt (wpAny_bind (wpAny_mono h (fun it' s' h'=>wpAny_pure ⟨rfl,h'⟩) fun _ _ z=>z.elim)))
  | none=>exact wpAny_bind (wpAny_mono h (fun it' s' h'=>wpAny_pure ⟨rfl,h'⟩) fun _ _ z=>z.elim)
end Mine
end
namespace Mine
section
variable {pg:Program}{w:World}{K:Frag}{Φ:Fm}{d:Nat}{sc:Scope}{σ σ' σ1 cp σ3 σc:List (Str×AV)}{H H' cn cq cy c5:List Cell}{v v1 v2 x y:AV}{A:Around}{s s':Shared}
 {env:Env} {O P ρ ρ':List Addr} {E:Value→Shared→Prop} {e cz cG l r o:Expr} {pos:Pos} {b cI cK:Bool} {xs ys:List AV} {C:Addr} {name:Str} {i j dd dep:Nat} {es:List (Str×AV)} {nd np su:Option AV}
structure CompSc (sc scope:Scope):Prop where
 kind:scope.kind= .function
 nd:(scope.names.map (·.1)).Nodup
 free:∀x∈scope.names,x.2= .free→sc.names.lookup x.1=some .cell∨sc.names.lookup x.1=some .free
theorem CompSc.loc {scope:Scope}(c:CompSc sc scope):∀x∈scope.names,x.2= .local→scope.names.lookup x.1=some .local:=fun x hx h=>by
 obtain⟨n,k⟩:=x;subst h;exact zbx c.nd hx
inductive CompRun (pg:Program)(w:World)(K:Frag)(Φ:Fm)(d:Nat)(sc:Scope)(e:Expr)(scope:Scope)(σ:List (Str×AV))(H:List Cell)(i j:Nat)(H':List Cell):Prop
 | mk (cs:CompSc sc scope) (ic:IsComp e) (hcl:((clausesOf e)[0]?).elim false (·.is_async !=0)=false) (σc:List (Str×AV)) (hσ:∀x v,σc.lookup x=some v→scope.names.lookup x=some .free∧σ.lookup x=some v) (self:SIt pg w K Φ d (.obj i) H i H) (loop:SCL pg w K Φ d scope e 0 i j σc H H')
theorem CompRun.ok {scope:Scope}(cr:CompRun pg w K Φ d sc e scope σ H i j H'):CompSc sc scope:=by cases cr;assumption
inductive CompEnd (pg:Program)(w:World)(K:Frag)(Φ:Fm)(env:Env)(sc:Scope)(O:List Addr)(s:Shared)(ρ:List Addr)(σ:List (Str×AV))(H':List Cell)(C:Addr)(s':Shared):Prop
 | mk (ρ':List Addr) (m:Str→Option Value) (mm:Moves [] s.heap s'.heap ρ ρ') (X:St pg w K Φ env sc O σ H' ρ' s') (o:s'.os=s.os) (hns:s'.heap.Ns C m) (hC:s.heap.objs.size≤C) (n:C∉ρ') (k:K.lookup C=none)
theorem zcr {scope:Scope}(cs:CompSc sc scope)(X:St pg w K Φ env sc O σ H ρ s):∃cl,closureFor scope env=pure cl:=by
 obtain⟨cl,h,_⟩:=zeX (env:=env) (scope:=scope) fun x hx hk=>by
  rcases cs.free x hx hk with q | q
  ·obtain⟨_,c,_,hc,_⟩:=X.env.cel x.1 q;exact⟨c,hc⟩
  ·obtain⟨_,c,hc⟩:=X.env.fre x.1 q;exact⟨c,hc⟩
 exact⟨cl,h⟩
theorem zgi {scope:Scope}{it acc:Addr}{cl:List (Str×Addr)}(hcl':closureFor scope env=pure cl)(cr:CompRun pg w K Φ d sc e scope σ H i j H')(ok:OkA Φ d A)(X:St pg w K Φ env sc O σ H ρ s)(fi:ρ[i]? =some it)(fj:ρ[j]? =some acc):
  ∀(R:Addr→Result→Shared→Prop) (E:Value→Shared→Prop),(∀C r s',CompEnd pg w K Φ env sc O s ρ σ H' C s'→R C (.ok r) s') →
   wpAny (model pg w) A (newFunctionEnv scope env.globals cl [] env.qual none .none (some env)) (fun cenv c7=>codeAny (model pg w) A (.compStart e 0 (.ref it) (.ref acc) {cenv with scope:=relabel scope env}) (R cenv.locals) c7) E s:=by
 obtain⟨cs,ic,hcl,σc,hσ,self,loop⟩:=cr;obtain⟨cl0,hcf,hnew⟩:=zkl (σc:=σc) X cs.kind cs.nd cs.free hσ
 have:cl=cl0:=by rw[hcf] at hcl';injection hcl' with e;exact e.symm
 subst this
 refine fun R E hR=>hnew _ _ fun cenv h' O' hl X' m hO=> ?_
 have fin:∀r s',zmc pg w K Φ {cenv with scope:=relabel scope env} scope O' {s with heap:=h'} ρ σc H' r s'→R cenv.locals r s':=by
  intro r s' z
  rcases r with e | r
  ·exact z.elim
  obtain⟨ρ',cu,X2,cw⟩:=z;obtain⟨mm,hns,_⟩:=X2.env.ns
  have dead:∀b∈O',s.heap.get? b=none:=fun b hb=>Heap.get?_none_of_le (hO b hb)
  have m1':Moves O' s.heap h' ρ ρ:=m.wider (by exact zad) fun b hb o e=>by rw[dead b hb] at e;exact nsE e
  have mm':Moves [] s.heap s'.heap ρ ρ':=(m1'.trans cu).narrow (fun b hb=>.inr (dead b hb)) (by exact zad);have hC:=X2.env.off _ X2.env.locO;exact hR _ _ _ ⟨ρ',mm,mm',⟨X2.rel,X.env.moves mm',X2.gens⟩,cw,hns,Nat.le_of_eq hl.symm,hC.1,hC.2⟩
 refine zfD ic hcl (codeAny_mono (loop.1 _ O' ρ {s with heap:=h'} A it acc ok X' fi fj) fin) ?_
 refine zac (self ρ {s with heap:=h'} A (.ref it) ok X'.rel X'.gens (.obj fi)) fun u cm cB=> ?_
 obtain⟨ρ1,cM,X1,q,cP⟩:=cB.inFrame X'
 refine VR.objE q fun _ cZ=> ?_
 have e:=cM.ext.get fi
 rw[e] at cZ;obtain rfl:=Option.some.inj cZ
 exact codeAny_mono (loop.1 _ O' ρ1 cm A it acc ok X1 e (cM.ext.get fj)) fun r s' z=>fin r s' (zdr cM cP z)
theorem zhi {C:Addr}{h':Heap}(X:St pg w K Φ env sc O σ H ρ s)(hC:s.heap.objs.size≤C)(m:Moves O s.heap s'.heap ρ ρ')(X':St pg w K Φ env sc O σ1 H' ρ' s')(hd:∃o es ep,s'.heap.get? C=some o∧o.data= .dict es ep)(n:C∉ρ')(k:K.lookup C=none)(hs:Heap.SameBut C s'.heap h'):
  Moves O s.heap h' ρ ρ'∧St pg w K Φ env sc O σ1 H' ρ' {s' with heap:=h'} :=by
 obtain⟨oC,es,ep,ho,hd⟩:=hd;have dead:s.heap.get? C=none:=Heap.get?_none_of_le hC
 have so:∀{b o},b=C→s'.heap.get? b=some o→Soft o:=fun {b o} e h=>by subst e;rw[ho] at h;obtain rfl:=Option.some.inj h;exact .inl ⟨_,_,hd⟩
 have off:∀{b o},s.heap.get? b=some o→b≠C:=fun {b o} h e=>by subst e;rw[dead] at h;exact nsE h
 have aO:C∉O:=fun z=>let⟨_,h,_⟩:=X.env.soft C z;off h rfl
 have aC:∀y c,env.cells.lookup y=some c→c≠C:=fun y c hc=>let⟨_,_,h,_⟩:=X.env.cellLive y c hc;off h
 have one:∀{a:Addr},a∈ [C]→a=C:=List.mem_singleton.mp
 have cu:Moves [C] s'.heap h' ρ' ρ':=Moves.but hs (.inr (List.mem_singleton.mpr rfl)) fun b hb o e=>so (one hb) e
 have cX:Rel pg w K Φ ρ' H' h':=X'.rel.moves cu (fun a ha o e=>(hs.2 a fun z=>n (z▸ha)).trans e) (fun a ha=>one ha▸k) fun L hL z=>let⟨_,_,_,_,_,h,_⟩:=X.rel.frames _ hL;absurd (one z) (off h)
 have wide:∀a∈O,a∈C::O:=fun a h=>List.mem_cons_of_mem _ h
 refine⟨((m.wider wide fun b hb o e=> ?_).trans (cu.wider (fun a h=>one h▸List.mem_cons_self) fun b hb o e=> ?_)).narrow (fun b hb=> ?_) X.env.softs,cX,X'.env.movesP cu fun a ha=>one ha▸⟨aO,aC⟩,X'.gens⟩
 ·exact(List.mem_cons.mp hb).elim (fun z=>absurd z (off e)) fun hb=>X.env.softs b hb o e
 ·exact(List.mem_cons.mp hb).elim (fun z=>so z e) fun hb=>X'.env.softs b hb o e
 ·exact(List.mem_cons.mp hb).elim (fun z=>.inr (z▸dead)) .inl
theorem zhh {C:Addr}{acc:Addr}{h':Heap}(z:CompEnd pg w K Φ env sc O s ρ σ H' C s')(fj:ρ[j]? =some acc)(X:St pg w K Φ env sc O σ H ρ s)(hs:Heap.SameBut C s'.heap h'):
  PV pg w K Φ env sc O s ρ σ H' (.obj j) (.ref acc) {s' with heap:=h'} :=by
 obtain⟨ρ',m,mm,X',o,hns,hC,n,k⟩:=z;obtain⟨oC,es,ep,ho,hd,_⟩:=hns;obtain⟨a,b⟩:=zhi X hC (mm.wider (fun _ h=>nomatch h) X.env.softs) X' ⟨oC,es,ep,ho,hd⟩ n k hs;exact⟨ρ',a,b,.obj (a.ext.get fj),o⟩
theorem zgS {Q:Value→Shared→Prop}(X:St pg w K Φ env sc O σ H ρ s)(k:∀(a:Addr) (cA:Shared) (ρ3:List Addr),Moves O s.heap cA.heap ρ ρ3→St pg w K Φ env sc O σ (H++ [.lst []]) ρ3 cA→ρ3[H.length]? =some a→cA.os=s.os→Q (.ref a) cA):wpAny (model pg w) A (newList []) Q E s:=by
 obtain⟨ρ3,m3,X3,cS,cJ⟩:=PO.inFrame X (zfs (t:=s.toks) X.rel X.gens (VRs.nil (h:=s.heap) (ρ:=ρ)));exact wpAny_newList (VR.objR cS fun fj=>k _ _ ρ3 m3 X3 fj cJ) (Nat.zero_le _)
theorem zit (elt:Expr)(target iter:Expr)(ifs:List Expr)(rest:List Comprehension)(scope:Scope)(pos:Pos)(env:Env):eval (.ListComp elt (⟨target,iter,ifs,0⟩::rest) scope pos) env=
  comprehension (.ListComp elt (⟨target,iter,ifs,0⟩::rest) scope pos) scope env iter.pos (newList []) false (eval iter env):=rfl
theorem zhn (k v':Expr)(target iter:Expr)(ifs:List Expr)(rest:List Comprehension)(scope:Scope)(pos:Pos)(env:Env):eval (.DictComp k v' (⟨target,iter,ifs,0⟩::rest) scope pos) env=
  comprehension (.DictComp k v' (⟨target,iter,ifs,0⟩::rest) scope pos) scope env iter.pos newDict false (eval iter env):=rfl
theorem SE.aw {elt target iter:Expr}{ifs:List Expr}{rest:List Comprehension}{scope:Scope}(a:SE pg w K Φ d sc iter σ H x σ1 cn)(t:SIt pg w K Φ d x cn i cq)
  (cr:CompRun pg w K Φ d sc (.ListComp elt (⟨target,iter,ifs,0⟩::rest) scope pos) scope σ1 (cq++ [.lst []]) i cq.length H')
  (hs:∀env x,foldedSetIterable iter env x=pure x:=by intro _ _;rfl):SE pg w K Φ d sc (.ListComp elt (⟨target,iter,ifs,0⟩::rest) scope pos) σ H (.obj cq.length) σ1 H':=.mk fun env O ρ s A ok X=>by
 rw[zit];obtain⟨cl,hcl⟩:=zcr cr.ok X;refine wpAny_comprehension_free (g:=⟨target,iter,ifs,0⟩) (gs:=rest) rfl (hs env) hcl cr.ok.kind cr.ok.loc (a.into ok X fun u cm ρ1 m X1 q o=>zac (t ρ1 cm A u ok X1.rel X1.gens q) fun it ct cF=> ?_);obtain⟨ρ2,cu,X2,cx,cw⟩:=cF.inFrame X1
 refine VR.objE cx fun _ f=> ?_
 refine zgS X2 fun a cA ρ3 m3 X3 fj cJ=> ?_
 exact zgi hcl cr ok X3 (m3.ext.get f) fj (fun C=>compPost (model pg w) A (fun _ _=>False) Option.none (PV pg w K Φ env sc O s ρ σ1 H' (.obj cq.length)) (.ref a) C) _ fun C r s' z=>by
  obtain⟨ρ',mm,a1,a2,a3,hns,a4⟩:=id z;exact⟨mm,hns,fun h' hs'=>(((zhh z fj X3 hs').then m3 cJ).then cu cw).then m o⟩
theorem SE.bz {k v' target iter:Expr}{ifs:List Expr}{rest:List Comprehension}{scope:Scope}(a:SE pg w K Φ d sc iter σ H x σ1 cn)(t:SIt pg w K Φ d x cn i cq)
  (cr:CompRun pg w K Φ d sc (.DictComp k v' (⟨target,iter,ifs,0⟩::rest) scope pos) scope σ1 (cq++ [.dct [] Option.none]) i cq.length H')
  (hs:∀env x,foldedSetIterable iter env x=pure x:=by intro _ _;rfl):SE pg w K Φ d sc (.DictComp k v' (⟨target,iter,ifs,0⟩::rest) scope pos) σ H (.obj cq.length) σ1 H':=.mk fun env O ρ s A ok X=>by
 rw[zhn];obtain⟨cl,hcl⟩:=zcr cr.ok X;refine wpAny_comprehension_free (g:=⟨target,iter,ifs,0⟩) (gs:=rest) rfl (hs env) hcl cr.ok.kind cr.ok.loc (a.into ok X fun u cm ρ1 m X1 q o=>zac (t ρ1 cm A u ok X1.rel X1.gens q) fun it ct cF=> ?_);obtain⟨ρ2,cu,X2,cx,cw⟩:=cF.inFrame X1
 refine VR.objE cx fun _ f=> ?_
 obtain⟨R3,m3⟩:=X2.rel.push (c:=.dct [] Option.none) (o:= {cls:=.type "dict",data:=.dict #[]}) (h':=ct.heap.push {cls:=.type "dict",data:=.dict #[]}) rfl rfl fun m=>
  .dct (fs:= []) (e:=0) ⟨_,#[],Heap.get?_push_size _ rfl,⟨rfl,rfl,rfl⟩,rfl,fun _ he=>by simp at he,.nil,List.nodup_nil⟩ .nil (fun n e=>nomatch e)
 have X3:St pg w K Φ env sc O σ1 (cq++ [.dct [] Option.none]) (ρ2++ [ct.heap.objs.size]) {ct with heap:=ct.heap.push {cls:=.type "dict",data:=.dict #[]}} :=⟨R3,X2.env.moves m3,X2.gens⟩;have m3':Moves O ct.heap (ct.heap.push {cls:=.type "dict",data:=.dict #[]}) ρ2 (ρ2++ [ct.heap.objs.size]):=m3.wider (by exact zad) X2.env.softs
 have fj:(ρ2++ [ct.heap.objs.size])[cq.length]? =some ct.heap.objs.size:=by rw[←X2.rel.len];simp
 unfold newDict;refine wpAny_newObj_type ?_
 refine zgi hcl cr ok X3 (m3'.ext.get f) fj (fun C=>compPost (model pg w) A (fun _ _=>False) Option.none (PV pg w K Φ env sc O s ρ σ1 H' (.obj cq.length)) (.ref ct.heap.objs.size) C) _ fun C r s' z=> ?_
 obtain⟨ρ',mm,a1,a2,a3,hns,a4⟩:=id z;refine⟨mm,hns,fun h' hs'=>PV.then m o (PV.then cu cw (PV.then (cm:= {ct with heap:=ct.heap.push {cls:=.type "dict",data:=.dict #[]}}) m3' rfl (zhh z fj X3 hs')))⟩
theorem SS.aW {elt target iter:Expr}{ifs:List Expr}{rest:List Comprehension}{scope:Scope}{n:Str}{np':Pos}{pos':Pos}(hx:sc.names.lookup n=some .local)(hl:(np'.line==pos'.line)=true)(hno:(scope.names.any fun(m,k)=>m==n&&(k== .local|| k== .cell))=false)(hline:(np'.line==(Expr.ListComp elt (⟨target,iter,ifs,0⟩::rest) scope pos).pos.line)=true)
  (a:SE pg w K Φ d sc iter σ H x σ1 cn) (t:SIt pg w K Φ d x cn i cq)
  (cr:CompRun pg w K Φ d sc (.ListComp elt (⟨target,iter,ifs,0⟩::rest) scope pos) scope σ1 (cq++ [.lst []]) i cq.length H') (U:Upd σ1 n (.obj cq.length) cp)
  (hs:∀env x,foldedSetIterable iter env x=pure x:=by intro _ _;rfl):SS pg w K Φ d sc (.Assign [.Name n np'] (.ListComp elt (⟨target,iter,ifs,0⟩::rest) scope pos) pos') σ H .next cp H':=.mk fun env O ρ s A ok X=>by
 have hsw:swapsWith (.ListComp elt (⟨target,iter,ifs,0⟩::rest) scope pos) (some (.Name n np')) pos'.line env=pure true:=by
  have hk:=X.env.loc n hx
  have hb:env.blockKind= .function:=by unfold Env.blockKind;rw[X.env.fn];rfl
  unfold swapsWith;simp only[hb,hk,hline,hno];rfl
 rw[exec_Assign_Name_used _ _ _ _ hsw];obtain⟨cl,hcl⟩:=zcr cr.ok X;refine wpAny_bind (wpAny_standAt (wpAny_bind ?_));unfold evalThenUse;refine wpAny_bind (wpAny_comprehension_free (g:=⟨target,iter,ifs,0⟩) (gs:=rest) (use:=Option.some (PySem.assign (.Name n np') env)) rfl (hs env) hcl cr.ok.kind cr.ok.loc (a.into ok X fun u cm ρ1 m X1 q o=>zac (t ρ1 cm A u ok X1.rel X1.gens q) fun it ct cF=> ?_));obtain⟨ρ2,cu,X2,cx,cw⟩:=cF.inFrame X1
 refine VR.objE cx fun _ f=> ?_
 refine zgS X2 fun a cA ρ3 m3 X3 fj cJ=> ?_
 refine zgi hcl cr ok X3 (m3.ext.get f) fj (fun C=>compPost (model pg w) A _ (Option.some (PySem.assign (.Name n np') env)) _ (.ref a) C) _ fun C r s' z=> ?_
 obtain⟨ρ',mm,m4,X4,o4,⟨oC,es,ep,hoC,hdC,hrC⟩,hC,nC,kC⟩:=z;have hC2:ct.heap.objs.size≤C:=Nat.le_trans m3.size hC
 have aO:C∉O:=fun z=>by obtain⟨o,ho,_⟩:=X2.env.soft C z;rw[Heap.get?_none_of_le hC2] at ho;exact nsE ho
 refine wpAny_assign_Name (wpAny_mono (zcu X4 (.inl hx) U (.obj (m4.ext.get fj))) (fun _ s'' ⟨ρ5,m5,X5,o5⟩=> ?_) fun _ _ z=>z);obtain⟨oC',hoC',lC⟩:=m5.keep C oC hoC nC aO;have hdC':=lC.data.trans hdC;refine⟨mm,⟨oC',es,ep,hoC',hdC',hrC⟩,fun h' hs'=>wpAny_pure ?_⟩;obtain⟨all,X6⟩:=zhi X2 hC2 ((m3.trans (m4.wider (fun _ h=>nomatch h) X3.env.softs)).trans m5) X5 ⟨oC',es,ep,hoC',hdC'⟩ (m5.ext.not_mem hoC nC) kC hs';exact wpAny_pure ⟨ρ5,(m.trans cu).trans all,X6,trivial,((((o5.trans o4).trans cJ).trans cw).trans o)⟩
theorem zmH {α:Type}{vs:List Value}{m:Sem α}{Q:α→Shared→Prop}(h:wpAny (model pg w) A m Q E s):wpAny (model pg w) A (m.keep vs) Q E s:=
 fun Γ p hΓ=>by rw[Sem.wp_keep];exact h Γ p hΓ
theorem zbp {f:Value}{first:List Value}{args:List (Bool×Sem Value)}{Q:Value→Shared→Prop}
  (h:wpAny (model pg w) A (evalArgs f true args []) (fun a cm=>(∃k,∀Q':Keeper→Shared→Prop,Q' k cm→wpAny (model pg w) A (keeperOf f) Q' E cm)∧wpAny (model pg w) A (call f (first++a.pos) a.kw) Q E cm) E s):
  wpAny (model pg w) A (callWith pos f first args []) Q E s:=by
 unfold callWith;refine wpAny_bind (wpAny_holding (wpAny_mono h (fun a cm ⟨⟨k,hk⟩,hc⟩=>wpAny_bind (wpAny_standAt ?_)) fun _ _ x=>x));refine wpAny_bind (hk _ ?_)
 have tail:∀{t:Sem Value},wpAny (model pg w) A t Q E cm→wpAny (model pg w) A (t >>= fun r=>holding [r] point >>= fun _=>pure r) Q E cm:=
  fun ht=>wpAny_bind (wpAny_mono ht (fun r ct hr=>wpAny_bind (wpAny_holding (wpAny_point (wpAny_pure hr)))) fun _ _ x=>x)
 rw[List.any_nil,Bool.or_false];have t1:=tail hc
 have t2:∀m,wpAny (model pg w) A (callMarked m f (first++a.pos) a.kw >>= fun r=>holding [r] point >>= fun _=>pure r) Q E cm:=fun m=>tail (by unfold callMarked;exact zmH hc)
 have t3:∀vs,wpAny (model pg w) A (operate vs (call f (first++a.pos) a.kw) >>= fun r=>holding [r] point >>= fun _=>pure r) Q E cm:=fun vs=>tail (wpAny_operating hc)
 cases k<;>cases args.any (·.1)<;>dsimp only<;>first | exact t1 | exact t2 _ | exact t3 _ | (by_cases hl:args.length+2 * ([]:List (Option Str×Sem Value)).length > 30;(· rw[if_pos hl];exact t1);(· rw[if_neg hl];exact t2 _))
noncomputable def zgr (K:Frag)(C:Addr):Prop:=(∃a b c d,K.lookup C=some ⟨a,b,.cls c,d⟩)∧specialIn K (.ref C) "__call__" =some (some (.builtin "type.__call__"))
theorem zjV {h:zgr K C}{Q':Keeper→Shared→Prop}(X:K.In s.heap)(hQ:Q' .machine s):wpAny (model pg w) A (keeperOf (.ref C)) Q' E s:=by
 obtain⟨⟨_,_,_,_,ho⟩,e⟩:=h;unfold keeperOf;refine wpAny_bind (wpAny_load (X _ _ ho) ?_);dsimp only;exact wpAny_bind ((looks_specialIn X e).here (wpAny_pure hQ))
theorem SE.aK {n:Str}{p:Pos}{es:List Expr}{vs:List AV}(hn:SE pg w K Φ d sc (.Name n p) σ H (.cst (.ref C)) σ H)(hf:zgr K C)(ha:SG pg w K Φ d sc es σ H vs σ1 cn)
  (hc:SC pg w K Φ d (.ref C) vs cn v cq):SE pg w K Φ d sc (.Call (.Name n p) es [] pos) σ H v σ1 cq:=.mk fun env O ρ s A ok X=>by
 refine Call_Name rfl (hn.into ok X fun f' cm ρ1 m X1 q o=> ?_);cases q;refine zbp (ha.into pos _ ok X1 fun a ct hk ρ2 cu X2 cx cw=>⟨⟨.machine,fun Q' hQ=>zjV (h:=hf) X2.rel.top hQ⟩,?_⟩);rw[hk]
 exact zac (hc ρ2 ct A _ ok X2.rel X2.gens cx) fun _ _ h=>(((h.inFrame X2).then cu cw)).then m o
inductive Seqq (H:List Cell):AV→List AV→Prop
 | lst {x:AV} {xs:List AV} :LH H x xs→Seqq H x xs
 | tup {xs:List AV} :Seqq H (.tup xs) xs
theorem Seqq.at {h:Heap}{a:Value}(L:Seqq H x xs)(R:Rel pg w K Φ ρ H h)(p:VR h ρ x a):∃c vs T ob n,a= .ref c∧(T= "list" ∨T= "tuple")∧h.get? c=some ob∧ob.cls= .type T∧ob.data= .seq vs.toArray n∧VRs h ρ xs vs:=by
 cases L with
 | lst l₁=>
  obtain⟨c,vs,rfl,⟨ob,ho,hc,n,hd⟩,q⟩:=l₁.at R p;exact⟨c,vs,"list",ob,n,rfl,.inl rfl,ho,hc,hd,q⟩
 | tup=>refine VR.tupE p fun _ _ ht m q=> ?_;obtain⟨ob,ho,hc,n,hd⟩:=ht;exact⟨_,_,"tuple",ob,n,rfl,.inr rfl,ho,hc,hd,q⟩
theorem zc6 {a:Value}{Q:List Value→Shared→Prop}(L:Seqq H x xs)(R:Rel pg w K Φ ρ H s.heap)(g:s.gens= #[])(p:VR s.heap ρ x a)(hz:xs.length≤sizeLine)
  (h:∀vs s',Moves [] s.heap s'.heap ρ ρ→Rel pg w K Φ ρ H s'.heap→s'.gens= #[]→s'.os=s.os→VRs s'.heap ρ xs vs→Q vs s'):wpAny (model pg w) A (collect a) Q E s:=by
 obtain⟨c,vs,T,ob,n,rfl,hT,ho,hc,hd,q⟩:=L.at R p;refine zav (wpAny_collect_seq c hT ho hc hd (fun h' hk hsz=> ?_) (by simp only[List.size_toArray,←q.length];exact hz));have mv:Moves [] s.heap h' ρ ρ:=Moves.grow hk hsz (by exact zad);exact h _ _ mv (R.moves mv (fun b hb o ho=>hk b o ho) (by exact zad)) g rfl (q.moves mv)
theorem zdW {a:Value}{Q:Bool→Shared→Prop}(L:Seqq H x xs)(R:Rel pg w K Φ ρ H s.heap)(p:VR s.heap ρ x a)(h:Q false s):wpAny (model pg w) A (notIterableAtAll a) Q E s:=by
 obtain⟨c,vs,T,ob,n,rfl,hT,ho,hc,hd,q⟩:=L.at R p;unfold notIterableAtAll
 rcases hT with rfl | rfl
 ·refine wpAny_bind (wpAny_specialOf (s:=s) (T:= "list") ⟨ob,ho,hc⟩ PySem.F.slot_list_iter.lookup ?_)
  exact wpAny_pure h
 ·refine wpAny_bind (wpAny_specialOf (s:=s) (T:= "tuple") ⟨ob,ho,hc⟩ PySem.F.slot_tuple_iter.lookup ?_)
  exact wpAny_pure h
theorem SG.star {p:Pos}(a:SE pg w K Φ d sc e σ H x σ1 cn)(L:Seqq cn x xs)(hz:xs.length≤sizeLine):SG pg w K Φ d sc [.Starred e p] σ H xs σ1 cn:=.mk fun env O ρ s A pos f ok X=>by
 show wpAny (model pg w) A (evalArgs f true [(true,do let v←eval e env;standAt pos;pure v)] []) _ _ s;unfold evalArgs;refine wpAny_bind (wpAny_bind (a.into ok X fun u cm ρ1 m X1 q o=>wpAny_bind (wpAny_standAt (wpAny_pure ?_))));refine wpAny_bind (wpAny_pure ?_);refine wpAny_holding ?_;rw[if_pos (show([]:List (Option Str×Sem Value)).all (fun x=>x.1.isSome)=true from rfl)];refine wpAny_bind (wpAny_pure ?_);refine wpAny_bind ?_;refine wpAny_bind (zdW L X1.rel q ?_);rw[if_neg Bool.false_ne_true];refine wpAny_holding (zc6 L X1.rel X1.gens q hz fun vs ct mv cX dm cw qs=>wpAny_pure ⟨rfl,ρ1,?_,⟨cX,X1.env.moves mv,dm⟩,qs,cw.trans o⟩);exact m.trans (mv.wider (by exact zad) X1.env.softs)
set_option backward.match.sparseCases false in
theorem SE.au {f:Addr}{es':List Expr}{vs:List AV}{apos:Pos}(F:InstCls K C)(hf:findIn K (.ref C) name=some (some (.ref f)))(ht:typeIn K (.ref f)=some (.type "function"))(hg:specialIn K (.ref f) "__get__" =some (some (.builtin "function.__get__")))
  (hk:takesIn K (.ref f)=some false) (hcn:copiedNames.contains name=false)
  (ho:SE pg w K Φ d sc o σ H (.obj i) σ1 cn) (e:cn[i]? =some (.inst C dd)) (e':cn[dd]? =some (.ns es)) (hv:dget es name=Option.none)
  (hfn:∃o fd,K.lookup f=Option.some o∧o.data= .func fd) (ha:SG pg w K Φ d sc es' σ1 cn vs cp cq) (hc:SCc pg w K Φ d (.ref f) (.obj i::vs) cq v cy)
  (hbase:∀env,attributeBase o name env (eval o env)=eval o env:=by intro _;rfl)
  (hfew:∀env pos,methodCallForm (es'.length+([]:List Keyword).length) (backTo pos (starEach es' env)) (backToKw pos (keywordEach [] env))=false:=by intro _ _;rfl):SE pg w K Φ d sc (.Call (.Attribute o name apos) es' [] pos) σ H v cp cy:=.mk fun env O ρ s A ok X=>by
 rw[arm_eval_Call,hbase env];refine wpAny_bind (ho.into ok X fun a cm ρ1 m X1 q o'=> ?_)
 refine VR.objE q fun a fa=> ?_
 refine wpAny_bind (wpAny_standAt ?_);unfold methodCall calleeOf methodCallPos;rw[hfew env pos];refine wpAny_bind (wpAny_holding ?_);obtain⟨od,dx,mm,I,f',hod,hN,qq,hl⟩:=zf9 X1.rel e e' fa;have q':=qq name;rw[hv] at q';generalize hm:mm name=u at q';cases q'
 have hfo:findObj K C (some od) name=some (.bind (.builtin "function.__get__") (.ref f)):=by
  obtain⟨cd,hc',hd⟩:=any_some F.dict;unfold findObj;rw[hc',Option.bind_some,hf,Option.bind_some];dsimp only;rw[hg,Option.bind_some];dsimp only;rw[hk,Option.bind_some];dsimp only
  have:W.ownOf cd (some od) name=some Option.none:=by unfold W.ownOf;rw[if_pos hd];exact(hl name).trans (by rw[hm])
  rw[this,Option.bind_some];dsimp only;rw[hcn];rfl
 refine wpAny_bind (get_bind X1.rel.top I F.ga hfo F.hk (wpAny_call (fn_get (s:= {cm with toks:=cm.toks+1}) X1.rel.top ht ?_)));show wpAny _ _ (handedOut _) _ _ _;refine wpAny_pure (wpAny_pure ?_)
 have hpos:(if (!false|| apos.endLine==pos.line)=true then (pure pos:Sem Pos) else (do
   if←(match o with | .Name .. =>runsAnotherTextThanImportBoundAsks env | _=>pure false:Sem Bool) then return {pos with line:=0}
   match←importBound o env with
   | some true=>pure pos
   | some false=>pure {pos with line:=apos.endLine}
   | none=>pure {pos with line:=0}))=pure pos:=rfl
 refine wpAny_bind (wpAny_of_eq hpos ?_);obtain⟨mv,cX,hn⟩:=zbe X1.rel (methodObj (.ref f) (.ref a));have X2:St pg w K Φ env sc O σ1 cn ρ1 {cm with heap:=cm.heap.push (methodObj (.ref f) (.ref a)),toks:=cm.toks+1} :=⟨cX,X1.env.moves mv,X1.gens⟩;have hmo:(cm.heap.push (methodObj (.ref f) (.ref a))).get? cm.heap.objs.size=some (methodObj (.ref f) (.ref a)):=Heap.get?_push_size _ rfl;refine zbp (ha.into pos _ ok X2 fun aa cA hkw ρ3 m3 X3 cS cJ=> ?_);have hmo3:=(m3.hard hmo hn (zh4 (n:= "method") rfl (by decide) (fun _ _ q=>by cases q) (fun _ q=>by cases q))).1;obtain⟨of,fd,hlo,hda⟩:=hfn;refine⟨⟨.boundFrame,fun Q' hQ=> ?_⟩,?_⟩
 ·unfold keeperOf
  refine wpAny_bind (wpAny_load hmo3 ?_);dsimp only;rw[if_neg (by decide)];refine wpAny_bind (wpAny_load (X3.rel.top _ _ hlo) ?_);rw[hda];exact wpAny_pure hQ
 ·rw[hkw]
  have mm1:Moves O cm.heap (cm.heap.push (methodObj (.ref f) (.ref a))) ρ1 ρ1:=mv.wider (by exact zad) X1.env.softs;refine wpAny_call (method_call hmo3 (codeAny_mono (hc ρ3 cA A _ ok.1 X3.rel X3.gens (.cons (.obj (m3.ext.get fa)) cS)) fun r s' z=> ?_))
  rcases r with e | (v | _ | _ | _)<;>first | exact z.elim | skip
  exact PV.then m o' (PV.then (cm:= {cm with heap:=cm.heap.push (methodObj (.ref f) (.ref a)),toks:=cm.toks+1}) mm1 rfl (PV.then m3 cJ (PO.inFrame X3 z)))
theorem SG.bh {cz:Expr}{p:Pos}(a:SE pg w K Φ d sc cz σ H y σ1 cn)(c:SE pg w K Φ d sc e σ1 cn x cp cq)(L:Seqq cq x xs)(hz:xs.length≤sizeLine)
  (he:∀env,starEach [cz,.Starred e p] env= [(false,eval cz env),(true,eval e env)]:=by intro _;rfl):SG pg w K Φ d sc [cz,.Starred e p] σ H (y::xs) cp cq:=.mk fun env O ρ s A pos f ok X=>by
 rw[he];show wpAny (model pg w) A (evalArgs f true [(false,eval cz env),(true,do let v←eval e env;standAt pos;pure v)] []) _ _ s;refine evalArgs_plain ?_;unfold spliced;refine wpAny_bind (a.into ok X fun u cm ρ1 m X1 q o=>wpAny_bind (wpAny_pure ?_));refine wpAny_bind (wpAny_holding ?_);unfold spliced;refine wpAny_bind (wpAny_bind (c.into ok X1 fun u' ct ρ2 cu X2 cx cw=>wpAny_bind (wpAny_standAt (wpAny_pure ?_))));refine wpAny_bind (zdW L X2.rel cx ?_);rw[if_neg Bool.false_ne_true];refine wpAny_bind (zc6 L X2.rel X2.gens cx hz fun vs cA mv R3 dL cJ qs=> ?_);refine wpAny_bind (wpAny_holding (wpAny_pure (wpAny_pure (wpAny_pure ⟨rfl,ρ2,(m.trans cu).trans (mv.wider (by exact zad) X2.env.softs),⟨R3,X2.env.moves mv,dL⟩,?_,(cJ.trans cw).trans o⟩))));rw[List.append_nil];exact .cons ((q.moves cu).moves mv) qs
end
section
variable {pg:Program}{w:World}{K:Frag}{Φ:Fm}{d:Nat}{sc:Scope}{σ σ' σ1 cp σ3 σc:List (Str×AV)}{H H' cn cq cy c5:List Cell}{v v1 v2 x y z:AV}{A:Around}{s s':Shared}
 {env:Env} {O P ρ ρ':List Addr} {E:Value→Shared→Prop} {e cz cG l r o:Expr} {pos:Pos} {b cI cK:Bool} {xs ys:List AV} {C:Addr} {name:Str} {i j dd dep:Nat} {es:List (Str×AV)} {nd np su:Option AV}
theorem zlO {it t:Addr}{items:Array Value}(hne:t≠it):∀(n i:Nat) (s:Shared) (Q:List Value→Shared→Prop),s.heap.IsListIter it t i→s.heap.IsList t items→i+n≤items.size →
  (∀h',h'.IsListIter it t (i+n)→Heap.SameBut it s.heap h'→Q ((items.toList.drop i).take n) {s with heap:=h'})→wpAny (model pg w) A (draw (.ref it) n) Q E s:=by
 intro n
 induction n with
 | zero=>
  rintro i s Q hit hl hn hQ
  have:=hQ s.heap (by simpa using hit) (.refl ..);rw[List.take_zero] at this;exact wpAny_pure this
 | succ n ih=>
  rintro i s Q hit hl hn hQ
  have hlt:i < items.size:=by lia
  show wpAny _ _ (pyNext (.ref it) >>= _) _ _ s;refine wpAny_bind (wpAny_pyNext_list_item hit hl (x:=items[i]) (by simp[hlt]) fun cB dy hs1=> ?_);refine wpAny_bind (wpAny_holding (ih (i+1) _ _ dy (hl.extBut hs1.extBut hne) (by exact rot1 ‹_›) fun cF dw cV=>wpAny_pure ?_))
  have hd:items.toList.drop i=items[i]::items.toList.drop (i+1):=by simp[List.drop_eq_getElem_cons,hlt]
  have:=hQ cF (by rw[show i+(n+1)=i+1+n by lia];exact dw) (hs1.trans cV);rw[hd,List.take_succ_cons] at this;exact this
theorem zd4 {t:Addr}{items:Array Value}{Q:List Value→Shared→Prop}(hh:A.handled=none)(hl:s.heap.IsList t items)
  (hQ:∀h',Heap.ExtBut s.heap.objs.size s.heap h'→Q items.toList {s with heap:=h'}):wpAny (model pg w) A (unpackItems (.ref t) items.size none) Q E s:=by
 have hlt:t≠s.heap.objs.size:=by obtain⟨o,ho,_⟩:=hl;exact Nat.ne_of_lt (Heap.lt_size ho)
 unfold unpackItems;refine wpAny_bind ?_;unfold notIterableAtAll;refine wpAny_bind (wpAny_specialOf hl.typeIs PySem.F.slot_list_iter.lookup ?_);refine wpAny_pure ?_;rw[if_neg (by exact Bool.false_ne_true)];refine wpAny_bind (wpAny_holding (wpAny_pyIter_list hl ?_));refine wpAny_bind (wpAny_holding (zlO hlt items.size 0 _ _ ⟨_,Heap.get?_push_size _ rfl,rfl,rfl⟩ (hl.push _) (by lia) fun cB dy hs1=> ?_))
 have hall:List.take items.size (List.drop 0 items.toList)=items.toList:=by
  rw[List.drop_zero];exact List.take_of_length_le (by exact Nat.le_refl _)
 rw[hall,if_neg (by simp)];have db:cB.IsList t items:=(hl.push _).extBut hs1.extBut hlt;refine wpAny_bind (wpAny_holding (wpAny_pyNext_list_end hh dy db (by simp) fun cF he2=> ?_));rw[if_neg (by exact Bool.false_ne_true)];exact wpAny_pure (hQ cF fun b o hb e=>he2 b o hb (hs1.extBut b o hb (Heap.get?_push_of_some _ e)))
theorem zfm (hc:Φ.calm=Bool.true){a:Value}{Q:List Value→Shared→Prop}(ok:OkA Φ d A)(L:Seqq H x xs)(R:Rel pg w K Φ ρ H s.heap)(g:s.gens= #[])(p:VR s.heap ρ x a)
  (h:∀vs s',Moves [] s.heap s'.heap ρ ρ→Rel pg w K Φ ρ H s'.heap→s'.gens= #[]→s'.os=s.os→VRs s'.heap ρ xs vs→Q vs s'):wpAny (model pg w) A (unpackItems a xs.length none) Q E s:=by
 have fin:∀(vs:List Value) (h':Heap),VRs s.heap ρ xs vs→Heap.ExtBut s.heap.objs.size s.heap h'→s.heap.objs.size≤h'.objs.size→Q vs {s with heap:=h'} :=fun vs h' q he hz=>by
  have hk:∀b o,s.heap.get? b=some o→h'.get? b=some o:=fun b o e=>he b o (Nat.ne_of_lt (Heap.lt_size e)) e
  have mv:Moves [] s.heap h' ρ ρ:=Moves.grow hk hz (by exact zad);exact h _ _ mv (R.moves mv (fun b hb o ho=>hk b o ho) (by exact zad)) g rfl (q.moves mv)
 cases L with
 | lst l₁=>
  obtain⟨c,vs,rfl,hl,q⟩:=l₁.at R p
  have e:xs.length=vs.toArray.size:=by simp only[List.size_toArray];exact q.length
  rw[e];exact zav (zd4 (ok.handled hc) hl fun h' he hz=>fin vs h' q he hz)
 | tup=>
  refine VR.tupE p fun vs c ht m q=> ?_
  have e:xs.length=vs.toArray.size:=by simp only[List.size_toArray];exact q.length
  rw[e];exact zav (wpAny_unpackItems_tuple (ok.handled hc) ht fun h' he hz=>fin vs h' q he hz)
structure SAs (pg:Program)(w:World)(K:Frag)(Φ:Fm)(d:Nat)(sc:Scope)(ts:List Expr)(xs:List AV)(σ:List (Str×AV))(H:List Cell)(σ':List (Str×AV))(H':List Cell):Prop where
 go:∀env O ρ s A vs,OkA Φ d A→St pg w K Φ env sc O σ H ρ s→VRs s.heap ρ xs vs→wpAny (model pg w) A (assignInOrder ((assignEach ts env).map (·.2)) vs) (fun _ s'=>PU pg w K Φ env sc O s ρ σ' H' s') (fun _ _=>False) s
theorem SAs.nil:SAs pg w K Φ d sc [] [] σ H σ H:=.mk fun env O ρ s A vs ok X q=>by cases q;exact wpAny_pure (PU.here X)
theorem SAs.cons {t:Expr}{ts:List Expr}(a:SA pg w K Φ d sc t x σ H σ1 cn)(c:SAs pg w K Φ d sc ts xs σ1 cn cp cq)(he:∀env,assignEach (t::ts) env=(false,PySem.assign t env)::assignEach ts env:=by intro _;rfl):
  SAs pg w K Φ d sc (t::ts) (x::xs) σ H cp cq:=.mk fun env O ρ s A vs ok X q=>by
 cases q with | cons p q=>
 rw[he];show wpAny _ _ (do holding _ (PySem.assign t env _);assignInOrder _ _) _ _ _;refine wpAny_bind (wpAny_holding (a.into _ ok X p fun _ cm ρ1 m X1 o=> ?_))
 exact zac (c.1 env O ρ1 cm A _ ok X1 (q.moves m)) fun _ ct h=>h.then m o
theorem SA.tuple (hc:Φ.calm=Bool.true){elts:List Expr}{k:Nat}(L:Seqq H x xs)(a:SAs pg w K Φ d sc elts xs σ H σ' H')(hlen:∀env,(assignEach elts env).length=xs.length:=by intro _;rfl)
  (hstar:∀env,(assignEach elts env).findIdx? (·.1)=Option.none:=by intro _;rfl):SA pg w K Φ d sc (.Tuple elts k pos) x σ H σ' H':=.mk fun env O ρ s A u ok X q=>by
 rw[arm_assign_Tuple];refine wpAny_bind (wpAny_standAt ?_);unfold unpack;rw[hlen env,hstar env];refine wpAny_bind (wpAny_holding (zfm hc ok L X.rel X.gens q fun vs cm mv R1 dM cP qs=> ?_));have cM:Moves O s.heap cm.heap ρ ρ:=mv.wider (by exact zad) X.env.softs
 exact zac (a.1 env O ρ cm A vs ok ⟨R1,X.env.moves mv,dM⟩ qs) fun _ ct h=>h.then cM cP
inductive UpdN (sc:Scope):List (Str×AV)→List Str→List AV→List (Str×AV)→Prop
 | nil {τ:List (Str×AV)} :UpdN sc τ [] [] τ
 | cons {τ τ1 τ2:List (Str×AV)} {n:Str} {u:AV} {ns:List Str} {us:List AV} :sc.names.lookup n=some .local→Upd τ n u τ1→UpdN sc τ1 ns us τ2→UpdN sc τ (n::ns) (u::us) τ2
theorem UpdN.locals {σ ns xs σ'}(q:UpdN sc σ ns xs σ'):∀n∈ns,sc.names.lookup n=some .local:=by
 induction q with
 | nil=>exact fun _ h=>nomatch h
 | cons h _ _ ih=>exact fun n hn=>(List.mem_cons.mp hn).elim (fun e=>e▸h) (ih n)
theorem VRs.rev {h:Heap}{xs vs}(q:VRs h ρ xs vs):VRs h ρ xs.reverse vs.reverse:=
 VRs.ind (C:=fun xs vs=>VRs h ρ xs.reverse vs.reverse) .nil (fun a _ b=>by rw[List.reverse_cons,List.reverse_cons];exact b.append (.cons a .nil)) q
theorem zkr {ns:List Str}{xs:List AV}{σ σ':List (Str×AV)}{vs:List Value}{ρ:List Addr}{s:Shared}(q:UpdN sc σ ns xs σ')(X:St pg w K Φ env sc O σ H ρ s)(p:VRs s.heap ρ xs vs):
  wpAny (model pg w) A (assignInOrder (ns.map fun n=>bindName env n) vs) (fun _ s'=>PU pg w K Φ env sc O s ρ σ' H s') (fun _ _=>False) s:=by
 induction q generalizing vs ρ s with
 | nil=>cases p;exact wpAny_pure (PU.here X)
 | cons h U q ih=>
  cases p with | cons p r=>
  show wpAny _ _ (do holding _ (bindName env _ _);assignInOrder _ _) _ _ _;refine wpAny_bind (wpAny_holding (wpAny_bindName (wpAny_mono (zcu X (.inl h) U p) (fun _ cm ⟨ρ1,m,X1,o⟩=> ?_) fun _ _ z=>z)))
  exact zac (ih X1 (r.moves m)) fun _ ct h=>h.then m o
theorem SS.swap (hc:Φ.calm=Bool.true){names:List Str}{elts:List Expr}{k k':Nat}{es':List Expr}{p3 p4:Pos}(hw:∀env,env.blockKind= .function→(∀n∈names,env.kindOf n=some .local)→swappedStores [.Tuple elts k p3] (.Tuple es' k' p4) env=pure (some names))
  (a:SE pg w K Φ d sc (.Tuple es' k' p4) σ H (.tup xs) σ1 cn) (hlen:names.length=xs.length) (U:UpdN sc σ1 names.reverse xs.reverse cp):SS pg w K Φ d sc (.Assign [.Tuple elts k p3] (.Tuple es' k' p4) pos) σ H .next cp cn:=.mk fun env O ρ s A ok X=>by
 have hb:env.blockKind= .function:=by simp[Env.blockKind,X.env.fn,ScopeKind.isAnnotationScope]
 have hk:∀n∈names,env.kindOf n=some .local:=fun n hn=>X.env.loc n (U.locals n (List.mem_reverse.mpr hn))
 refine Assign_Tuple_swapped (names:=names) (a.into ok X fun u cm ρ1 m X1 q o=> ?_) rfl (hw env hb hk);rw[hlen]
 refine zfm hc ok .tup X1.rel X1.gens q fun vs ct mv cX dm cw qs=> ?_
 have cu:Moves O cm.heap ct.heap ρ1 ρ1:=mv.wider (by exact zad) X1.env.softs
 exact zac (zkr U ⟨cX,X1.env.moves mv,dm⟩ (VRs.rev qs)) fun _ cA ⟨ρ3,m3,X3,cJ⟩=>⟨ρ3,(m.trans cu).trans m3,X3,trivial,(cJ.trans cw).trans o⟩
theorem SE.neg {k:Int}(a:SE pg w K Φ d sc e σ H (.int k) σ1 cn):SE pg w K Φ d sc (.UnaryOp .USub e pos) σ H (.int (-k)) σ1 cn:=.mk fun env O ρ s A ok X=>
 wpAny_UnaryOp (a.into ok X fun u cm ρ1 m X1 q o=>by
  cases q
  exact PyProof.Rows.neg_int ((PV.here X1 .int).then m o))
theorem SS.aY {n:Str}{np':Pos}{op:Operator}{value:Expr}(hx:ziH sc n)(hnd:zdw n)(hl:σ.lookup n=some x)(a:SE pg w K Φ d sc value σ H y σ1 cn)(c:SI pg w K Φ d op x y cn z cq)(U:Upd σ1 n z cp):
  SS pg w K Φ d sc (.AugAssign (.Name n np') op value pos) σ H .next cp cq:=.mk fun env O ρ s A ok X=>by
 have hn:=(SE.name (pg:=pg) (w:=w) (d:=d) (H:=H) (K:=K) (sc:=sc) (pos:=np') hnd hl).1 env O ρ s A ok X
 have hld:wpAny (model pg w) A (loadName env n) (PV pg w K Φ env sc O s ρ σ H x) (fun _ _=>False) s:=by
  by_cases hk:env.kindOf n=some .local
  ·obtain⟨m,hm,q⟩:=X.env.ns
   obtain⟨v',a,b⟩:=q n x hl hk;exact wpAny_loadName_local X.env.fn hk hm a (PV.here' X b)
  ·obtain⟨hk',c,v',a,b,q⟩:=X.env.cells n x hl hk
   rcases hk' with z | z
   ·exact wpAny_loadName_cell X.env.fn z a b (PV.here' X q)
   ·exact wpAny_loadName_free X.env.fn z a b (PV.here' X q) hnd.2
 rw[arm_exec_AugAssign];refine wpAny_bind (wpAny_standAt (wpAny_bind (zac hld fun u cm ⟨ρ1,m,X1,q,o⟩=> ?_)));refine wpAny_bind (wpAny_holding (a.into ok X1 fun u' ct ρ2 cu X2 cx cw=>wpAny_bind (wpAny_standAt ?_)));refine wpAny_bind (wpAny_operating (zac (c ρ2 ct A u u' ok X2.rel X2.gens (q.moves cu) cx) fun v' cA cT=>wpAny_bind (wpAny_standAt ?_)));obtain⟨ρ3,m3,X3,cS,cJ⟩:=cT.inFrame X2;refine wpAny_bind (wpAny_bindName (wpAny_mono (zcu X3 hx U cS) (fun _ c7 ⟨ρ4,m4,X4,o4⟩=>wpAny_pure ?_) fun _ _ z=>z));exact⟨ρ4,((m.trans cu).trans m3).trans m4,X4,trivial,((o4.trans cJ).trans cw).trans o⟩
theorem ST.true {k:Nat} :ST pg w K Φ d sc (.Constant (.bool Bool.true) k pos) σ H Bool.true σ H:=ST.val SE.bool STr.bool
noncomputable def leS (a b:Str):Bool:= !Spec.ltCps b.cps.toList a.cps.toList
noncomputable def srt (ss:List Str):List Str:=ss.mergeSort leS
theorem zf5 (a b:Str):leS a b=true↔a.cps.toList≤b.cps.toList:=by
 unfold leS;rw[ltCps_eq];simp[List.not_lt]
theorem zg1 (a b c:Str)(h:leS a b=true)(h':leS b c=true):leS a c=true:=by
 rw[zf5] at *;exact List.le_trans h h'
theorem zlo (a b:Str):(leS a b|| leS b a)=true:=by
 rw[Bool.or_eq_true,zf5,zf5];exact List.le_total _ _
theorem zmE {a b:Str}(h:leS a b=true)(h':leS b a=true):a=b:=by
 rw[zf5] at *;have e:=List.le_antisymm h h'
 cases a;cases b
 simp only at e;rw[Array.toList_inj.mp e]
theorem zaC (ss:List Str):(srt ss).Perm ss:=List.mergeSort_perm _ _
theorem zb0 (ss:List Str):(srt ss).Pairwise (fun a b=>leS a b=true):=List.pairwise_mergeSort zg1 zlo ss
theorem zbt:∀{l l':List Str},l.Perm l'→l.Pairwise (fun a b=>leS a b=true)→l'.Pairwise (fun a b=>leS a b=true)→l=l'
 | [],l',p,_,_=>by have:=p.length_eq;cases l' with | nil=>rfl | cons=>simp at this
 | a::l,[],p,_,_=>by have:=p.length_eq;simp at this
 | a::l,b::l',p,h,h'=>by
  rw[List.pairwise_cons] at h h'
  have hab:a=b:=by
   have ha:a∈b::l':=p.mem_iff.mp List.mem_cons_self;have hb:b∈a::l:=p.mem_iff.mpr List.mem_cons_self
   rcases List.mem_cons.mp ha with e | ha
   ·exact e
   ·rcases List.mem_cons.mp hb with e | hb
    ·exact e.symm
    ·exact zmE (h.1 b hb) (h'.1 a ha)
  subst hab;rw[zbt (List.perm_cons _ |>.mp p) h.2 h'.2]
theorem zcW:∀{l:List Str},sortedS l=true→l.Pairwise (fun a b=>leS a b=true)
 | [],_=>.nil
 | a::l,h=>by
  have key:∀(l:List Str) (p:Str),risingS p l=true→(p::l).Pairwise (fun a b=>leS a b=true):=by
   intro l
   induction l with
   | nil=>intro p _;simp
   | cons x r ih=>
    intro p hp;have hp':(!Spec.ltCps x.cps.toList p.cps.toList&&risingS x r)=true:=hp;rw[Bool.and_eq_true] at hp';have hr:=ih x hp'.2;rw[List.pairwise_cons];refine⟨fun y hy=> ?_,hr⟩
    rcases List.mem_cons.mp hy with rfl | hy
    ·exact hp'.1
    ·exact zg1 _ _ _ hp'.1 ((List.pairwise_cons.mp hr).1 y hy)
  exact key l a h
theorem zdz {h:Heap} :∀{ss:List Str} {vs:List Value},VRs h ρ (txts ss) vs→StrsAre vs ss
 | [],_,.nil=>.nil
 | x::xs,_,.cons a q=>by cases a;exact .cons _ _ (zdz q)
theorem zfu {h:Heap}{ss:List Str}{vs:List Value}(q:StrsAre vs ss):VRs h ρ (txts ss) vs:=by
 induction q with
 | nil=>exact .nil
 | cons _ _ _ ih=>exact .cons .str ih
theorem zgC {a:Value}{ss:List Str}(ok:OkA Φ d A)(h64:ss.length < 64)
  (hcol:∀(Q:List Value→Shared→Prop) (E:Value→Shared→Prop),(∀vs s' ss',ss'.Perm ss→Moves [] s.heap s'.heap ρ ρ→Rel pg w K Φ ρ H s'.heap→s'.gens= #[]→s'.os=s.os→VRs s'.heap ρ (txts ss') vs→Q vs s')→wpAny (model pg w) A.in1 (collect a) Q E s):
  wpAny (model pg w) A (call (.builtin "sorted") [a]) (PO pg w K Φ s ρ H (.lst (txts (srt ss)))) (fun _ _=>False) s:=by
 refine Calls.call_function_entry kind_sorted plain_sorted entry_sorted (args_sorted1 _) ?_;unfold Builtin.«sorted»;refine wpAny_bind (m:=checkCount "sorted" 1 1 _) (wpAny_pure ?_);refine wpAny_bind (hcol _ _ fun vs cm ss' hp0 cM R1 dM cP q=> ?_)
 have hlen:vs.length=ss.length:=by have:=q.length;rw[←this];unfold txts;rw[List.length_map];exact hp0.length_eq
 refine wpAny_bind (wpAny_newList ?_ (by rw[hlen,sizeLine_eq];exact llK ‹_› rfl));have hoL:(cm.heap.push (seqObj "list" vs.toArray 0)).get? cm.heap.objs.size=some (seqObj "list" vs.toArray 0):=Heap.get?_push_size _ rfl;have hS:=zdz q;refine wpAny_bind (wpAny_holding (wpAny_call_entry slot_list_sort ⟨_,hoL,rfl⟩ entry_list_sort (list_sort_treeK strKind_oneLt hoL hS.keysOf (fun v1 v2 rest e=>keyKind_strs (by rw[←e];exact hS)) (by exact eLt ‹_› ‹_›) fun st' a1 a2=>⟨_,rfl,?_⟩) (args_list_sort _)));refine wpAny_pure ⟨_,rfl,?_⟩;obtain⟨ss'',h1,h2,h3⟩:=sorted_out_str hS a1 a2;have hu:ss''=srt ss:=zbt ((h2.trans hp0).trans (zaC ss).symm) (zcW h3) (zb0 ss);subst hu;obtain⟨ep,hat⟩:=sortedHeap_at (out:=(arrOf st').map (·.2)) hoL
 have hk:∀b o,cm.heap.get? b=some o→(sortedHeap (cm.heap.push (seqObj "list" vs.toArray 0)) cm.heap.objs.size vs ((arrOf st').map (·.2))).get? b=some o:=fun b o e=>by
  have hb:=Heap.lt_size e;rw[sortedHeap_old (Nat.ne_of_lt hb) (by rw[Heap.size_push];exact Nat.lt_succ_of_lt hb)];exact Heap.get?_push_of_some _ e
 have hz:cm.heap.objs.size≤(sortedHeap (cm.heap.push (seqObj "list" vs.toArray 0)) cm.heap.objs.size vs ((arrOf st').map (·.2))).objs.size:=Nat.le_of_lt (Heap.lt_size hat);have mv:Moves [] cm.heap (sortedHeap (cm.heap.push (seqObj "list" vs.toArray 0)) cm.heap.objs.size vs ((arrOf st').map (·.2))) ρ ρ:=Moves.grow hk hz (by exact zad);refine⟨ρ,cM.trans mv,R1.moves mv (fun b hb o ho=>hk b o ho) (by exact zad),dM,.lst (vs:=((arrOf st').map (·.2)).toList) ⟨_,hat,rfl,ep,by rw[Array.toArray_toList]⟩ (fun z=>absurd (R1.live _ z) (Nat.lt_irrefl _)) (zfu h1),cP⟩
theorem SC.sorted {ss:List Str}(L:Seqq H x (txts ss))(h64:ss.length < 64):SC pg w K Φ d (.builtin "sorted") [x] H (.lst (txts (srt ss))) H:=fun ρ s A vs ok R g p=>by
 refine VRs.oneE p fun _ p=> ?_
 refine zgC ok h64 fun Q E h=> ?_
 exact zc6 L R g p (by unfold txts;rw[List.length_map,sizeLine_eq];exact llK ‹_› rfl) fun vs s' m R' g' o' q=>h vs s' ss (List.Perm.refl _) m R' g' o' q
theorem SC.max (hc:Φ.calm=Bool.true){a b:Int} :SC pg w K Φ d (.builtin "max") [.int a,.int b] H (.int (if b > a then b else a)) H:=fun ρ s A vs ok R g p=>by
 refine VRs.twoE p fun _ _ p q=> ?_;refine VR.intE p fun _=> ?_;refine VR.intE q fun _=> ?_
 refine zav (max_two_ints (ok.handled hc) fun h' tk hk hz=> ?_);have mv:Moves [] s.heap h' ρ ρ:=Moves.grow hk hz (by exact zad);refine⟨ρ,mv,R.moves mv (fun b hb o ho=>hk b o ho) (by exact zad),g,?_,rfl⟩
 split<;>exact .int
theorem SC.range {n:Nat} :SC pg w K Φ d (.type "range") [.int n] H (.rng n) H:=fun ρ s A vs ok R g p=>by
 refine VRs.oneE p fun _ p=> ?_;refine VR.intE p fun t=> ?_
 refine call_range_1 ?_;obtain⟨mv,R',hn⟩:=zbe R {cls:=.type "range",data:=.fields #[.int 0 s.toks,.int n t,.int 1 (s.toks+1)]};exact⟨ρ,mv,R',g,.rng (Heap.get?_push_size _ rfl) hn,rfl⟩
theorem SC.bN {i:Str} :SC pg w K Φ d (.type "type") [.str i] H (.cst (.type "str")) H:=fun ρ s A vs ok R g p=>by
 refine VRs.oneE p fun _ p=> ?_;refine VR.strE p fun _=> ?_
 exact call_type_of (typeIs_str _ _ _) (by decide) (PO.here' R g .cst)
theorem SC.aq {i:Str} :SC pg w K Φ d (.builtin "isinstance") [.str i,.cst (.type "bytes")] H (.bool false) H:=fun ρ s A vs ok R g p=>by
 refine VRs.twoE p fun _ _ p q=> ?_;refine VR.strE p fun _=> ?_;refine VR.cstE q ?_
 refine call_isinstance_of ?_ (by intro e;cases e);obtain⟨h,g',dr,t,os⟩:=s;exact isinstance_nested_false_str (by decide) (by kernel_rfl) (by rw[isSubtype_type];kernel_rfl) (PO.here R g .bool)
theorem zeC (l:Addr)(items:Array Value)(hfit:(items.size:Int) < 2 ^ 63):
  PySem.Meets (Builtin.«bool.__new__» ⟨[.type "bool",.ref l],[]⟩) (fun _ R s=>s.heap.IsList l items∧R (.ok (.ret (.bool !items.isEmpty))) {s with toks:=s.toks+1+1}):=
 Meets.of_wp fun pg w A R s hs=>by
  obtain⟨hp,g,d,tk,os⟩:=s;obtain⟨hl,hs⟩:=hs;have f1:=F.conv_sub_bool
  repeat (any_goals (first | assumption | (with_reducible refine wpAny_truthy_list hl hfit ?_) | wp_step))
  all_goals first | exact⟨_,rfl,hs⟩ | exact hs | skip
theorem SC.bE (L:LH H x xs)(hz:xs.length≤sizeLine):SC pg w K Φ d (.type "bool") [x] H (.bool !xs.isEmpty) H:=fun ρ s A vs ok R g p=>by
 refine VRs.oneE p fun _ p=> ?_
 obtain⟨c,vs,rfl,hl,cv⟩:=L.at R p;refine call_bool_1 (zeC c vs.toArray (by have:=cv.length;have:sizeLine=2 ^ 24:=rfl;simp;lia)) ⟨hl,?_⟩;refine⟨rfl,?_⟩
 have:vs.toArray.isEmpty=xs.isEmpty:=by cases cv<;>simp
 rw[this];exact PO.here R g .bool
theorem zfc (x:Str)(t:Tok):Gives (Builtin.«str.__mul__» ⟨[.str x t,.bool Bool.true],[]⟩) (.val (.str x t)):=
 .of_wp fun M A E s Q h=>by obtain⟨hp,g,d,tk,os⟩:=s;wp_walk;exact⟨_,rfl,h⟩
theorem zeL (x:Str)(t:Tok):Gives (Builtin.«str.__mul__» ⟨[.str x t,.bool Bool.false],[]⟩) (.str Str.empty):=
 .of_wp fun M A E s Q h=>by obtain⟨hp,g,d,tk,os⟩:=s;wp_walk;exact⟨_,rfl,h.2⟩
theorem zeK (c:Bool)(x:Str)(t:Tok):Gives (Builtin.«int.__rmul__» ⟨[.bool c,.str x t],[]⟩) (.val (Value.notImplemented)):=
 .of_wp fun M A E s Q h=>by obtain⟨hp,g,d,tk,os⟩:=s;wp_walk;exact⟨_,rfl,h⟩
theorem SB.bP {i:Str}{c:Bool} :SB pg w K Φ d .Mult (.str i) (.bool c) H (.str (if c then i else Str.empty)) H:=fun ρ s A a b ok R g p q=>by
 refine VR.strE p fun t=> ?_
 cases q;refine wpAny_binaryOp_repeat (T:= "str") (U:= "bool") (by decide) (fun s'=>typeIs_str s' i t) (fun s'=>PySem.typeIs_bool s' c) noFill_str_mul F.fills_bool_mul F.slot_bool_rmul repeat_str F.slot_bool_index.lookup
  (call_gives F.slot_bool_rmul (PySem.typeIs_bool s c) F.entry_int_rmul (F.args_int_rmul_2 _ _) (zeK c i t) ⟨rfl,?_⟩)
 cases c with
 | true=>exact call_gives F.slot_str_mul (typeIs_str s i t) F.entry_str_mul (F.args_str_mul_2 _ _) (zfc i t) (PO.here' R g .str)
 | false=>exact call_gives F.slot_str_mul (typeIs_str s i t) F.entry_str_mul (F.args_str_mul_2 _ _) (zeL i t) ⟨by decide,PO.here R g .str⟩
theorem SC.bO (L:LH H x xs)(hz:xs.length≤sizeLine):SC pg w K Φ d (.type "tuple") [x] H (.tup xs) H:=fun ρ s A vs ok R g p=>by
 refine VRs.oneE p fun _ p=> ?_
 obtain⟨c,vs,rfl,hl,cv⟩:=L.at R p;refine zcO (call_tuple_list hl (fun h' hk gr=> ?_) (by simp only[List.size_toArray,←cv.length];exact hz))
 have hk':∀b o,s.heap.get? b=some o→(h'.push {cls:=.type "tuple",data:=.seq vs.toArray}).get? b=some o:=fun b o e=>Heap.get?_push_of_some _ (hk b o e)
 have hat:(h'.push {cls:=.type "tuple",data:=.seq vs.toArray}).get? h'.objs.size=some {cls:=.type "tuple",data:=.seq vs.toArray} :=Heap.get?_push_size _ rfl
 have hn:h'.objs.size∉ρ:=fun z=>by
  have hlt:=R.live _ z
  cases e:s.heap.get? h'.objs.size with
  | none=>have:=gr.2 _ hlt e;rw[hat] at this;exact snE this
  | some o=>exact absurd (Heap.lt_size (hk _ _ e)) (Nat.lt_irrefl _)
 have mv:Moves [] s.heap (h'.push {cls:=.type "tuple",data:=.seq vs.toArray}) ρ ρ:=Moves.grow hk' gr.1 (by exact zad);exact⟨ρ,mv,R.moves mv (fun b hb o ho=>hk' b o ho) (by exact zad),g,.tup ⟨_,hat,rfl,0,rfl⟩ hn (cv.moves mv),rfl⟩
theorem SC.b7 (L:Seqq H x xs)(hz:xs.length≤sizeLine):SC pg w K Φ d (.type "list") [x] H (.lst xs) H:=fun ρ s A vs ok R g p=>by
 refine VRs.oneE p fun _ p=> ?_
 obtain⟨c,vs,T,ob,n,rfl,hT,ho,hc,hd,cv⟩:=L.at R p;refine zav (call_list_seq c hT ho hc hd (fun h' c' hk hat hz'=> ?_) (by simp only[List.size_toArray,←cv.length];exact hz));have mv:Moves [] s.heap h' ρ ρ:=Moves.grow hk hz' (by exact zad);exact⟨ρ,mv,R.moves mv (fun b hb o ho=>hk b o ho) (by exact zad),g,.lst ⟨_,hat,rfl,c',rfl⟩ (fun z=>absurd (R.live _ z) (Nat.lt_irrefl _)) (cv.moves mv),rfl⟩
theorem zdF:builtinKind "issubclass.nested" =none:=by decide+kernel
theorem zdb:plainId "issubclass.nested" =Bool.true:=by decide+kernel
theorem zdO (a b c:Value):argsOk "issubclass.nested" ⟨[a,b,c],[]⟩:=by unfold argsOk;kernel_rfl
theorem zf8 (k:Int)(tk:Tok):PySem.Meets (Builtin.«issubclass.nested» ⟨[.type "str",.type "str",.int k tk],[]⟩) (fun _ R s=>R (.ok (.ret (.bool Bool.true))) s):=
 Meets.of_wp fun pg w A R s hs=>by
  have f2:isSubtype (.type "str") (.type "str")=pure true:=by rw[isSubtype_type];kernel_rfl
  have f3:typeOf (.type "str")=pure (.type "type"):=by kernel_rfl
  repeat (any_goals (first | assumption | wp_step))
  exact⟨_,rfl,hs⟩
theorem zia {c:Addr}{ob:Obj}{nn:Nat}{b:Value}{n:Tok}{Q:Fin→Shared→Prop}(ho:s.heap.get? c=some ob)(hc:ob.cls= .type "tuple")(hd:ob.data= .seq #[.type "str",b] nn)
  (hq:Q (.done (.ret (.bool Bool.true))) s):wpAny (model pg w) A (Builtin.«issubclass.nested» ⟨[.type "str",.ref c,.int 0 n],[]⟩) Q E s:=by
 have ht:s.TypeIs (.ref c) "tuple" :=⟨ob,ho,hc⟩;obtain⟨h,g',dr,t,os⟩:=s;have f1:=F.isi_sub_tuple
 repeat (any_goals (first | assumption | wp_step))
 rw[hd];refine wpAny_pure ?_;refine wpAny_bind ?_;rw[←Array.forIn_toList];show wpAny _ _ (forIn [Value.type "str",b] _ _) _ _ _;rw[List.forIn_cons];refine wpAny_bind (wpAny_bind ?_);refine call_function_meets zdF zdb F.entry_issubclass_nested (zdO _ _ _) (zf8 _ _) ?_;show wpAny _ _ (truthy (.bool Bool.true) >>= _) _ _ _;refine wpAny_bind (m:=truthy (.bool Bool.true)) (wpAny_pure ?_);exact wpAny_bind (wpAny_pure (wpAny_pure (wpAny_pure (wpAny_pure hq))))
theorem SC.b8:SC pg w K Φ d (.builtin "issubclass") [.cst (.type "str"),.tup [.cst (.type "str"),.cst (.type "bytes")]] H (.bool true) H:=fun ρ s A vs ok R g p=>by
 refine VRs.twoE p fun _ _ p q=> ?_;refine VR.cstE p ?_
 refine VR.tupE q fun vs c ht n cv=> ?_
 obtain⟨_,_,rfl,a,b⟩:=cv.twoI
 cases a.cstI;cases b.cstI
 obtain⟨ob,ho,hc,nn,hd⟩:=ht;have ht:s.TypeIs (.ref c) "tuple" :=⟨ob,ho,hc⟩;refine call_function_any F.kind_issubclass F.plain_issubclass F.entry_issubclass (F.args_issubclass_2 _ _) ?_;refine issubclass_outer (R:=fun r s'=>match r with | .ok (.ret v)=>PO pg w K Φ s ρ H (.bool true) v s' | .ok _=>False | .error e=>False) ?_;refine zia ho hc hd ?_;exact PO.here R g .bool
end
end Mine
section
namespace Mine
section
theorem zcw:Slot "list_iterator" "__getattribute__" "object.__getattribute__" :=
 .of (owner:= "object") (n:= "__getattribute__") (by rw[typeLookup_type,builtinLookup_eq_fast];kernel_rfl) (by decide+kernel) (by decide+kernel) (by decide+kernel)
  (by first | exact .inl (by decide+kernel) | exact .inr (by decide+kernel)) (by rw[isSubtype_type];kernel_rfl)
theorem zdx:typeOf (.builtin "list_iterator.__next__")=pure (.type "wrapper_descriptor"):=by kernel_rfl
theorem zcS:Slot "wrapper_descriptor" "__get__" "wrapper_descriptor.__get__" :=
 .of (owner:= "wrapper_descriptor") (n:= "__get__") (by rw[typeLookup_type,builtinLookup_eq_fast];kernel_rfl) (by decide+kernel) (by decide+kernel) (by decide+kernel)
  (by first | exact .inl (by decide+kernel) | exact .inr (by decide+kernel)) (by rw[isSubtype_type];kernel_rfl)
theorem zhg:entryFor table "wrapper_descriptor.__get__" =some Builtin.«wrapper_descriptor.__get__»:=entryFor_of_tree (by kernel_rfl)
theorem ziD (a b c:Value):argsOk "wrapper_descriptor.__get__" ⟨[a,b,c],[]⟩:=by unfold argsOk;kernel_rfl
theorem zlk:typeLookup (.type "wrapper_descriptor") "__set__" =pure none:=by rw[typeLookup_type,builtinLookup_eq_fast];kernel_rfl
theorem zll:typeLookup (.type "wrapper_descriptor") "__delete__" =pure none:=by rw[typeLookup_type,builtinLookup_eq_fast];kernel_rfl
theorem zfX:(".".intercalate ("list_iterator.__next__".cutAt '.').dropLast)= "list_iterator" :=by
 have e0: "list_iterator.__next__".cutAt '.'= ["list_iterator","__next__"]:=by first | rfl | decide+kernel
 rw[e0];decide+kernel
theorem zgB:isSubtype (.type "list_iterator") (.type (".".intercalate ("list_iterator.__next__".cutAt '.').dropLast))=pure true:=by
 rw[zfX,isSubtype_type];kernel_rfl
end
section
variable {pg:Program}{w:World}{A:Around}{E:Value→Shared→Prop}{h:Heap}{g:Array GenState}{d:Drawn}{t:Nat}{os:OsState}{a l:Addr}{i:Nat}
noncomputable def zfa (l:Addr):Obj:= {cls:=.type "list_iterator",data:=.fields #[.ref l,.int 0 0]}
theorem zod {R:Result→Shared→Prop}(hx:h.get? a=some (zfa l))(hq:R (.ok (.ret (.ref h.objs.size))) ⟨h.push (zeB a),g,d,t,os⟩):
  codeAny (model pg w) A (.call (.builtin "wrapper_descriptor.__get__") ⟨[.builtin "list_iterator.__next__",.ref a,.type "list_iterator"],[]⟩) R ⟨h,g,d,t,os⟩:=by
 have hT:(⟨h,g,d,t,os⟩:Shared).TypeIs (.ref a) "list_iterator" :=⟨_,hx,rfl⟩;have hT5:(⟨h,g,d,t,os⟩:Shared).TypeIs (.builtin "list_iterator.__next__") "wrapper_descriptor" :=zdx;have f8:=zgB;refine codeAny_call_builtin zcS.plain zhg (zcS.check _ _ _ _ _ _ _ _ hT5 (ziD _ _ _) ?_)
 repeat (any_goals (first | assumption | wp_step))
theorem zmD {tk:Tok}{Q:Fin→Shared→Prop}(hx:h.get? a=some (zfa l))(hq:Q (.done (.ret (.ref h.objs.size))) ⟨h.push (zeB a),g,d,t,os⟩):
  wpAny (model pg w) A (Builtin.«object.__getattribute__» ⟨[.ref a,.str "__next__" tk],[]⟩) Q E ⟨h,g,d,t,os⟩:=by
 have hT:(⟨h,g,d,t,os⟩:Shared).TypeIs (.ref a) "list_iterator" :=⟨_,hx,rfl⟩;have hT5:(⟨h,g,d,t,os⟩:Shared).TypeIs (.builtin "list_iterator.__next__") "wrapper_descriptor" :=zdx;have f4:=slot_listiter_next.lookup;have f5:=zdx;have f6:=zcS.lookup;have f7:=zlk;have f8:=zll
 repeat (any_goals (first | assumption | with_reducible refine PySem.AutoSeq1.wpAny_loadPart' hx ?_ | wp_step))
 refine zod hx ?_;exact wpAny_pure hq
theorem znQ {expr:Bool}{Q:Value→Shared→Prop}(hx:h.get? a=some (zfa l))(hq:Q (.ref h.objs.size) ⟨h.push (zeB a),g,d,t+1,os⟩):
  wpAny (model pg w) A (getAttr (.ref a) "__next__" expr) Q E ⟨h,g,d,t,os⟩:=by
 have hT:(⟨h,g,d,t,os⟩:Shared).TypeIs (.ref a) "list_iterator" :=⟨_,hx,rfl⟩;have f2:=zcw.lookup;have f3:=zcw.bind (.ref a)
 repeat (any_goals (first | assumption | wp_step))
 show wpAny (model pg w) A (typeLookup (.type "list_iterator") (Str.ofString "__getattribute__")) _ _ _
 repeat (any_goals (first | assumption | wp_step))
 rw[if_neg (by rw[Bool.and_eq_true];exact fun z=>Bool.false_ne_true z.2)]
 repeat (any_goals (first | assumption | wp_step))
 refine codeAny_call_builtin zcw.plain F.entry_object_getattribute (zcw.check _ _ _ _ _ _ _ _ hT (F.args_object_getattribute_2 _ _) (zmD hx ?_))
 repeat (any_goals (first | assumption | wp_step))
end
variable {pg:Program}{w:World}{K:Frag}{Φ:Fm}{d:Nat}{sc:Scope}{σ σ' σ1 cp σ3 σc:List (Str×AV)}{H H' cn cq cy c5:List Cell}{v v1 v2 x y z:AV}{A:Around}{s s':Shared}
 {env:Env} {O P ρ ρ':List Addr} {E:Value→Shared→Prop} {e cz cG l r o:Expr} {pos:Pos} {b cI cK:Bool} {xs ys:List AV} {C:Addr} {name:Str} {i j dd dep:Nat} {es:List (Str×AV)} {nd np su:Option AV}
theorem zin:entryFor table "iter" =some Builtin.«iter»:=entryFor_of_fast (by kernel_rfl)
theorem zku (a:Value):argsOk "iter" ⟨[a],[]⟩:=by unfold argsOk;kernel_rfl
theorem zfj {l:Addr}{items:Array Value}{Q:Value→Shared→Prop}(hl:s.heap.IsList l items)(hQ:Q (.ref s.heap.objs.size) {s with heap:=s.heap.push (zfa l)}):
  wpAny (model pg w) A (call (.builtin "iter") [.ref l]) Q E s:=by
 refine call_function_any (by decide+kernel) (by decide+kernel) zin (zku _) ?_;show wpAny _ _ (someArgs "iter" 1 2 _ >>= _) _ _ _;refine wpAny_bind (m:=someArgs "iter" 1 2 _) (wpAny_of_eq (a:= [Value.ref l]) (by first | rfl | kernel_rfl!) ?_);show wpAny _ _ (pyIter (.ref l) >>= _) _ _ _;exact wpAny_bind (wpAny_pyIter_list hl (wpAny_pure hQ))
theorem SE.bw {n:Str}{p cL:Pos}(hn:SE pg w K Φ d sc (.Name n p) σ H (.cst (.builtin "iter")) σ H)(a:SE pg w K Φ d sc e σ H x σ1 cn)(L:LH cn x xs)
  (hc:∀env,starEach [e] env= [(false,eval e env)]:=by intro _;rfl):
  SE pg w K Φ d sc (.Attribute (.Call (.Name n p) [e] [] cL) "__next__" pos) σ H (.nxt cn.length) σ1 (cn++ [.iter x 0]):=.mk fun env O ρ s A ok X=>by
 rw[arm_eval_Attribute];show wpAny _ _ (eval (.Call (.Name n p) [e] [] cL) env >>= _) _ _ _;refine wpAny_bind (Call_Name rfl (hn.into ok X fun f' cm ρ1 m X1 q o=> ?_));cases q;refine zcs .builtin (.inl (by rw[hc];rfl)) (zac ((SG.some (SL.cons a SL.nil hc) hc).1 env O ρ1 cm A cL (.builtin "iter") ok X1) fun ar ct ⟨hk,ρ2,cu,X2,q,cw⟩=>⟨X2.rel.top,?_⟩);obtain⟨as,kw⟩:=ar;dsimp only at hk q ⊢;subst hk
 refine VRs.oneE q fun _ q=> ?_
 obtain⟨c,vs,rfl,hl,cv⟩:=L.at X2.rel q;refine zfj hl ?_;refine wpAny_bind (wpAny_standAt (wpAny_bind (wpAny_holding ?_)));obtain⟨cF,dm,d2,d1,os2⟩:=ct;have hat:(cF.push (zfa c)).get? cF.objs.size=some (zfa c):=Heap.get?_push_size _ rfl
 obtain⟨R',mv⟩:=X2.rel.push (c:=.iter x 0) (o:=zfa c) rfl rfl fun m=>.iter (q.moves m) ⟨_,hat,rfl,rfl⟩
 have hf:(ρ2++ [cF.objs.size])[cn.length]? =some cF.objs.size:=by rw[←X2.rel.len];simp
 refine znQ hat (wpAny_bind (wpAny_letTemporaryGo (wpAny_pure ?_)));obtain⟨m3,R3,dY⟩:=zbe R' (zeB cF.objs.size);have mm:Moves [] cF ((cF.push (zfa c)).push (zeB cF.objs.size)) ρ2 (ρ2++ [cF.objs.size]):=mv.trans m3;have hb:((cF.push (zfa c)).push (zeB cF.objs.size)).get? (cF.push (zfa c)).objs.size=some (zeB cF.objs.size):=Heap.get?_push_size _ rfl;exact⟨ρ2++ [cF.objs.size],(m.trans cu).trans (mm.wider (by exact zad) X2.env.softs),⟨R3,X2.env.moves mm,X2.gens⟩,.nxt hf hb dY,cw.trans o⟩
end Mine
end
namespace Mine
section
variable {pg:Program}{w:World}{K:Frag}{Φ:Fm}{d:Nat}{sc:Scope}{σ σ' σ1 cp σ3 σc:List (Str×AV)}{H H' cn cq cy c5:List Cell}{v v1 v2 x y z:AV}{A:Around}{s s':Shared}
 {env:Env} {O P ρ ρ':List Addr} {E:Value→Shared→Prop} {e cz cG l r o:Expr} {pos:Pos} {b cI cK:Bool} {xs ys:List AV} {C:Addr} {name:Str} {i j dd dep:Nat} {es:List (Str×AV)} {nd np su:Option AV}
theorem zm8 (a:Addr):checkBoundCall "list_iterator.__next__" ⟨[.ref a],[]⟩=pure ():=by kernel_rfl
theorem zlY {a b:Addr}{R:Result→Shared→Prop}(hb:s.heap.get? b=some (zeB a))(h:codeAny (model pg w) A (.builtin "list_iterator.__next__" ⟨[.ref a],[]⟩) R s):
  codeAny (model pg w) A (.call (.ref b) ⟨[],[]⟩) R s:=by
 refine codeAny_of_tree ?_;show wpAny _ _ (callAny (.ref b) ⟨[],[]⟩) _ _ _;show wpAny _ _ (load b >>= _) _ _ _;refine wpAny_bind (wpAny_load hb ?_);show wpAny _ _ (checkBoundCall "list_iterator.__next__" ⟨[.ref a],[]⟩ >>= _) _ _ _;rw[zm8];exact wpAny_bind (wpAny_pure (wpAny_bind (wpAny_pure (wpAny_pure ⟨Code.quiet_builtin _ (by decide+kernel),h⟩))))
end
section
variable {pg:Program}{w:World}{K:Frag}{Φ:Fm}{d:Nat}{sc:Scope}{σ σ' σ1 cp σ3 σc:List (Str×AV)}{H H' cn cq cy c5:List Cell}{v v1 v2 x y z:AV}{A:Around}{s s':Shared}
 {env:Env} {O P ρ ρ':List Addr} {E:Value→Shared→Prop} {cz cG l r o:Expr} {pos:Pos} {b cI cK:Bool} {xs ys:List AV} {C:Addr} {name:Str} {i j dd dep:Nat} {es:List (Str×AV)} {nd np su:Option AV}
 {e:Addr} {cls:Value} {lo:Nat}
inductive Flying (K:Frag)(ρ:List Addr)(lo:Nat)(e:Addr)(cls:Value)(h:Heap):Prop
 | mk (t:za2 < lo) (le:lo≤e) (ne:e∉ρ) (oe:Obj) (vs:Array Value) (he:h.get? e=some oe) (hc:oe.cls=cls) (hd:oe.data= .fields vs) (so:Soft oe)
  (hv:vs[1]? =some .none∨∃T oT ts,vs[1]? =some (.ref T)∧lo≤T∧T∉ρ∧h.get? T=some oT∧oT.cls= .type "traceback" ∧oT.data= .fields ts∧ts[3]? =some .none∧T≠e)
theorem zg7 {l:List Env}{h:Heap} :∀{fr:List Addr},l.map (·.frame)=fr.map some→(∀e∈l,e.scope.kind≠ .module)→(∀L∈fr,za2 < L∧L∉ρ∧∃o es ep,h.get? L=some o∧o.data= .dict es ep)→h.FunFrames {objs:= #[]} l:=by
 induction l with
 | nil=>intro fr _ _ _;trivial
 | cons a l ih=>
  intro fr e k f
  cases fr with
  | nil=>simp at e
  | cons L fr=>
   simp only[List.map_cons,List.cons.injEq] at e;obtain⟨_,_,o,es,ep,ho,hd⟩:=f L (by exact List.mem_cons_self);exact⟨k a (by exact List.mem_cons_self),⟨L,o,e.1,rfl,ho,fun vs z=>by rw[hd] at z;cases z⟩,ih e.2 (fun e he=>k e (by simp[he])) fun L hL=>f L (by simp[hL])⟩
theorem zd7 {l:List Env} :∀{fr:List Addr},l.map (·.frame)=fr.map some→l.filterMap (·.frame)=fr:=by
 induction l with
 | nil=>intro fr e;cases fr<;>simp_all
 | cons a l ih=>
  intro fr e
  cases fr with
  | nil=>simp at e
  | cons L fr=>
   simp only[List.map_cons,List.cons.injEq] at e;rw[List.filterMap_cons,e.1,ih e.2]
theorem zg8 {Q:Value→Shared→Prop}(ok:OkA Φ d A)(X:St pg w K Φ env sc O σ H ρ s)
  (h:∀L h',env.frame=some L→Moves [] s.heap h' ρ ρ→(∀b,b∉Φ.fr→h'.get? b=s.heap.get? b)→h'.objs.size=s.heap.objs.size→Q (.ref L) {s with heap:=h'}):wpAny (model pg w) A (PySem.frameOf env) Q E s:=by
 obtain⟨⟨_,_,_,l0,hl0,fo⟩,env',l,hl,_⟩:=ok
 rw[hl] at hl0;obtain rfl:=Option.some.inj hl0
 have ff:=zg7 fo.1 fo.2 X.rel.frames;have fm:=zd7 fo.1
 obtain⟨L,fr,hfr⟩:∃L fr,Φ.fr=L::fr:=by
  cases z:Φ.fr with
  | nil=>have:=fo.1;rw[z] at this;simp at this
  | cons L fr=>exact⟨L,fr,rfl⟩
 have hf:env.frame=some L:=by rw[X.env.frame,hfr];rfl
 have hf':env'.frame=some L:=by have:=fo.1;rw[hfr] at this;simp at this;exact this.1
 unfold PySem.frameOf;refine wpAny_bind (wpAny_frameEnvs hl ?_)
 have hdw:((env'::l).dropWhile fun x=>x.frame !=env.frame)=env'::l:=by simp[List.dropWhile,hf,hf']
 rw[hdw];unfold frameObject;refine wpAny_bind (wpAny_bind (wpAny_readyFrames_fun ff fun cB hs1=>wpAny_pure ?_));rw[hf'];rw[fm] at hs1;refine wpAny_pure (h L cB hf ⟨fun b o eb n _=> ?_,Nat.le_of_eq hs1.1.symm,Ext.refl _ _,by exact zad⟩ (fun b hb=>hs1.2.1 b hb) hs1.1)
 by_cases z:b∈Φ.fr
 ·obtain⟨t,_,o',es',ep',eo,dd⟩:=X.rel.frames b z
  obtain⟨sl,q⟩:=hs1.2.2 b o eb
  rw[eb] at eo;obtain rfl:=Option.some.inj eo
  exact⟨_,q,.inr ⟨t,⟨es',ep',dd⟩,sl,rfl⟩⟩
 ·exact⟨o,(hs1.2.1 b z).trans eb,.inl rfl⟩
noncomputable def LowKeep (lo:Nat)(ρ:List Addr)(h h':Heap):Prop:=h.objs.size≤h'.objs.size∧∀b o,b < lo→b∉ρ→h.get? b=some o→∃o',h'.get? b=some o'∧Like b o o'
theorem LowKeep.of {h h':Heap}(m:Moves P h h' ρ ρ)(hP:∀a∈P,lo≤a):LowKeep lo ρ h h':=⟨m.size,fun b o hb n e=>m.keep b o e n fun z=>absurd hb (Nat.not_lt.mpr (hP b z))⟩
theorem LowKeep.trans {h h' h'':Heap}(k:LowKeep lo ρ h h')(k':LowKeep lo ρ h' h''):LowKeep lo ρ h h'':=⟨Nat.le_trans k.1 k'.1,fun b o hb n e=>
 let⟨cP,cz,l₁⟩:=k.2 b o hb n e;let⟨cw,cG,l₂⟩:=k'.2 b cP hb n cz;⟨cw,cG,l₁.trans l₂⟩⟩
theorem Moves.low {h cB cF:Heap}(m:Moves O h cB ρ ρ')(hlo:h.objs.size≤lo)(k:LowKeep lo ρ' cB cF):Moves O h cF ρ ρ':=
 ⟨fun b o e n nO=>let⟨cP,cz,l₁⟩:=m.keep b o e n nO;let⟨cw,cG,l₂⟩:=k.2 b cP (Nat.lt_of_lt_of_le (Heap.lt_size e) hlo) (m.ext.not_mem e n) cz;⟨cw,cG,l₁.trans l₂⟩,Nat.le_trans m.size k.1,m.ext,m.soft⟩
noncomputable def zne (lo:Nat)(env:Env)(O:List Addr):Prop:=(∀a∈O,a < lo)∧∀y c,env.cells.lookup y=some c→c < lo
theorem St.below (X:St pg w K Φ env sc O σ H ρ s):zne s.heap.objs.size env O:=
 ⟨fun a ha=>let⟨o,ho,_⟩:=X.env.soft a ha;Heap.lt_size ho,fun y c hc=>let⟨v,o,ho,_⟩:=X.env.cellLive y c hc;Heap.lt_size ho⟩
theorem St.off {h':Heap}(X:St pg w K Φ env sc O σ H ρ s)(m:Moves P s.heap h' ρ ρ)(hρ:∀b∈ρ,∀o,s.heap.get? b=some o→h'.get? b=some o)(B:zne lo env O)(t:za2 < lo)
  (hP:∀a∈P,lo≤a∧∃o vs,s.heap.get? a=some o∧o.data= .fields vs) {tk:Nat} :St pg w K Φ env sc O σ H ρ {s with heap:=h',toks:=tk} :=by
 have kn:∀a∈P,K.lookup a=none:=fun a ha=>by
  cases z:K.lookup a with
  | none=>rfl
  | some o=>exact absurd (X.rel.low a o z) (Nat.not_le.mpr (Nat.lt_of_lt_of_le t (hP a ha).1))
 refine⟨X.rel.moves m hρ kn fun L hL hp=> ?_,X.env.movesP m fun a ha=>⟨fun z=>absurd (B.1 a z) (Nat.not_lt.mpr (hP a ha).1),fun y c hc z=>absurd (B.2 y c hc) (Nat.not_lt.mpr (z▸(hP a ha).1))⟩,X.gens⟩;obtain⟨_,_,o,es,ep,ho,hd⟩:=X.rel.frames L hL;obtain⟨_,o',vs,ho',hd'⟩:=hP L hp
 rw[ho] at ho';obtain rfl:=Option.some.inj ho';rw[hd] at hd';cases hd'
theorem zfB {L:Addr}{oe:Obj}{vs:Array Value}{head:Value}{hadNext:Bool}{Q:Shared→Prop}(ok:OkA Φ d A)(X:St pg w K Φ env sc O σ H ρ s)(hf:env.frame=some L)
  (he:s.heap.get? e=some oe) (hd:oe.data= .fields vs) (hsz:1 < vs.size) (ne:e∉ρ) (so:Soft oe)
  (h:∀h' T' oT ts,Moves [e] s.heap h' ρ ρ→(∀b∈ρ,∀o,s.heap.get? b=some o→h'.get? b=some o)→s.heap.objs.size≤T'→h'.get? e=some (oe.mapFields (·.setIfInBounds 1 (.ref T'))) →
   h'.get? T'=some oT→oT.cls= .type "traceback" →oT.data= .fields ts→ts[3]? =some .none→Q {s with heap:=h'}):
  wpAny (model pg w) A (do let a←PySem.frameOf env;let pl←entryPlaceOf L hadNext;let b←EntryCells.newEntry head a .none (rawInt L) .none pl;setField (.ref e) 1 b) (fun _ s'=>wpAny (model pg w) A (setFlight (.ref e) none) (fun _ s''=>Q s'') E s') E s:=by
 refine wpAny_bind (zg8 ok X fun L' cB hf' cM dl dB=> ?_)
 rw[hf] at hf';obtain rfl:=Option.some.inj hf'
 refine wpAny_bind (wpAny_entryPlaceOf fun pl hpl=> ?_);unfold EntryCells.newEntry newFields;refine wpAny_bind (wpAny_newObj_type ?_ (hpl.sizeOk5 _ _ _ _ _))
 have nf:e∉Φ.fr:=fun z=>by
  obtain⟨_,_,o,es,ep,ho,hd'⟩:=X.rel.frames e z
  rw[he] at ho;obtain rfl:=Option.some.inj ho;rw[hd] at hd';cases hd'
 have he1:cB.get? e=some oe:=(dl e nf).trans he
 let tb:Obj:= {cls:=.type "traceback",dict:=none,data:=.fields ([head,.ref L,.none,rawInt L,.none]++(if pl.isEmpty then List.replicate 6 Value.none else pl)).toArray}
 have he2:=Heap.get?_push_of_some (h:=cB) tb he1;refine wpAny_setField he2 hd hsz ?_;have hTe:cB.objs.size≠e:=Nat.ne_of_gt (Heap.lt_size he1);have hd3:=Obj.data_mapFields hd (·.setIfInBounds 1 (Value.ref cB.objs.size));have he3:=Heap.get?_update_self (Obj.mapFields (·.setIfInBounds 1 (Value.ref cB.objs.size))) he2 (Obj.isFreed_of_fields hd3);have hT3:=(Heap.get?_update_other (cB.push tb) (Obj.mapFields (·.setIfInBounds 1 (Value.ref cB.objs.size))) (Ne.symm hTe)).trans (Heap.get?_push_size cB rfl);unfold setFlight;refine wpAny_bind (wpAny_field he3 hd3 (x:=.ref cB.objs.size) (by simp[hsz]) ?_);rw[if_pos (show(Value.ref cB.objs.size !=Value.none)=true from by rfl)]
 have hts:3 < ([head,Value.ref L,.none,rawInt L,.none]++(if pl.isEmpty then List.replicate 6 Value.none else pl)).toArray.size:=by simp only[List.size_toArray,List.length_append,List.length_cons,List.length_nil];solve_by_elim (maxDepth:=5) [leK,slK,Nat.le_trans,Nat.lt_of_lt_of_le,Nat.lt_of_le_of_lt,Nat.le_of_lt,Nat.le_add_right,Nat.succ_le_succ,Nat.le_succ]
 have keep:∀b o,b≠e→cB.get? b=some o→(((cB.push tb).update e (Obj.mapFields (·.setIfInBounds 1 (Value.ref cB.objs.size)))).update cB.objs.size (Obj.mapFields (·.setIfInBounds 3 ((none:Option Addr).elim Value.none fun f=>rawInt f)))).get? b=some o:=fun b o hbe hb=>by
  have hbT:cB.objs.size≠b:=Nat.ne_of_gt (Heap.lt_size hb);rw[Heap.get?_update_other _ _ hbT,Heap.get?_update_other _ _ (Ne.symm hbe)];exact Heap.get?_push_of_some _ hb
 refine wpAny_setField hT3 rfl hts (h _ cB.objs.size _ _ ⟨fun b o eb n nb=> ?_,?_,Ext.refl _ _,fun b hb o eb=> ?_⟩ (fun b hb o eb=> ?_) (Nat.le_of_eq dB.symm) ?_ (Heap.get?_update_self _ hT3 (Obj.isFreed_of_fields (Obj.data_mapFields rfl _))) ((Obj.cls_mapFields _ _).trans rfl) (Obj.data_mapFields rfl _) ?_)
 ·obtain⟨cP,cz,l₁⟩:=cM.keep b o eb n (by exact nofun)
  exact⟨cP,keep b cP (fun z=>nb (by simp[z])) cz,l₁⟩
 ·rw[zbF,zbF,Heap.size_push,dB];exact Nat.le_succ _
 ·simp at hb;subst hb;rw[he] at eb;obtain rfl:=Option.some.inj eb;exact so
 ·have:b∉Φ.fr:=fun z=>(X.rel.frames b z).2.1 hb
  exact keep b o (fun z=>ne (z▸hb)) ((dl b this).trans eb)
 ·rw[Heap.get?_update_other _ _ hTe];exact he3
 ·simp
theorem zew {Q:Shared→Prop}(ok:OkA Φ d A)(X:St pg w K Φ env sc O σ H ρ s)(F:Flying K ρ lo e cls s.heap)(B:zne lo env O)
  (h:∀h',LowKeep lo ρ s.heap h'→St pg w K Φ env sc O σ H ρ {s with heap:=h'} →Flying K ρ lo e cls h'→Q {s with heap:=h'}):
  wpAny (model pg w) A (noteFrame (.ref e) env) (fun _ s'=>wpAny (model pg w) A (setFlight (.ref e) none) (fun _ s''=>Q s'') E s') E s:=by
 obtain⟨t,le,ne,oe,vs,he,hc,hd,so,hv⟩:=F
 obtain⟨L,hf⟩:∃L,env.frame=some L:=by
  obtain⟨⟨_,_,_,l0,hl0,fo⟩,env',l,hl,_⟩:=ok
  rw[hl] at hl0;obtain rfl:=Option.some.inj hl0
  cases z:Φ.fr with
  | nil=>have:=fo.1;rw[z] at this;simp at this
  | cons L fr=>exact⟨L,by rw[X.env.frame,z];rfl⟩
 have fin:∀(cm:Shared) (ob:Obj) (ws:Array Value),cm= {s with heap:=cm.heap} →LowKeep lo ρ s.heap cm.heap→St pg w K Φ env sc O σ H ρ cm→cm.heap.get? e=some ob→ob.cls=cls→ob.data= .fields ws→1 < ws.size→Soft ob→s.heap.objs.size≤cm.heap.objs.size→lo≤s.heap.objs.size →
   ∀h' T' oT ts,Moves [e] cm.heap h' ρ ρ→(∀b∈ρ,∀o,cm.heap.get? b=some o→h'.get? b=some o)→cm.heap.objs.size≤T'→h'.get? e=some (ob.mapFields (·.setIfInBounds 1 (.ref T'))) →
   h'.get? T'=some oT→oT.cls= .type "traceback" →oT.data= .fields ts→ts[3]? =some .none→Q {cm with heap:=h'} :=by
  intro cm ob ws es lk X1 hob hoc hod hsz sob hz hlo h' T' oT ts m hρ hT he' hT' hTc hTd h3;rw[es];have st:=X1.off (tk:=cm.toks) m hρ B t (fun a ha=>by simp at ha;subst ha;exact⟨le,ob,ws,hob,hod⟩);rw[es] at st;refine h h' (lk.trans (LowKeep.of m fun a ha=>by simp at ha;subst ha;exact le)) st ⟨t,le,ne,_,_,he',(Obj.cls_mapFields _ _).trans hoc,Obj.data_mapFields hod _,?_,.inr ⟨T',oT,ts,by simp[hsz],Nat.le_trans hlo (Nat.le_trans hz hT),fun z=> ?_,hT',hTc,hTd,h3,fun z=> ?_⟩⟩
  ·rcases sob with ⟨_,_,q⟩ | ⟨_,q⟩ | ⟨n,hn,q⟩ | ⟨C,ws',q,_⟩
   ·rw[hod] at q;cases q
   ·rw[hod] at q;cases q
   ·exact .inr (.inr (.inl ⟨n,hn,(Obj.cls_mapFields _ _).trans q⟩))
   ·exact .inr (.inr (.inr ⟨C,_,(Obj.cls_mapFields _ _).trans q,Obj.data_mapFields hod _⟩))
  ·exact absurd (X1.rel.live _ z) (Nat.not_lt.mpr hT)
  ·subst z;exact absurd (Heap.lt_size hob) (Nat.not_lt.mpr hT)
 have hlo:lo≤s.heap.objs.size:=Nat.le_trans le (Nat.le_of_lt (Heap.lt_size he));unfold noteFrame;simp only[hf]
 rcases hv with h1 | ⟨T,oT,ts,h1,lT,nT,hT,hTc,hdT,h3,hTe⟩
 ·have hsz:1 < vs.size:=(Array.getElem?_eq_some_iff.mp h1).1
  refine wpAny_bind (wpAny_field he hd h1 ?_);rw[if_neg (by decide)];exact zfB ok X hf he hd hsz ne so (fin s oe vs rfl (LowKeep.of (Moves.refl (O:= []) (by exact zad)) (by exact zad)) X he hc hd hsz so (Nat.le_refl _) hlo)
 ·have hsz:1 < vs.size:=(Array.getElem?_eq_some_iff.mp h1).1
  have hsz3:3 < ts.size:=(Array.getElem?_eq_some_iff.mp h3).1;refine wpAny_bind (wpAny_field he hd h1 ?_);rw[if_pos (show(Value.ref T !=Value.none)=true from by rfl)];refine wpAny_bind (wpAny_field hT hdT h3 ?_);rw[if_neg (show ¬ ((Value.none==rawInt L)=true) from by simp[rawInt])];refine wpAny_bind (wpAny_setField hT hdT hsz3 ?_);have hs:=Heap.SameBut.update s.heap T (Obj.mapFields (·.setIfInBounds 3 Value.none))
  have m:Moves [T] s.heap (s.heap.update T (Obj.mapFields (·.setIfInBounds 3 Value.none))) ρ ρ:=Moves.but hs (.inr (by exact List.mem_cons_self)) (fun b hb o eb=>by
   simp at hb;subst hb;rw[hT] at eb;obtain rfl:=Option.some.inj eb;exact .inr (.inr (.inl ⟨"traceback",by decide,hTc⟩)))
  have X1:=X.off (tk:=s.toks) m (fun b hb o eb=>(hs.2 b fun z=>nT (z▸hb)).trans eb) B t (fun a ha=>by simp at ha;subst ha;exact⟨lT,oT,ts,hT,hdT⟩);have he1:(s.heap.update T (Obj.mapFields (·.setIfInBounds 3 Value.none))).get? e=some oe:=(hs.2 e (Ne.symm hTe)).trans he;exact zfB ok X1 hf he1 hd hsz ne so (fin _ oe vs rfl (LowKeep.of m fun a ha=>by simp at ha;subst ha;exact lT) X1 he1 hc hd hsz so (Nat.le_of_eq hs.1.symm) hlo)
theorem zh9 {Q:Unit→Shared→Prop}(X:St pg w K Φ env sc O σ H ρ s)(F:Flying K ρ lo e cls s.heap)(B:zne lo env O)
  (h:∀h',LowKeep lo ρ s.heap h'→St pg w K Φ env sc O σ H ρ {s with heap:=h'} →Q () {s with heap:=h'}):wpAny (model pg w) A (setFlight (.ref e) none) Q E s:=by
 obtain⟨t,le,ne,oe,vs,he,hc,hd,so,hv⟩:=F;unfold setFlight
 rcases hv with h1 | ⟨T,oT,ts,h1,lT,nT,hT,hTc,hdT,h3,hTe⟩
 ·refine wpAny_bind (wpAny_field he hd h1 ?_)
  rw[if_neg (by decide)];exact wpAny_pure (h s.heap (LowKeep.of (Moves.refl (O:= []) (by exact zad)) (by exact zad)) X)
 ·have hsz3:3 < ts.size:=(Array.getElem?_eq_some_iff.mp h3).1
  refine wpAny_bind (wpAny_field he hd h1 ?_);rw[if_pos (show(Value.ref T !=Value.none)=true from by rfl)];have hs:=Heap.SameBut.update s.heap T (Obj.mapFields (·.setIfInBounds 3 ((none:Option Addr).elim Value.none fun f=>rawInt f)))
  have m:Moves [T] s.heap (s.heap.update T (Obj.mapFields (·.setIfInBounds 3 ((none:Option Addr).elim Value.none fun f=>rawInt f)))) ρ ρ:=Moves.but hs (.inr (by exact List.mem_cons_self)) (fun b hb o eb=>by
   simp at hb;subst hb;rw[hT] at eb;obtain rfl:=Option.some.inj eb;exact .inr (.inr (.inl ⟨"traceback",by decide,hTc⟩)))
  refine wpAny_setField hT hdT hsz3 (h _ (LowKeep.of m fun a ha=>by simp at ha;subst ha;exact lT) (X.off (tk:=s.toks) m (fun b hb o eb=>(hs.2 b fun z=>nT (z▸hb)).trans eb) B t (fun a ha=>by simp at ha;subst ha;exact⟨lT,oT,ts,hT,hdT⟩)))
end
end Mine
section
namespace Mine
variable {pg:Program}{w:World}{K:Frag}{Φ:Fm}{d:Nat}{sc:Scope}{σ σ' σ1 cp σ3 σc:List (Str×AV)}{H H' cn cq cy c5:List Cell}{v v1 v2 x y z:AV}{A:Around}{s s':Shared}
 {env:Env} {O P ρ ρ':List Addr} {E:Value→Shared→Prop} {cz cG l r o:Expr} {pos:Pos} {b cI cK:Bool} {xs ys:List AV} {C:Addr} {name:Str} {i j dd dep:Nat} {es:List (Str×AV)} {nd np su:Option AV}
 {e:Addr} {cls:Value} {lo:Nat} {f:AFlow}
noncomputable def Fm.held (Φ:Fm):Fm:=⟨Φ.fr,false⟩
theorem Rel.held {h:Heap}(R:Rel pg w K Φ ρ H h):Rel pg w K Φ.held ρ H h:=⟨R.top,R.len,R.nd,R.cell,R.apart,R.live,R.low,R.big,R.frames⟩
theorem Rel.unheld {h:Heap}(R:Rel pg w K Φ.held ρ H h):Rel pg w K Φ ρ H h:=⟨R.top,R.len,R.nd,R.cell,R.apart,R.live,R.low,R.big,R.frames⟩
theorem EnvR.held {h:Heap}(x:EnvR K Φ env sc O σ ρ h):EnvR K Φ.held env sc O σ ρ h:=⟨x.fn,x.gl,x.bl,x.glob,x.loc,x.cel,x.fre,x.ns,x.cells,x.apart,x.locO,x.off,x.soft,x.cellOff,x.cellLive,x.frame⟩
theorem EnvR.unheld {h:Heap}(x:EnvR K Φ.held env sc O σ ρ h):EnvR K Φ env sc O σ ρ h:=⟨x.fn,x.gl,x.bl,x.glob,x.loc,x.cel,x.fre,x.ns,x.cells,x.apart,x.locO,x.off,x.soft,x.cellOff,x.cellLive,x.frame⟩
theorem St.held (X:St pg w K Φ env sc O σ H ρ s):St pg w K Φ.held env sc O σ H ρ s:=⟨X.rel.held,X.env.held,X.gens⟩
theorem St.unheld (X:St pg w K Φ.held env sc O σ H ρ s):St pg w K Φ env sc O σ H ρ s:=⟨X.rel.unheld,X.env.unheld,X.gens⟩
theorem OkA.held (ok:OkA Φ d A){x:Value} :OkA Φ.held d (A.mark (some x)):=by
 obtain⟨⟨h,dp,u,l,fr,fo⟩,env',l',hl,g⟩:=ok;exact⟨⟨(by intro z;exact ftE z),dp,u,l,fr,fo⟩,env',l',hl,g⟩
theorem Flying.moves {h h':Heap}(F:Flying K ρ lo e cls h)(m:Moves O h h' ρ ρ')(hO:∀a∈O,a < lo):Flying K ρ' lo e cls h':=by
 obtain⟨t,le,ne,oe,vs,he,hc,hd,so,hv⟩:=F
 have kp:∀a oa ws,lo≤a→a∉ρ→h.get? a=some oa→oa.data= .fields ws→h'.get? a=some oa∧a∉ρ':=fun a oa ws la na ea da=>by
  obtain⟨o',e',l⟩:=m.keep a oa ea na fun z=>absurd (hO a z) (Nat.not_lt.mpr la)
  refine⟨?_,m.ext.not_mem ea na⟩
  rcases l with rfl | ⟨_,⟨es,ep,q⟩,_⟩
  ·exact e'
  ·rw[da] at q;cases q
 obtain⟨e1,n1⟩:=kp e oe vs le ne he hd;refine⟨t,le,n1,oe,vs,e1,hc,hd,so,?_⟩
 rcases hv with h1 | ⟨T,oT,ts,h1,lT,nT,hT,hTc,hdT,h3,hTe⟩
 ·exact .inl h1
 ·obtain⟨e2,n2⟩:=kp T oT ts lT nT hT hdT
  exact .inr ⟨T,oT,ts,h1,lT,n2,e2,hTc,hdT,h3,hTe⟩
section
variable (pg:Program)(w:World)(K:Frag)(Φ:Fm)
noncomputable def RX (env:Env)(sc:Scope)(O:List Addr)(s:Shared)(ρ:List Addr)(σ':List (Str×AV))(H':List Cell)(cls:Value):Value→Shared→Prop:=fun x s'=>
 ∃e ρ',x= .ref e∧Moves O s.heap s'.heap ρ ρ'∧St pg w K Φ env sc O σ' H' ρ' s'∧Flying K ρ' s.heap.objs.size e cls s'.heap∧s'.os=s.os
structure SEx (d:Nat)(sc:Scope)(c:Expr)(σ:List (Str×AV))(H:List Cell)(cls:Value)(σ':List (Str×AV))(H':List Cell):Prop where
 go:∀env O ρ s A,OkA Φ d A→St pg w K Φ env sc O σ H ρ s→wpAny (model pg w) A (eval c env) (fun _ _=>False) (RX pg w K Φ env sc O s ρ σ' H' cls) s
structure SSx (d:Nat)(sc:Scope)(c:Stmt)(σ:List (Str×AV))(H:List Cell)(cls:Value)(σ':List (Str×AV))(H':List Cell):Prop where
 go:∀env O ρ s A,OkA Φ d A→St pg w K Φ env sc O σ H ρ s→wpAny (model pg w) A (exec c env) (fun _ _=>False) (RX pg w K Φ env sc O s ρ σ' H' cls) s
structure SSsx (d:Nat)(sc:Scope)(cs:List Stmt)(σ:List (Str×AV))(H:List Cell)(cls:Value)(σ':List (Str×AV))(H':List Cell):Prop where
 go:∀env O ρ s A,OkA Φ d A→St pg w K Φ env sc O σ H ρ s→wpAny (model pg w) A (execs cs env) (fun _ _=>False) (RX pg w K Φ env sc O s ρ σ' H' cls) s
noncomputable def zma (cls:Value)(T:Value):Prop:=∀(A:Around) (s:Shared) (e:Addr) (Q:Bool→Shared→Prop) (E:Value→Shared→Prop),K.In s.heap→(∃oe,s.heap.get? e=some oe∧oe.cls=cls)→Q true s→wpAny (model pg w) A (excMatches (.ref e) T) Q E s
end
theorem RX.then {cm:Shared}(m:Moves O s.heap cm.heap ρ ρ')(o:cm.os=s.os)(t:za2 < s.heap.objs.size){x:Value}(h:RX pg w K Φ env sc O cm ρ' σ' H' cls x s'):RX pg w K Φ env sc O s ρ σ' H' cls x s':=by
 obtain⟨e,ρ2,rfl,m',X,F,o'⟩:=h;refine⟨e,ρ2,rfl,m.trans m',X,?_,o'.trans o⟩;obtain⟨_,le,ne,oe,vs,he,hc,hd,so,hv⟩:=F;refine⟨t,Nat.le_trans m.size le,ne,oe,vs,he,hc,hd,so,?_⟩
 rcases hv with h1 | ⟨T,oT,ts,h1,lT,r⟩
 ·exact .inl h1
 ·exact .inr ⟨T,oT,ts,h1,Nat.le_trans m.size lT,r⟩
theorem SSsx.first {c:Stmt}{cs:List Stmt}(a:SSx pg w K Φ d sc c σ H cls σ1 cn):SSsx pg w K Φ d sc (c::cs) σ H cls σ1 cn:=.mk fun env O ρ s A ok X=>by
 refine wpAny_execs_cons (wpAny_mono (a.1 env O ρ s A ok X) (fun _ _ z=>z.elim) fun _ _ z=>z)
theorem SSsx.cons {c:Stmt}{cs:List Stmt}(a:SS pg w K Φ d sc c σ H .next σ1 cn)(b:SSsx pg w K Φ d sc cs σ1 cn cls cp cq):SSsx pg w K Φ d sc (c::cs) σ H cls cp cq:=.mk fun env O ρ s A ok X=>by
 refine wpAny_execs_cons (a.into ok X fun f cm ρ1 m X1 q o=> ?_)
 have:=q.next;subst this
 exact wpAny_mono (b.1 env O ρ1 cm A ok X1) (fun _ _ z=>z.elim) fun _ _ z=>z.then m o X.rel.big
theorem SS.tryX {body orelse suite:List Stmt}{cQ:Stmt}{t:Expr}{cL:Pos}{T:Value}{f:AFlow}(a:SSsx pg w K Φ d sc body σ H cls σ1 cn)(ht:SE pg w K Φ.held d sc t σ1 cn (.cst T) σ1 cn)(hm:zma pg w K cls T)
  (c:SSs pg w K Φ.held d sc (cQ::suite) σ1 cn f cp cq):SS pg w K Φ d sc (.Try body [.ExceptHandler (some t) Option.none (cQ::suite) cL] orelse [] pos) σ H f cp cq:=.mk fun env O ρ s A ok X=>by
 refine wpAny_Try_except (wpAny_mono (a.1 env O ρ s A ok X) (fun _ _ z=>z.elim) fun x cm hx=> ?_);obtain⟨e,ρ1,rfl,m,X1,F,o⟩:=hx;have B:=X.below
 refine wpAny_mono (zew (E:=fun _ _=>False) (Q:=fun cA=>wpAny (model pg w) A (handleBy (.ref e) env [.ExceptHandler (some t) none (cQ::suite) cL]) _ (fun _ _=>False) cA) ok X1 F B fun h' lk X2 F2=> ?_) (fun _ _ z=>z) fun _ _ z=>z.elim
 refine wpAny_handleBy_cons (codeAny_handlers_test ?_) (by intro q;cases q)
 refine zac (ht.1 env O ρ1 _ (A.mark (some (.ref e))) ok.held X2.held) fun c' cA ⟨ρ3,m3,X3,cS,cJ⟩=> ?_
 cases cS;have F3:=F2.moves m3 B.1;have F3':=F3;obtain⟨_,_,_,oe,vs,he,hc,_⟩:=F3';refine hm _ _ _ _ _ X3.rel.top ⟨oe,he,hc⟩ (codeAny_handlers_suite (zh9 X3 F3 B fun dP lk4 X4=> ?_))
 refine zac (c.1 env O ρ3 _ (A.mark (some (.ref e))) ok.held X4) fun f' d3 ⟨ρ5,m5,X5,q5,o5⟩=> ?_
 have sz:s.heap.objs.size≤s.heap.objs.size:=Nat.le_refl _;exact⟨ρ5,(((m.low sz lk).trans m3).low sz lk4).trans m5,X5.unheld,q5,((o5.trans cJ).trans o)⟩
theorem SS.bQ {body orelse:List Stmt}{cH:ExceptHandler}{hs:List ExceptHandler}(a:SSs pg w K Φ d sc body σ H .next σ1 cn)(c:SSs pg w K Φ d sc orelse σ1 cn f cp cq):SS pg w K Φ d sc (.Try body (cH::hs) orelse [] pos) σ H f cp cq:=.mk fun env O ρ s A ok X=>by
 refine wpAny_Try_except (a.into ok X fun f' cm ρ1 m X1 q o=> ?_)
 have:=q.next;subst this
 exact c.into ok X1 fun f' ct ρ2 cu X2 cx cw=>⟨ρ2,m.trans cu,X2,cx,cw.trans o⟩
theorem SS.bX {body orelse:List Stmt}{cH:ExceptHandler}{hs:List ExceptHandler}(a:SSs pg w K Φ d sc body σ H .brk σ1 cn):SS pg w K Φ d sc (.Try body (cH::hs) orelse [] pos) σ H .brk σ1 cn:=.mk fun env O ρ s A ok X=>by
 refine wpAny_Try_except (a.into ok X fun f' cm ρ1 m X1 q o=> ?_)
 cases f'<;>first | cases q;done | exact⟨ρ1,m,X1,q,o⟩
end Mine
end
namespace Mine
section
variable {pg:Program}{w:World}{K:Frag}{Φ:Fm}{d:Nat}{sc:Scope}{σ σ' σ1 cp σ3 σc:List (Str×AV)}{H H' cn cq cy c5:List Cell}{v v1 v2 x y z:AV}{A:Around}{s s':Shared}
 {env:Env} {O P ρ ρ':List Addr} {E:Value→Shared→Prop} {cz cG l r o:Expr} {pos:Pos} {b cI cK:Bool} {xs ys:List AV} {C:Addr} {name:Str} {i j dd dep:Nat} {es:List (Str×AV)} {nd np su:Option AV}
 {e:Addr} {cls:Value} {lo:Nat} {f:AFlow}
theorem zg0 {it l:Addr}{k:Nat}{items:Array Value}{x:Value}{Q:Fin→Shared→Prop}(hit:s.heap.IsListIter it l k)
  (hl:s.heap.IsList l items) (hx:items[k]? =some x) (hQ:∀h',h'.IsListIter it l (k+1)→Heap.SameBut it s.heap h'→Q (.done (.ret x)) {s with heap:=h'}):
  wpAny (model pg w) A (Builtin.«list_iterator.__next__» ⟨[.ref it],[]⟩) Q E s:=by
 obtain⟨o,ho,hc,hd⟩:=id hit;obtain⟨ol,hol,_,nl,hdl⟩:=hl;show wpAny _ _ (field (.ref it) 0 >>= _) _ _ s;refine wpAny_bind (wpAny_field ho hd (x:=.ref l) rfl ?_);show wpAny _ _ (if (Value.ref l==Value.none)=true then _ else _) _ _ s;rw[if_neg (show ¬ ((Value.ref l==Value.none)=true) from Bool.false_ne_true)];show wpAny _ _ (field (.ref it) 1 >>= _) _ _ s;refine wpAny_bind (wpAny_field ho hd (x:=.int k 0) rfl ?_);show wpAny _ _ (seqItems? (.ref l) >>= _) _ _ s;refine wpAny_bind (wpAny_seqItems hol hdl ?_);simp only[Int.toNat_natCast,hx];refine wpAny_bind (wpAny_setField ho hd (by exact Nat.le_refl _) (wpAny_pure (hQ _ ?_ (Heap.SameBut.update ..))))
 exact⟨_,Heap.get?_update_self _ ho (Obj.isFreed_of_fields (Obj.data_mapFields hd _)),(Obj.cls_mapFields ..).trans hc,by
  rw[Obj.data_mapFields hd];simp[rawInt]⟩
theorem zh8 {it l:Addr}{k:Nat}{items:Array Value}{Q:Fin→Shared→Prop}(hh:A.handled=none)(hit:s.heap.IsListIter it l k)
  (hl:s.heap.IsList l items) (hx:items[k]? =none)
  (hE:∀h' e vs,Heap.ExtBut it s.heap h'→s.heap.objs.size≤e→h'.get? e=some {cls:=.type "StopIteration",data:=.fields vs} →vs[1]? =some .none→s.heap.objs.size≤h'.objs.size→E (.ref e) {s with heap:=h'}):
  wpAny (model pg w) A (Builtin.«list_iterator.__next__» ⟨[.ref it],[]⟩) Q E s:=by
 obtain⟨o,ho,hc,hd⟩:=id hit;obtain⟨ol,hol,_,nl,hdl⟩:=hl;show wpAny _ _ (field (.ref it) 0 >>= _) _ _ s;refine wpAny_bind (wpAny_field ho hd (x:=.ref l) rfl ?_);show wpAny _ _ (if (Value.ref l==Value.none)=true then _ else _) _ _ s;rw[if_neg (show ¬ ((Value.ref l==Value.none)=true) from Bool.false_ne_true)];show wpAny _ _ (field (.ref it) 1 >>= _) _ _ s;refine wpAny_bind (wpAny_field ho hd (x:=.int k 0) rfl ?_);show wpAny _ _ (seqItems? (.ref l) >>= _) _ _ s;refine wpAny_bind (wpAny_seqItems hol hdl ?_);simp only[Int.toNat_natCast,hx];refine wpAny_bind (wpAny_rule (wpAny_bind (wpAny_setField ho hd (by exact Nat.le_add_right _ _) ?_)));show wpAny _ _ (newExc (.type "StopIteration") [] >>= _) _ _ _;refine wpAny_bind ?_;simp only[newExc,newTuple];refine wpAny_bind (wpAny_newObj_type ?_ (by size_fits));refine wpAny_bind (m:=firstArgMember _ _) (wpAny_of_eq (a:=Value.none) (by first | rfl | (simp only[firstArgMember];rfl)) ?_);refine wpAny_newObj_type ?_ (by size_fits)
 delta raiseNew
 refine wpAny_bind (wpAny_handled ?_);rw[hh];refine wpAny_bind (wpAny_pure (wpAny_throw ?_));have hs:=Heap.SameBut.update s.heap it (Obj.mapFields (·.setIfInBounds 0 Value.none));refine hE _ _ _ ((hs.extBut.push _).push _) ?_ (Heap.get?_push_size _ rfl) rfl ?_
 ·rw[Heap.size_push,zbF];exact Nat.le_succ _
 ·rw[Heap.size_push,Heap.size_push,zbF];lia
theorem zg2 {a b:Addr}{Q:Keeper→Shared→Prop}(hb:s.heap.get? b=some (zeB a))(h:Q .machine s):wpAny (model pg w) A (keeperOf (.ref b)) Q E s:=by
 unfold keeperOf;exact wpAny_bind (wpAny_load hb (wpAny_pure h))
theorem SE.callNxt {fn:Expr}{k:Nat}(a:SE pg w K Φ d sc fn σ H (.nxt i) σ1 cn)(q:cn[i]? =some (.iter x k))(L:LH cn x xs)(hv:xs[k]? =some v)
  (hr:∀env,eval (.Call fn [] [] pos) env=(eval fn env >>= fun f=>callWith pos f [] [] []):=by intro _;rfl):SE pg w K Φ d sc (.Call fn [] [] pos) σ H v σ1 (cn.set i (.iter x (k+1))):=.mk fun env O ρ s A ok X=>by
 rw[hr];refine wpAny_bind (a.into ok X fun u cm ρ1 m X1 cv o=> ?_)
 refine VR.nxtE cv fun _ _ fi hb nb=> ?_
 refine zbp (PySem.evalArgs_none ⟨⟨.machine,fun Q' hQ=>zg2 hb hQ⟩,?_⟩)
 refine CellAt.al (X1.rel.cell _ _ _ q fi) fun _ p hit=> ?_
 obtain⟨c,vs,ec,hl,qs⟩:=L.at X1.rel p
 (injection ec with ec;subst ec)
 obtain⟨u,eu,qu⟩:=qs.get hv;refine wpAny_call (zlY hb (codeAny_builtin entry_listiter_next (zg0 hit hl (by simpa using eu) fun h' hit' hs=> ?_)));exact((zfo X1.rel X1.gens fi hs (fun m=>.iter (p.moves m) hit') qu).inFrame X1).then m o
theorem SEx.callNxt (hc:Φ.calm=Bool.true){fn:Expr}{k:Nat}(a:SE pg w K Φ d sc fn σ H (.nxt i) σ1 cn)(q:cn[i]? =some (.iter x k))(L:LH cn x xs)(hv:xs[k]? =none)
  (hr:∀env,eval (.Call fn [] [] pos) env=(eval fn env >>= fun f=>callWith pos f [] [] []):=by intro _;rfl):SEx pg w K Φ d sc (.Call fn [] [] pos) σ H (.type "StopIteration") σ1 (cn.set i .junk):=.mk fun env O ρ s A ok X=>by
 rw[hr];refine wpAny_bind (a.into ok X fun u cm ρ1 m X1 cv o=> ?_)
 refine VR.nxtE cv fun _ _ fi hb nb=> ?_
 refine zbp (PySem.evalArgs_none ⟨⟨.machine,fun Q' hQ=>zg2 hb hQ⟩,?_⟩)
 refine CellAt.al (X1.rel.cell _ _ _ q fi) fun _ p hit=> ?_
 obtain⟨c,vs,ec,hl,qs⟩:=L.at X1.rel p
 (injection ec with ec;subst ec)
 have hn:vs.toArray[k]? =none:=by have:=qs.length;simp at hv ⊢;lia
 refine wpAny_call (zlY hb (codeAny_builtin entry_listiter_next (zh8 (ok.handled hc) hit hl hn fun h' e ws he le hg h1 hz=> ?_)))
 obtain⟨R',m'⟩:=X1.rel.turn fi he hz (c:=.junk) fun _=>.junk
 have ne:e∉ρ1:=fun z=>absurd (X1.rel.live _ z) (Nat.not_lt.mpr le)
 exact RX.then m o X.rel.big ⟨e,ρ1,rfl,m'.wider (by exact zad) X1.env.softs,⟨R',X1.env.moves m',X1.gens⟩,⟨X1.rel.big,le,ne,_,ws,hg,rfl,rfl,.inr (.inr (.inl ⟨"StopIteration",by decide,rfl⟩)),.inl h1⟩,rfl⟩
theorem SSx.assign {t:Expr}{c:Expr}(hn:zjm c)(a:SEx pg w K Φ d sc c σ H cls σ1 cn)(hw:∀env,swappedStores [t] c env=pure .none:=by intro _;rfl):SSx pg w K Φ d sc (.Assign [t] c pos) σ H cls σ1 cn:=.mk fun env O ρ s A ok X=>
 wpAny_Assign_stores (wpAny_mono (a.1 env O ρ s A ok X) (fun _ _ z=>z.elim) fun _ _ z=>z) (hn ..) (hw env)
theorem SSx.expr {c:Expr}(hn:zjm c)(a:SEx pg w K Φ d sc c σ H cls σ1 cn):SSx pg w K Φ d sc (.Expr c pos) σ H cls σ1 cn:=.mk fun env O ρ s A ok X=>
 wpAny_Expr_any (wpAny_mono (a.1 env O ρ s A ok X) (fun _ _ z=>z.elim) fun _ _ z=>z) (zco X.env) (hn ..)
noncomputable def RC (pg:Program)(w:World)(K:Frag)(Φ:Fm)(s:Shared)(ρ:List Addr)(H':List Cell)(cls:Value):Value→Shared→Prop:=fun x s'=>
 ∃e ρ',x= .ref e∧Moves [] s.heap s'.heap ρ ρ'∧Rel pg w K Φ ρ' H' s'.heap∧s'.gens= #[]∧Flying K ρ' s.heap.objs.size e cls s'.heap∧s'.os=s.os
noncomputable def SCcx (pg:Program)(w:World)(K:Frag)(Φ:Fm)(d:Nat)(f:Value)(xs:List AV)(H:List Cell)(cls:Value)(H':List Cell):Prop:=
 ∀ρ s A vs,OkC Φ d A→Rel pg w K Φ ρ H s.heap→s.gens= #[]→VRs s.heap ρ xs vs→codeAny (model pg w) A (.call f ⟨vs,[]⟩) (fun r s'=>match r with | .error x=>RC pg w K Φ s ρ H' cls x s' | .ok _=>False) s
noncomputable def SCx (pg:Program)(w:World)(K:Frag)(Φ:Fm)(d:Nat)(f:Value)(xs:List AV)(H:List Cell)(cls:Value)(H':List Cell):Prop:=
 ∀ρ s A vs,OkA Φ d A→Rel pg w K Φ ρ H s.heap→s.gens= #[]→VRs s.heap ρ xs vs→wpAny (model pg w) A (call f vs) (fun _ _=>False) (RC pg w K Φ s ρ H' cls) s
theorem SCcx.sem {f:Value}(h:SCcx pg w K Φ d f xs H cls H'):SCx pg w K Φ d f xs H cls H':=fun ρ s A vs ok R g q=>
 wpAny_call (codeAny_mono (h ρ s A vs ok.1 R g q) fun r s' z=>by rcases r with e | (v | _ | _ | _)<;>first | exact z | exact z.elim)
theorem RC.inFrame (X:St pg w K Φ env sc O σ H ρ s){x:Value}(h:RC pg w K Φ s ρ H' cls x s'):RX pg w K Φ env sc O s ρ σ H' cls x s':=by
 obtain⟨e,ρ',rfl,m,R,g,F,o⟩:=h;exact⟨e,ρ',rfl,m.wider (by exact zad) X.env.softs,⟨R,X.env.moves m,g⟩,F,o⟩
theorem SCcx.gen {g cQ:Str→Option Value}{fd:FuncData}{body:List Stmt}{a:Addr}{ns:List Str}{ds:List AV}{dv:List Value}(T:TopOk K g cQ)(F:FnOk K a fd body)
  (hb:∀(s:Shared) (vs:List Value),K.In s.heap→vs.length=xs.length→BindsTo s fd ⟨vs,[]⟩ (ns.zip (vs++dv))) (hds:∀h ρ,VRs h ρ ds dv) (hnd:ns.Nodup)
  (hl:∀x∈ns,fd.scope.names.lookup x=some .local∨fd.scope.names.lookup x=some .cell) (hx:(xs++ds).length=ns.length)
  (hB:∀L,SSsx pg w K (Φ.deeper L) d fd.scope body (ns.zip (xs++ds)) H cls σ' H'):SCcx pg w K Φ (d+1) (.ref a) xs H cls H':=fun ρ s A vs ok R hg q=>by
 refine zi6 T F hb hds hnd hl hx ok R hg q fun env O' cH tk ok' X cM dead=> ?_
 refine codeAny_func (wpAny_mono ((hB s.heap.objs.size).1 env _ ρ _ _ ok' X) (fun _ _ z=>z.elim) fun x ct hx2=> ?_);obtain⟨e,ρ2,rfl,cu,X2,F2,cw⟩:=hx2;have B:=X.below;unfold leaving;refine wpAny_bind (wpAny_mono (zew (E:=fun _ _=>False) (Q:=fun cA=>RC pg w K Φ s ρ H' cls (.ref e) cA) ok' X2 F2 B fun h' lk X3 F3=> ?_) (fun _ _ z=>wpAny_mono z (fun _ _ z=>z) fun _ _ z=>z.elim) fun _ _ z=>z.elim);have m2':Moves [] s.heap h' ρ ρ2:=(cM.trans (cu.low (Nat.le_refl _) lk)).narrow (fun b hb=>.inr (dead b hb)) (by exact zad);refine⟨e,ρ2,rfl,m2',X3.rel.back,X3.gens,?_,cw⟩;obtain⟨_,le,ne,oe,vs',he,hc,hd,so,hv⟩:=F3;refine⟨R.big,Nat.le_trans cM.size le,ne,oe,vs',he,hc,hd,so,?_⟩
 rcases hv with h1 | ⟨T,oT,ts,h1,lT,r⟩
 ·exact .inl h1
 ·exact .inr ⟨T,oT,ts,h1,Nat.le_trans cM.size lT,r⟩
noncomputable def vmro:List Value:= [.type "ValueError",.type "Exception",.type "BaseException",.type "object"]
inductive ExcCls (K:Frag)(C:Addr):Prop
 | mk (nm q:Str) (N:Addr) (bs:List Value) (hdct:Bool) (sn sub ab col dd k0 k1 k2 k3 k5 mN) (hK:K.lookup C=some (excClassObj nm q C N bs vmro hdct sn sub ab col dd k0 k1 k2 k3 k5 "ValueError.__new__")) (hN:∀h:Heap,K.In h→h.Ns N mN) (hi:mN "__init__" =none)
theorem SSx.bp (hc:Φ.calm=Bool.true)(EC:ExcCls K C){n:Str}{p cL:Pos}{ex:List Expr}{vs:List AV}(hn:SE pg w K Φ d sc (.Name n p) σ H (.cst (.ref C)) σ H)(ha:SG pg w K Φ d sc ex σ H vs σ1 cn)(hz:vs.length≤sizeLine):
  SSx pg w K Φ d sc (.Raise (some (.Call (.Name n p) ex [] cL)) none pos) σ H (.ref C) σ1 cn:=.mk fun env O ρ s A ok X=>by
 obtain⟨nm,q,N,bs,hdct,sn,sub,ab,col,dd,k0,k1,k2,k3,k5,mN,hK,hN,hi⟩:=EC;rw[arm_exec_Raise];refine wpAny_bind (wpAny_standAt ?_);show wpAny _ _ (raiseStmt env (some (do let v←eval (.Call (.Name n p) ex [] cL) env;standAt pos;pure v)) none) _ _ _;refine wpAny_raiseStmt_made_sub (C:=C) (nm:=nm) (q:=q) (N:=N) (bs:=bs) (hdct:=hdct) (sn:=sn) (sub:=sub) (ab:=ab) (col:=col) (dd:=dd) (k0:=k0) (k1:=k1) (k2:=k2) (k3:=k3) (k5:=k5) (newId:= "ValueError.__new__") F.excBase_ValueError.hasBase (ok.handled hc) (wpAny_bind (Call_Name rfl (hn.into ok X fun f' cm ρ1 m X1 cv o=> ?_)));cases cv;refine zbp (ha.into cL (.ref C) ok X1 fun a ct hk ρ2 cu X2 cx cw=> ?_);have hC:=X2.rel.top _ _ hK;have hNs:=hN _ X2.rel.top;have dm:=X2.gens;refine⟨⟨.machine,fun Q' hQ=>by obtain⟨h,g,dr,t,os⟩:=ct;exact wpAny_keeperOf_exc hC hQ⟩,?_⟩;rw[hk,List.nil_append];refine zcO ?_
 have hlen:a.pos.length≤sizeLine:=by rw[←cx.length];exact hz
 obtain⟨cF,gg,dr,t,os⟩:=ct
 refine wpAny_call_exc_sub (hrest:=hlen) F.excBase_ValueError hC hNs hi fun h' e hm gr=>wpAny_bind (wpAny_standAt (wpAny_pure ?_))
 obtain⟨tt,ht,tf,_⟩:=hm.there
 have le:cF.objs.size≤e:=by
  refine Nat.le_of_not_lt fun z=> ?_
  have:=gr.2 e z hm.new
  rw[show({heap:=h',gens:=gg,drawn:=dr,toks:=t,os:=os} :Shared).heap=h' from rfl,ht] at this;exact snE this
 have mv:Moves [] cF h' ρ2 ρ2:=Moves.grow hm.keeps gr.1 (by exact zad);have R':Rel pg w K Φ ρ2 cn h':=X2.rel.moves mv (fun b hb o ho=>hm.keeps b o ho) (by exact zad);refine⟨e,tt,rfl,hm.keeps _ _ hC,ht,?_⟩;refine RX.then m o X.rel.big (RX.then cu cw X1.rel.big ⟨e,ρ2,rfl,mv.wider (by exact zad) X2.env.softs,⟨R',X2.env.moves mv,dm⟩,⟨X2.rel.big,le,fun z=>absurd (X2.rel.live _ z) (Nat.not_lt.mpr le),_,_,ht,rfl,rfl,.inr (.inr (.inr ⟨_,_,rfl,rfl⟩)),.inl rfl⟩,rfl⟩)
theorem zjU:zma pg w K (.type "StopIteration") (.type "StopIteration"):=fun A s e Q E _ ⟨oe,he,hc⟩ h=>
 wpAny_excMatches_type (X:= "StopIteration") ⟨oe,he,hc⟩ (by rw[isSubtype_type];kernel_rfl) (by rw[isSubtype_type];kernel_rfl) (by rw[isSubtype_type];kernel_rfl) h
theorem zlh (EC:ExcCls K C):zma pg w K (.ref C) (.ref C):=fun A s e Q E hK ⟨oe,he,hc⟩ h=>by
 obtain⟨nm,q,N,bs,hdct,sn,sub,ab,col,dd,k0,k1,k2,k3,k5,mN,hK',hN,hi⟩:=EC;obtain⟨hp,g,d,t,os⟩:=s;exact wpAny_excMatches_sub_self (hK _ _ hK') he hc (by decide) h
theorem SEx.meth {o:Expr}{apos:Pos}{fn:Value}{ex:List Expr}{vs:List AV}(ho:SE pg w K Φ d sc o σ H x σ1 cn)(hg:GM pg w K Φ x name cn fn)(hf:Callee K fn)
  (ha:SG pg w K Φ d sc ex σ1 cn vs cp cq) (hc:SCx pg w K Φ d fn (x::vs) cq cls cy) (hline:(apos.endLine==pos.line)=Bool.true:=by rfl)
  (hbase:∀env,attributeBase o name env (eval o env)=eval o env:=by intro _;rfl)
  (hfew:∀env,methodCallForm (ex.length+([]:List Keyword).length) (backTo pos (starEach ex env)) (backToKw pos (keywordEach [] env))=Bool.true:=by intro _;rfl)
  (hp:zjl ex:=by intro _ _;rfl):SEx pg w K Φ d sc (.Call (.Attribute o name apos) ex [] pos) σ H cls cp cy:=.mk fun env O ρ s A ok X=>by
 rw[arm_eval_Call,hbase env];refine wpAny_bind (ho.into ok X fun a cm ρ1 m X1 q o'=> ?_);refine wpAny_bind (wpAny_standAt ?_)
 have hpos:methodCallPos true o env apos pos=pure pos:=by unfold methodCallPos;simp[hline]
 unfold methodCall;rw[hfew env];refine wpAny_bind (wpAny_holding (hg ρ1 cm _ a _ _ _ X1.rel q ?_));refine wpAny_bind (wpAny_of_eq hpos ?_);show wpAny _ _ (callWith pos fn [a] (backTo pos (starEach ex env)) []) _ _ _;refine zcs hf (.inl (hp pos env)) (ha.into pos fn ok X1 fun ar ct hk ρ2 cu X2 cx cw=>⟨X2.rel.top,?_⟩);rw[hk]
 exact wpAny_mono (hc ρ2 ct A _ ok X2.rel X2.gens (.cons (q.moves cu) cx)) (fun _ _ z=>z.elim) fun _ _ h=>RX.then m o' X.rel.big (RX.then cu cw X1.rel.big (h.inFrame X2))
theorem SIt.bt {p:Nat}(q:H[i]? =some (.iter x p)):SIt pg w K Φ d (.obj i) H i H:=fun ρ s A a ok R g u=>by
 refine VR.objE u fun _ f=> ?_
 refine CellAt.al (R.cell _ _ _ q f) fun _ p hit=> ?_;exact wpAny_pyIter_listiter hit (PO.here' R g (.obj f))
theorem SIt.be {p:Nat}(q:H[i]? =some (.titer xs p)):SIt pg w K Φ d (.obj i) H i H:=fun ρ s A a ok R g u=>by
 refine VR.objE u fun _ f=> ?_
 refine CellAt.aB (R.cell _ _ _ q f) fun _ p hit=> ?_;exact wpAny_pyIter_tupleiter hit (PO.here' R g (.obj f))
theorem SIt.bf {n p:Nat}(q:H[i]? =some (.riter n p)):SIt pg w K Φ d (.obj i) H i H:=fun ρ s A a ok R g u=>by
 refine VR.objE u fun _ f=> ?_
 refine CellAt.aD (R.cell _ _ _ q f) fun hp hit=> ?_;exact wpAny_pyIter_rangeiter hit (PO.here' R g (.obj f))
theorem SIt.bg {j n ep p:Nat}(q:H[i]? =some (.kiter j n ep p)):SIt pg w K Φ d (.obj i) H i H:=fun ρ s A a ok R g u=>by
 refine VR.objE u fun _ f=> ?_
 refine CellAt.aE (R.cell _ _ _ q f) fun _ hp hit=> ?_;exact wpAny_pyIter_keyiter hit (PO.here' R g (.obj f))
theorem SIt.bc {j n ep p:Nat}(q:H[i]? =some (.viter j n ep p)):SIt pg w K Φ d (.obj i) H i H:=fun ρ s A a ok R g u=>by
 refine VR.objE u fun _ f=> ?_
 refine CellAt.az (R.cell _ _ _ q f) fun _ hp hit=> ?_;exact wpAny_pyIter_valiter hit (PO.here' R g (.obj f))
theorem SIt.aQ {j p:Nat}(q:H[i]? =some (.enum j p)):SIt pg w K Φ d (.obj i) H i H:=fun ρ s A a ok R g u=>by
 refine VR.objE u fun _ f=> ?_
 refine CellAt.bb (R.cell _ _ _ q f) fun _ _ hp hit=> ?_;exact wpAny_pyIter_enum hit (PO.here' R g (.obj f))
theorem Rel.push2 {h h':Heap}{de cO:Cell}(R:Rel pg w K Φ ρ H h)(hk:∀b o,h.get? b=some o→h'.get? b=some o)(hz:h'.objs.size=h.objs.size+2)
  (hc:Moves [] h h' ρ (ρ++ [h.objs.size]++ [h.objs.size+1])→CellAt pg w h' (ρ++ [h.objs.size]++ [h.objs.size+1]) h.objs.size de∧CellAt pg w h' (ρ++ [h.objs.size]++ [h.objs.size+1]) (h.objs.size+1) cO):
  Rel pg w K Φ (ρ++ [h.objs.size]++ [h.objs.size+1]) (H++ [de]++ [cO]) h'∧Moves [] h h' ρ (ρ++ [h.objs.size]++ [h.objs.size+1]):=by
 have m:Moves [] h h' ρ (ρ++ [h.objs.size]++ [h.objs.size+1]):=⟨fun b o e _ _=>⟨o,hk b o e,.inl rfl⟩,by lia,⟨[h.objs.size,h.objs.size+1],by exact app2,by simp⟩,by exact zad⟩
 have lv:∀a∈ρ,a < h.objs.size:=R.live
 have kn:∀a,h.objs.size≤a→K.lookup a=none:=fun a ha=>by
  cases z:K.lookup a with
  | none=>rfl
  | some o'=>exact absurd (Heap.lt_size (R.top _ _ z)) (Nat.not_lt.mpr ha)
 refine⟨⟨R.topMoves m (by exact zad),by simp[R.len],?_,fun k c a hc' ha=> ?_,fun a ha=> ?_,fun a ha=> ?_,R.low,Nat.lt_of_lt_of_le R.big m.size,za4 R.frames m⟩,m⟩
 ·rw[List.append_assoc,List.nodup_append]
  refine⟨R.nd,by simp,fun a ha b hb=> ?_⟩;have h1: @LT.lt Nat _ a h.objs.size:=lv a ha;simp at hb
  rcases hb with rfl | rfl
  ·exact fun z=>absurd h1 (Nat.not_lt.mpr (Nat.le_of_eq z.symm))
  ·exact fun z=>absurd h1 (Nat.not_lt.mpr (Nat.le_trans (Nat.le_succ _) (Nat.le_of_eq z.symm)))
 ·obtain⟨h0,h1⟩:=hc m
  by_cases k0:k < ρ.length
  ·rw[List.append_assoc,List.getElem?_append_left k0] at ha
   rw[List.append_assoc,List.getElem?_append_left (by rw[←R.len];exact k0)] at hc'
   exact(R.cell k c a hc' ha).moves m fun o ho=>hk a o ho
  ·have hk':k=ρ.length∨k=ρ.length+1:=by
    have:=(List.getElem?_eq_some_iff.mp ha).1
    simp at this;lia
   have hl:=R.len
   rcases hk' with rfl | rfl
   ·rw[List.append_assoc,List.getElem?_append_right (Nat.le_refl _)] at ha
    rw[List.append_assoc,hl,List.getElem?_append_right (Nat.le_refl _)] at hc'
    simp at ha hc';subst ha hc';exact h0
   ·rw[List.append_assoc,List.getElem?_append_right (by lia)] at ha
    rw[List.append_assoc,hl,List.getElem?_append_right (by lia)] at hc'
    simp at ha hc';subst ha hc';exact h1
 ·rcases List.mem_append.mp ha with z | z
  ·rcases List.mem_append.mp z with z | z
   ·exact R.apart a z
   ·simp at z;subst z;exact kn _ (Nat.le_refl _)
  ·simp at z;subst z;exact kn _ (Nat.le_succ _)
 ·rcases List.mem_append.mp ha with z | z
  ·rcases List.mem_append.mp z with z | z
   ·rw[hz];exact Nat.lt_of_lt_of_le (lv a z) (Nat.le_add_right _ _)
   ·simp at z;subst z;rw[hz];exact Nat.lt_succ_of_lt (Nat.lt_succ_self _)
  ·simp at z;subst z;rw[hz];exact Nat.lt_succ_self _
theorem SC.bj (L:LH H x xs):SC pg w K Φ d (.type "enumerate") [x] H (.obj (H.length+1)) (H++ [.iter x 0]++ [.enum H.length 0]):=fun ρ s A vs ok R g p=>by
 refine VRs.oneE p fun _ p=> ?_
 obtain⟨c,vs,rfl,hl,cv⟩:=L.at R p
 refine call_enumerate_list hl fun h' he hi hz hk=> ?_
 have f0:(ρ++ [s.heap.objs.size]++ [s.heap.objs.size+1])[H.length]? =some s.heap.objs.size:=by rw[←R.len];simp
 obtain⟨R',mv⟩:=R.push2 (de:=.iter x 0) (cO:=.enum H.length 0) hk hz fun m=>⟨.iter (p.moves m) hi,.enum f0 he⟩
 exact⟨_,mv,R',g,.obj (by rw[←R.len];simp),rfl⟩
end
section
variable {pg:Program}{w:World}{K:Frag}{Φ:Fm}{d:Nat}{sc:Scope}{σ σ' σ1 cp σ3 σc:List (Str×AV)}{H H' cn cq cy c5:List Cell}{v v1 v2 x y z:AV}{A:Around}{s s':Shared}
 {env:Env} {O P ρ ρ':List Addr} {E:Value→Shared→Prop} {e cz cG l r o:Expr} {pos:Pos} {b cI cK:Bool} {xs ys:List AV} {C:Addr} {name:Str} {i j dd dep:Nat} {es:List (Str×AV)} {nd np su:Option AV}
 {cls:Value} {lo:Nat} {f:AFlow}
theorem Rel.turn2 {h h':Heap}{a b:Addr}{de cO:Cell}(R:Rel pg w K Φ ρ H h)(fa:ρ[i]? =some a)(fb:ρ[j]? =some b)(hij:i≠j)(hs:∀c o,c≠a→c≠b→h.get? c=some o→h'.get? c=some o)(hz:h.objs.size≤h'.objs.size)
  (hc:Moves [] h h' ρ ρ→CellAt pg w h' ρ a de∧CellAt pg w h' ρ b cO):Rel pg w K Φ ρ ((H.set j cO).set i de) h'∧Moves [] h h' ρ ρ:=by
 have ma:=zbC fa;have mb:=zbC fb;have m:Moves [] h h' ρ ρ:=⟨fun c o e n _=>⟨o,hs c o (fun z=>n (z▸ma)) (fun z=>n (z▸mb)) e,.inl rfl⟩,hz,Ext.refl _ _,by exact zad⟩;obtain⟨h0,h1⟩:=hc m;refine⟨⟨R.topMoves m (by exact zad),by simpa using R.len,R.nd,fun k c u hk hu=> ?_,R.apart,fun u hu=>Nat.lt_of_lt_of_le (R.live u hu) hz,R.low,Nat.lt_of_lt_of_le R.big m.size,za4 R.frames m⟩,m⟩
 have hi:i < H.length:=by have:=(List.getElem?_eq_some_iff.mp fa).1;rw[R.len] at this;exact this
 have hj:j < H.length:=by have:=(List.getElem?_eq_some_iff.mp fb).1;rw[R.len] at this;exact this
 by_cases ki:i=k
 ·subst ki
  rw[fa] at hu;obtain rfl:=Option.some.inj hu
  rw[List.getElem?_set] at hk;simp[hi] at hk
  subst hk;exact h0
 ·rw[List.getElem?_set_ne ki] at hk
  by_cases kj:j=k
  ·subst kj
   rw[fb] at hu;obtain rfl:=Option.some.inj hu
   rw[List.getElem?_set] at hk;simp[hj] at hk
   subst hk;exact h1
  ·rw[List.getElem?_set_ne kj] at hk
   exact(R.cell k c u hk hu).moves m fun o ho=>hs u o (fun z=>ki (ziV R.nd fa (z▸hu))) (fun z=>kj (ziV R.nd fb (z▸hu))) ho
theorem zdk {h h':Heap}{a l:Addr}{k:Nat}(x:h.IsListIter a l k)(e:∀o,h.get? a=some o→h'.get? a=some o):h'.IsListIter a l k:=let⟨o,ho,r⟩:=x;⟨o,e o ho,r⟩
noncomputable def SNt (pg:Program)(w:World)(K:Frag)(Φ:Fm)(d:Nat)(target:Expr)(i:Nat)(H:List Cell)(v:AV)(H':List Cell):Prop:=
 ∀ρ s A a,OkA Φ d A→Rel pg w K Φ ρ H s.heap→s.gens= #[]→ρ[i]? =some a→wpAny (model pg w) A (pyNext (.ref a))
  (fun u cm=>∃v',u=some v'∧wpAny (model pg w) A (letOwnedTupleGo target (.ref a) v') (fun _ ct=>PO pg w K Φ s ρ H' v v' ct) (fun _ _=>False) cm) (fun _ _=>False) s
theorem SNt.enum {p k:Nat}{elts:List Expr}{cL:Pos}(q:H[i]? =some (.enum j p))(q':H[j]? =some (.iter x p))(L:LH H x xs)(hv:xs[p]? =some v):
  SNt pg w K Φ d (.Tuple elts k cL) i H (.tup [.int p,v]) ((H.set j (.iter x (p+1))).set i (.enum j (p+1))):=fun ρ s A a ok R g fa=>by
 refine CellAt.bb (R.cell _ _ _ q fa) fun ix old fj he=> ?_
 refine CellAt.al (R.cell _ _ _ q' fj) fun _ px hit=> ?_
 obtain⟨c,vs,ec,hl,cv⟩:=L.at R px
 (injection ec with ec;subst ec)
 obtain⟨u,eu,qu⟩:=cv.get hv
 have hij:i≠j:=fun z=>by subst z;rw[q] at q';cases q'
 have hne:a≠ix:=fun z=>hij (ziV R.nd fa (z▸fj))
 refine wpAny_pyNext_enum_item he hit hl (by simpa using eu) hne fun h' heo hit' htup hz hk=>⟨_,rfl,wpAny_letOwnedTupleGo_enum heo fun h'' he'' hs''=> ?_⟩
 have e1:((p:Int)+1)=((p+1:Nat):Int):=by push_cast;rfl
 rw[e1] at he''
 have at_:∀c o,c≠a→h'.get? c=some o→h''.get? c=some o:=fun c o n e=>(hs''.2 c n).trans e
 have hkk:∀c o,c≠a→c≠ix→s.heap.get? c=some o→h''.get? c=some o:=fun c o n n' e=>at_ c o n (hk c o n n' e)
 have hzz:s.heap.objs.size≤h''.objs.size:=by rw[hs''.1];show _≤h'.objs.size;rw[hz];exact Nat.le_succ _
 have hit'':=zdk hit' fun o ho=>at_ _ _ (Ne.symm hne) ho
 obtain⟨R',mv⟩:=R.turn2 fa fj hij hkk hzz (de:=.enum j (p+1)) (cO:=.iter x (p+1)) fun m=>⟨.enum fj he'',.iter (px.moves m) hit''⟩
 have na:s.heap.objs.size≠a:=fun z=>by have:=Heap.lt_size (show s.heap.get? a=some _ from he);exact absurd this (Nat.not_lt.mpr (Nat.le_of_eq z))
 have nt:s.heap.objs.size∉ρ:=fun z=>absurd (R.live _ z) (Nat.lt_irrefl _)
 exact⟨ρ,mv,R',g,.tup (vs:= [_,u]) ⟨_,at_ _ _ na htup,rfl,0,rfl⟩ nt (.cons .int (.cons (qu.moves mv) .nil)),rfl⟩
theorem SN.bK (hc:Φ.calm=Bool.true){p:Nat}(q:H[i]? =some (.enum j p))(q':H[j]? =some (.iter x p))(L:LH H x xs)(hv:xs[p]? =none):SN pg w K Φ d i H none (H.set j .junk):=fun ρ s A a ok R g fa=>by
 refine CellAt.bb (R.cell _ _ _ q fa) fun ix old fj he=> ?_
 refine CellAt.al (R.cell _ _ _ q' fj) fun _ px hit=> ?_
 obtain⟨c,vs,ec,hl,cv⟩:=L.at R px
 (injection ec with ec;subst ec)
 have hn:vs.toArray[p]? =none:=by have:=cv.length;simp at hv ⊢;lia
 exact zav (wpAny_pyNext_enum_end (ok.handled hc) he hit hl hn fun h' hs hz=>gone R g fj hs hz)
theorem SCL.ci {p:Pos}{target:Expr}{ifs:List Expr}{emit:Value→Env→Sem Unit}(ic:IsComp e)(hT:zbH e dep p target ifs emit)(n:SNt pg w K Φ d target i H v cn)(t:SA pg w K Φ d sc target v σ cn σ1 cq)(ts:STs pg w K Φ d sc ifs σ1 cq true cp cy)
  (em:SEm pg w K Φ d sc emit j cp cy σ3 c5) (hσ:∀y v,σ.lookup y=some v→σ3.lookup y=some v) (z:SCL pg w K Φ d sc e dep i j σ c5 H'):SCL pg w K Φ d sc e dep i j σ H H':=.mk fun env O ρ s A a c ok X fa fc=>by
 refine zc5 ic hT (zac (n ρ s A a ok X.rel X.gens fa) fun r cm cB=> ?_);obtain⟨v',rfl,cB⟩:=cB
 refine zac cB fun _ di cF=> ?_
 obtain⟨ρ1,m,X1,q,o⟩:=PO.inFrame X cF
 refine t.into v' ok X1 q fun _ ct ρ2 cu X2 cw=> ?_
 refine ts.into ok X2 fun b' cA eb ρ3 m3 X3 cJ=> ?_
 subst eb;rw[if_pos rfl];have mm:=(m.trans cu).trans m3
 refine em.into c ok X3 (mm.ext.get fc) fun _ c7 ρ4 m4 X4 o4=> ?_
 exact codeAny_mono (z.1 env O ρ4 c7 A a c ok (X4.weaken hσ) (m4.ext.get (mm.ext.get fa)) (m4.ext.get (mm.ext.get fc))) fun r s' q=>zdr (mm.trans m4) (o4.trans (cJ.trans (cw.trans o))) q
noncomputable def zej (k v:Expr):Value→Env→Sem Unit:=fun acc env=>do
    let kv←eval k env
    let vv←holding [kv] (eval v env)
    match acc with
    | .ref d=>do
     standAt {k.pos with endLine:=v.pos.endLine,endCol:=v.pos.endCol}
     holding [kv,vv] (dictSet d kv vv)
    | _=>unsupported "internal:dictcomp"
theorem SEm.dict {k' v':Expr}{k:Str}{ep:Option Nat}(a:SE pg w K Φ d sc k' σ H (.str k) σ1 cn)(c:SE pg w K Φ d sc v' σ1 cn y cp cq)(q:cq[j]? =some (.dct es ep))(hz:es.length≤sizeLine):SEm pg w K Φ d sc (zej k' v') j σ H cp (cq.set j (.dct (dset es k y) Option.none)):=.mk fun env O ρ s A cc ok X fc=>by
 unfold zej;refine wpAny_bind (a.into ok X fun u cm ρ1 m X1 cv o=> ?_);refine wpAny_bind (wpAny_holding (c.into ok X1 fun u' ct ρ2 m' X2 cx o'=> ?_));have q1':=cv.moves m';have dq:=m'.ext.get (m.ext.get fc)
 refine VR.strE q1' fun _=> ?_
 refine CellAt.dctE (X2.rel.cell _ _ _ q dq) fun fs _ D E z=> ?_
 refine wpAny_bind (wpAny_standAt (wpAny_holding (wpAny_dictSet_pairs (knd:=PySem.strKind pg w) (k:=k) (by simp[PySem.strKind,Value.isStrOf]) D.dictOf (fun h' D' hs=> ?_) (by rw[←E.length];exact hz))));exact(((zem X2.rel X2.gens dq D' hs (E.set cx)).inFrame X2).then m' o').then m o
noncomputable def zaO (e:Expr)(dep:Nat)(it:Expr):Value→Env→Sem Unit:=fun acc env=>do
    let x←eval it env
    standAt it.pos
    let x←foldedSetIterable it env x
    let _←runOwn (.compStart e (dep+1) (←holding [x] (pyIter x)) acc env) env
theorem SEm.next {it:Expr}{i':Nat}(ic:IsComp e)(hcl:((clausesOf e)[dep+1]?).elim false (·.is_async !=0)=false)(a:SE pg w K Φ d sc it σ H x σ1 cn)(t:SIt pg w K Φ d x cn i' cq)(self:SIt pg w K Φ d (.obj i') cq i' cq)
  (loop:SCL pg w K Φ d sc e (dep+1) i' j σ1 cq cy) (hs:∀env x,foldedSetIterable it env x=pure x:=by intro _ _;rfl):SEm pg w K Φ d sc (zaO e dep it) j σ H σ1 cy:=.mk fun env O ρ s A cc ok X fc=>by
 unfold zaO;refine wpAny_bind (a.into ok X fun u cm ρ1 m X1 cv o=> ?_);refine wpAny_bind (wpAny_standAt ?_);rw[hs env u];refine wpAny_bind (wpAny_pure (wpAny_bind (wpAny_holding (zac (t ρ1 cm A u ok X1.rel X1.gens cv) fun it' ct cF=> ?_))));obtain⟨ρ2,cu,X2,cx,cw⟩:=cF.inFrame X1
 refine VR.objE cx fun _ fi=> ?_
 refine wpAny_bind (wpAny_runOwn ?_);rw[Around.mark_none];have mm:=m.trans cu
 have fin:∀r s' s0 ρ0,Moves O s.heap s0.heap ρ ρ0→s0.os=s.os→zmc pg w K Φ env sc O s0 ρ0 σ1 cy r s'→(match r with | .ok f=>wpAny (model pg w) A (pure ()) (fun _ s''=>PU pg w K Φ env sc O s ρ σ1 cy s'') (fun _ _=>False) s' | .error x=>cameBackBy (model pg w) A env (fun _ _=>False) x s'):=fun r s' s0 ρ0 m0 o0 z=>by
  rcases r with x | r
  ·exact z.elim
  ·exact wpAny_pure (PU.then m0 o0 z)
 refine zfD ic hcl (codeAny_mono (loop.1 env O ρ2 ct A _ cc ok X2 fi (mm.ext.get fc)) fun r s' z=>fin r s' ct ρ2 mm (cw.trans o) z) (zac (self ρ2 ct A _ ok X2.rel X2.gens (.obj fi)) fun u' cA cT=> ?_);obtain⟨ρ3,m3,X3,cS,cJ⟩:=cT.inFrame X2
 refine VR.objE cS fun _ dT=> ?_
 have f3':=m3.ext.get fi
 rw[f3'] at dT;obtain rfl:=Option.some.inj dT
 exact codeAny_mono (loop.1 env O ρ3 cA A _ cc ok X3 f3' ((mm.trans m3).ext.get fc)) fun r s' z=>fin r s' cA ρ3 (mm.trans m3) (cJ.trans (cw.trans o)) z
inductive ConstPairs:List (Option Expr)→List Expr→List (Str×Str)→Prop
 | nil:ConstPairs [] [] []
 | cons {a c k p k' p' ks vs kvs} :ConstPairs ks vs kvs→ConstPairs (some (.Constant (.str a) k p)::ks) (.Constant (.str c) k' p'::vs) ((a,c)::kvs)
noncomputable def tokd:List (Str×Str)→Nat→List (Value×Value)
 | [],_=> []
 | (a,c)::r,t=>(.str a t,.str c (t+1))::tokd r (t+2)
theorem zeT {p:Pos}{ks:List (Option Expr)}{vs:List Expr}{kvs:List (Str×Str)}(c:ConstPairs ks vs kvs){s:Shared}{Q:List (Value×Value)→Shared→Prop}(h:∀t,Q (tokd kvs s.toks) {s with toks:=t}):wpAny (model pg w) A (evalPairs (pairTrees ks vs env p)) Q E s:=by
 induction c generalizing s Q with
 | nil=>exact pairTrees_nil_walk (h s.toks)
 | @cons a c _ _ _ _ _ _ _ _ ih=>exact pairTrees_cons_walk (wpAny_Constant_str (wpAny_Constant_str (ih (s:= {s with toks:=s.toks+1+1}) (Q:=fun v cA=>Q ((.str a s.toks,.str c (s.toks+1))::v) cA) fun t=>h t)))
theorem zdc:∀{kvs:List (Str×Str)} {t:Nat},allStrKeys (tokd kvs t)=Bool.true∧(strPairs (tokd kvs t)).map (·.1)=kvs.map (·.1)
 | [],_=>⟨rfl,rfl⟩
 | (a,c)::r,t=>⟨(zdc (kvs:=r)).1,congrArg (a:: ·) (zdc (kvs:=r)).2⟩
noncomputable def zax (kvs:List (Str×Str)):List (Str×AV):=kvs.map fun kv=>(kv.1,.str kv.2)
theorem ER.bT {h:Heap} :∀{kvs:List (Str×Str)} {t:Nat},ER h ρ (zax kvs) (strPairs (tokd kvs t))
 | [],_=>.nil
 | (a,c)::r,t=>.cons .str (ER.bT (kvs:=r))
theorem ziP {h:Heap}{dr:Drawn}{t:Nat}{os:OsState}{g:Array GenState}(R:Rel pg w K Φ ρ H h):Rel pg w K Φ (ρ++ [h.objs.size]) (H++ [.dct [] Option.none]) (h.push {cls:=.type "dict",data:=.dict #[]})∧Moves [] h (h.push {cls:=.type "dict",data:=.dict #[]}) ρ (ρ++ [h.objs.size]) ∧
  (h.push {cls:=.type "dict",data:=.dict #[]}).DictOf (PySem.strKind pg w) h.objs.size []:=by
 have D:(h.push {cls:=.type "dict",data:=.dict #[]}).DictAt (PySem.strKind pg w) h.objs.size [] 0:=⟨_,#[],Heap.get?_push_size _ rfl,⟨rfl,rfl,rfl⟩,rfl,fun _ he=>by simp at he,.nil,List.nodup_nil⟩
 obtain⟨R',m⟩:=R.push (c:=.dct [] Option.none) (o:= {cls:=.type "dict",data:=.dict #[]}) rfl rfl fun m=>.dct (fs:= []) (e:=0) D .nil (fun n e=>nomatch e)
 exact⟨R',m,D.dictOf⟩
theorem SE.aG:SE pg w K Φ d sc (.Dict [] [] pos) σ H (.obj H.length) σ (H++ [.dct [] Option.none]):=.mk fun env O ρ s A ok X=>by
 rw[eval_Dict_empty];refine wpAny_bind (wpAny_standAt ?_);unfold newDict;refine wpAny_newObj_type ?_;obtain⟨R',m,_⟩:=ziP (dr:=s.drawn) (t:=s.toks) (os:=s.os) (g:=s.gens) X.rel;exact⟨_,m.wider (by exact zad) X.env.softs,⟨R',X.env.moves m,X.gens⟩,.obj (by rw[←X.rel.len];simp),rfl⟩
theorem SE.aH {ks:List (Option Expr)}{vs:List Expr}{kvs:List (Str×Str)}(c:ConstPairs ks vs kvs)(h0:ks≠ [])(hlen:ks.length≤15)(hn:(kvs.map (·.1)).Nodup)(hall:ks.all (·.isSome)=Bool.true:=by rfl)(hl:ks.length=vs.length:=by rfl):
  SE pg w K Φ d sc (.Dict ks vs pos) σ H (.obj H.length) σ (H++ [.dct (zax kvs) Option.none]):=.mk fun env O ρ s A ok X=>by
 obtain⟨R1,cM,d0⟩:=ziP (dr:=s.drawn) (t:=s.toks) (os:=s.os) (g:=s.gens) X.rel;refine wpAny_Dict_walk (knd:=PySem.strKind pg w) hall hl h0 hlen (zeT c fun t=> ?_)
 refine display_done_str (zdc).1 (by rw[(zdc).2];exact hn) d0 fun h' D' hs=> ?_
 have cZ:(ρ++ [s.heap.objs.size])[H.length]? =some s.heap.objs.size:=by rw[←X.rel.len];simp
 obtain⟨ep,DA⟩:=D'.dictAt
 obtain⟨cX,cu⟩:=R1.set cZ hs (c:=.dct (zax kvs) .none) fun m=>.dct DA ER.bT (fun n e=>nomatch e)
 have e:(H++ [Cell.dct [] Option.none]).set H.length (.dct (zax kvs) .none)=H++ [.dct (zax kvs) Option.none]:=by exact zmp
 rw[e] at cX;have m:=cM.trans cu;exact⟨_,m.wider (by exact zad) X.env.softs,⟨cX,X.env.moves m,X.gens⟩,.obj cZ,rfl⟩
theorem zgL {t:SetTable}{es:Array (Int×Value)}{h:Int}{x:Value}(hp:t.plain=false):(layNew t es h x).2.1.plain=false:=by
 unfold layNew
 cases t.freeSlot h with
 | some p=>
  show(SetTable.orStandIn _ _).plain=false;unfold SetTable.orStandIn
  split
  ·exact hp
  ·rfl
 | none=>rfl
theorem zh1 {t:SetTable}{es:Array (Int×Value)}{n:Nat}(hp:t.plain=false):(relayAll t es n).2.1.plain=false:=by
 unfold relayAll
 cases he:t.relaid (es.map (·.1)) n with
 | some q=>
  obtain⟨t',order⟩:=q;dsimp only
  split
  ·unfold SetTable.relaid SetTable.laid at he
   obtain⟨_,_,he⟩:=Option.bind_eq_some_iff.mp he;have:=congrArg Prod.fst (Option.some.inj he)
   rw[←this];exact hp
  ·rfl
 | none=>rfl
noncomputable def addT (zs:List Str)(k:Str):List Str:=if k∈zs then zs else zs++ [k]
theorem zfq {h:Heap}{a:Addr}{o:Obj}{es:Array (Int×Value)}{ep:Nat}{t:SetTable}(ho:h.get? a=some o)(hex:o.ExactSet)(hd:o.data= .set es ep t){zs:List Str}(nd:zs.Nodup)
  {es':Array (Int×Value)} {t':SetTable} (hel:ElemsOf (sk pg w) es'.toList) (hmem:∀k,decide (k∈zs)=true↔∃e∈es'.toList,(sk pg w).is k e.2=true) (hb:es'.size < scanBound) (hf:t'.fits es'.size=true) (hn:es'.size=zs.length) (hp:t'.plain=false):
  ∃o',(h.update a (Obj.putSet es' t')).get? a=some o'∧o'.ExactSet∧o'.data= .set es' (ep+1) t'∧SetT pg w (h.update a (Obj.putSet es' t')) a zs:=by
 obtain⟨hg,_⟩:=SetOf_store (knd:=sk pg w) (S':=fun k=>decide (k∈zs)) ho hex hd hel hmem hb hf;exact⟨_,hg,hex,rfl,nd,_,es',ep+1,t',hg,hex,rfl,hel,hmem,hb,hf,hn,fun _=>hp⟩
theorem zjC {a:Addr}{zs:List Str}{k:Str}{tk:Tok}{Q:Bool→Shared→Prop}(S:SetT pg w s.heap a zs)(hroom:zs.length+1 < scanBound)
  (h:∀h' t b,Heap.SameBut a s.heap h'→SetT pg w h' a (addT zs k)→Q b {s with heap:=h',toks:=t}):wpAny (model pg w) A (setAdd a (.str k tk)) Q E s:=by
 have hkey:(sk pg w).is k (.str k tk)=true:=by simp[sk,PySem.strKind,Value.isStrOf]
 obtain⟨nd,o,es,ep,t,ho,hex,hd,hel,hmem,hb,hf,hn,hp⟩:=S;have hsc:(Value.str k tk).scannable=true:=rfl;unfold setAdd;refine wpAny_holding (wpAny_bind ((sk pg w).pyHash hkey ?_));unfold setAddHashed setAddHashedIn;refine wpAny_holding (wpAny_bind (wpAny_setState_of (s:= {s with toks:=s.toks+1}) ho hd hf ?_));dsimp only;rw[byScan_of hsc hb hel,if_pos rfl];unfold setAddByScan;refine wpAny_bind ?_;refine wpAny_bind (wpAny_rule ?_);refine wpAny_bind (wpAny_setScan_of (s:= {s with toks:=s.toks+1}) hkey ho hd hf hel ?_);have hk:=hmem k
 cases hr:List.findIdx? (fun e=>(sk pg w).is k e.2) es.toList with
 | some j=>
  dsimp only;obtain⟨hj,hpj,_⟩:=List.findIdx?_eq_some_iff_getElem.mp hr;have hin:k∈zs:=of_decide_eq_true (hk.mpr ⟨es.toList[j],List.getElem_mem hj,hpj⟩);refine wpAny_pure (wpAny_pure (h s.heap _ _ (Heap.SameBut.refl a s.heap) ?_));unfold addT;rw[if_pos hin];exact⟨nd,o,es,ep,t,ho,hex,hd,hel,hmem,hb,hf,hn,hp⟩
 | none=>
  dsimp only
  have hnin:k∉zs:=fun z=>by
   obtain⟨e,he,hpe⟩:=hk.mp (decide_eq_true z);have:=List.findIdx?_eq_none_iff.mp hr e he
   rw[hpe] at this;exact Bool.noConfusion this
  have hadd:addT zs k=zs++ [k]:=by unfold addT;rw[if_neg hnin]
  have nd':(zs++ [k]).Nodup:=by
   rw[List.nodup_append];exact⟨nd,by exact List.nodup_cons.mpr ⟨List.not_mem_nil,List.nodup_nil⟩,fun a ha b hb=>by simp at hb;subst hb;rintro rfl;exact hnin ha⟩
  rw[hadd] at h
  have hgw:∀(b:Bool) {cm:Shared} {Q':Unit→Shared→Prop},Q' () cm→wpAny (model pg w) A (match b with | true=>rule "set.scan.the-table-gave-way" | false=>pure ()) Q' E cm:=
   fun b cm Q' hq=>by cases b<;>first | exact wpAny_pure hq | exact wpAny_rule hq
  have hperm:=layNew_perm t es ((sk pg w).hash k) (.str k tk);have hfits:=layNew_fits t es ((sk pg w).hash k) (.str k tk)
  have hpl:=fun q=>zgL (t:=t) (es:=es) (h:=(sk pg w).hash k) (x:=.str k tk) q
  generalize hL:layNew t es ((sk pg w).hash k) (.str k tk)=L at hperm hfits hpl ⊢;obtain⟨es1,t1,wasDummy,gave⟩:=L;dsimp only at hperm hfits hpl ⊢;rw[Array.toList_push] at hperm;have hel1:ElemsOf (sk pg w) es1.toList:=(hel.push hkey hsc).perm hperm
  have hmem1:∀k',decide (k'∈zs++ [k])=true↔∃e∈es1.toList,(sk pg w).is k' e.2=true:=fun k'=>by
   rw[←mem_push_iff (S:=fun k=>decide (k∈zs)) hkey hmem hperm k']
   simp
  have hsz1:es1.size=zs.length+1:=by rw[←Array.length_toList,hperm.length_eq,List.length_append,Array.length_toList,hn];rfl
  have hb1':es1.size < scanBound:=by rw[hsz1];exact hroom
  refine wpAny_bind (hgw _ ?_)
  have tail:∀t2:SetTable,t2.fits es1.size=true→t2.plain=false→∀(g:Bool→Sem Unit),(∀(b:Bool) (cm:Shared) (Q':Unit→Shared→Prop),Q' () cm→wpAny (model pg w) A (g b) Q' E cm) →
    wpAny (model pg w) A (do
     storeSet a es1 t2
     if (!wasDummy&&t2.tooFull)=true then do
       g (relayAll t2 es1 (SetTable.grown es1.size)).2.2
       storeSet a (relayAll t2 es1 (SetTable.grown es1.size)).1 (relayAll t2 es1 (SetTable.grown es1.size)).2.1
       pure (some true)
      else pure (some true)) (fun r cm=>r=some true∧∃h',cm= {s with heap:=h',toks:=s.toks+1} ∧Heap.SameBut a s.heap h'∧SetT pg w h' a (zs++ [k])) E {s with toks:=s.toks+1} :=by
   intro t2 hf2 hp2 g hg;refine wpAny_bind (wpAny_storeSet_of (s:= {s with toks:=s.toks+1}) ho hd ?_ (fits_of_scanBound hb1'));obtain⟨o1,ho1,hex1,hd1,S1⟩:=zfq (pg:=pg) (w:=w) ho hex hd nd' hel1 hmem1 hb1' hf2 (by rw[hsz1];simp) hp2;have hsb1:=Heap.SameBut.update s.heap a (Obj.putSet es1 t2)
   split
   ·have hpm:=relayAll_perm t2 es1 (SetTable.grown es1.size)
    have hfr:=relayAll_fits t2 es1 (SetTable.grown es1.size);have hpr:=zh1 (es:=es1) (n:=SetTable.grown es1.size) hp2;generalize hRl:relayAll t2 es1 (SetTable.grown es1.size)=Rl at hpm hfr hpr ⊢;obtain⟨es2,t3,gave2⟩:=Rl;dsimp only at hpm hfr hpr ⊢
    have hsz2:es2.size=zs.length+1:=by rw[←Array.length_toList,hpm.length_eq,Array.length_toList,hsz1]
    have hb2:es2.size < scanBound:=by rw[hsz2];exact hroom
    refine wpAny_bind (hg _ _ _ ?_);refine wpAny_bind (wpAny_storeSet_of (s:= {s with heap:=_,toks:=s.toks+1}) ho1 hd1 ?_ (fits_of_scanBound hb2));obtain⟨o2,ho2,hex2,hd2,S2⟩:=zfq (pg:=pg) (w:=w) ho1 hex1 hd1 nd' (hel1.perm hpm) (fun k'=>(hmem1 k').trans ⟨fun⟨e,he,q⟩=>⟨e,hpm.mem_iff.mpr he,q⟩,fun⟨e,he,q⟩=>⟨e,hpm.mem_iff.mp he,q⟩⟩) hb2 hfr (by rw[hsz2];simp) hpr;exact wpAny_pure ⟨rfl,_,rfl,hsb1.trans (Heap.SameBut.update _ a _),S2⟩
   ·exact wpAny_pure ⟨rfl,_,rfl,hsb1,S1⟩
  split
  ·refine wpAny_bind ?_
   rw[hashByValue_scannable 8 hsc];refine wpAny_pure ?_
   refine wpAny_mono (tail _ ?_ ?_ _ ?_) (fun r cm z=> ?_) fun _ _ z=>z
   ·exact SetTable.fits_plain_off hfits
   ·rfl
   ·intro b cm Q' hq;cases b<;>first | exact wpAny_pure hq | exact wpAny_rule hq
   ·obtain⟨rfl,h',rfl,hsb,S'⟩:=z
    dsimp only;exact wpAny_pure (h _ _ _ hsb S')
  ·rename_i hpn
   refine wpAny_bind (wpAny_pure ?_);rw[if_pos rfl]
   refine wpAny_mono (tail _ hfits (by simpa using hpn) _ ?_) (fun r cm z=> ?_) fun _ _ z=>z
   ·intro b cm Q' hq;cases b<;>first | exact wpAny_pure hq | exact wpAny_rule hq
   ·obtain⟨rfl,h',rfl,hsb,S'⟩:=z
    dsimp only;exact wpAny_pure (h _ _ _ hsb S')
theorem SetT.at {h h':Heap}{a:Addr}{zs:List Str}(S:SetT pg w h a zs)(e:∀o,h.get? a=some o→h'.get? a=some o):SetT pg w h' a zs:=by
 obtain⟨nd,o,es,ep,t,ho,h1,h2,h3,h4,h5,h6,h7,h8⟩:=S;exact⟨nd,o,es,ep,t,e _ ho,h1,h2,h3,h4,h5,h6,h7,h8⟩
theorem zhF {R:Result→Shared→Prop}{S I l:Addr}{items:Array Value}(hSI:S≠I)(hSl:S≠l)(hIl:I≠l)(hh:A.handled=none):∀(rest:List Str) (k:Nat) (s:Shared) (zs:List Str),s.heap.IsListIter I l k→s.heap.IsList l items →
  StrsAre (items.toList.drop k) rest→SetT pg w s.heap S zs→zs.length+rest.length+1 < scanBound →
  (∀s',(∀b o,b≠S→b≠I→s.heap.get? b=some o→s'.heap.get? b=some o)→s'.gens=s.gens→s'.os=s.os→s'.drawn=s.drawn→SetT pg w s'.heap S (rest.foldl addT zs)→R (.ok (.ret .none)) s') →
  codeAny (model pg w) A (.builtin "set.update.loop" ⟨[.ref S,.ref I],[]⟩) R s:=by
 intro rest
 induction rest with
 | nil=>
  rintro k s zs hit hl q hS hb hR
  have hn:items[k]? =none:=by
   generalize hq:items.toList.drop k=qq at q;cases q;have:=List.drop_eq_nil_iff.mp hq
   simp at this ⊢;exact this
  refine codeAny_builtin PyProof.Rows.F.entry_set_update_loop ?_;rw[Around.under_plainId PyProof.Rows.F.plain_set_update_loop _];show wpAny _ A.in1 (pyNext (.ref I) >>= _) _ _ s;refine wpAny_bind (wpAny_pyNext_list_end hh hit hl hn fun h' hs=> ?_);show wpAny _ A.in1 (ret Value.none) _ _ _;exact wpAny_pure (hR _ (fun b o hb hb' e=>hs b o hb' e) rfl rfl rfl (hS.at fun o ho=>hs S o hSI ho))
 | cons y rest ih=>
  rintro k s zs hit hl q hS hb hR
  generalize hq:items.toList.drop k=qq at q
  cases q with | cons _ t q=>
  have hk:items.toList[k]? =some (.str y t):=by
   have:=congrArg (·[0]?) hq
   simpa using this
  have hd:=congrArg (List.drop 1) hq;rw[List.drop_drop] at hd;refine codeAny_builtin PyProof.Rows.F.entry_set_update_loop ?_;rw[Around.under_plainId PyProof.Rows.F.plain_set_update_loop _];show wpAny _ A.in1 (pyNext (.ref I) >>= _) _ _ s;refine wpAny_bind (wpAny_pyNext_list_item hit hl (by simpa using hk) fun h' hit' hs=> ?_);show wpAny _ A.in1 (holding [Value.str y t] (setAdd S (.str y t)) >>= _) _ _ _
  have hl':h'.IsList l items:=by obtain⟨o,ho,r⟩:=hl;exact⟨o,(hs.2 l (Ne.symm hIl)).trans ho,r⟩
  have hS':SetT pg w h' S zs:=hS.at fun o ho=>(hs.2 S hSI).trans ho
  refine wpAny_bind (wpAny_holding (zjC (s:= {s with heap:=h'}) hS' (by simp only[List.length_cons] at hb;lia) fun cF tk b cV hS2=> ?_))
  have dw:=zdk hit' fun o ho=>(cV.2 I (Ne.symm hSI)).trans ho
  have hl2:cF.IsList l items:=by obtain⟨o,ho,r⟩:=hl';exact⟨o,(cV.2 l (Ne.symm hSl)).trans ho,r⟩
  have hlen:(addT zs y).length≤zs.length+1:=by unfold addT;split<;>simp
  refine wpAny_pure ⟨plainId_quiet PyProof.Rows.F.plain_set_update_loop _,ih (k+1) {s with heap:=cF,toks:=tk} (addT zs y) dw hl2 (by rw[show k+1=k+1 from rfl,hd];exact q) hS2 (by simp only[List.length_cons] at hb;lia) fun s' hk' g o dr S'=> ?_⟩;exact hR s' (fun b o hb hb' e=>hk' b o hb hb' ((cV.2 b hb).trans ((hs.2 b hb').trans e))) g o dr S'
noncomputable def zaw (led:Bool):Obj:= {cls:=.type "set",dict:=none,data:=.set #[] 0 (.fresh 0 0 led)}
theorem zjB {h:Heap}{a:Addr}{led:Bool}(e:h.get? a=some (zaw led)):SetT pg w h a []:=
 ⟨List.nodup_nil,_,#[],0,_,e,⟨rfl,rfl,rfl⟩,rfl,fun e he=>by simp at he,fun k=>by simp,by decide,by rfl,rfl,fun z=>absurd rfl z⟩
noncomputable def zl9 (pg:Program)(w:World)(s:Shared)(a:Addr)(zs:List Str)(s':Shared):Prop:=
 (∀b o,b < a→s.heap.get? b=some o→s'.heap.get? b=some o)∧s'.gens=s.gens∧s'.os=s.os∧SetT pg w s'.heap a zs
theorem zmq {l:Addr}{items:Array Value}{ts:List Str}{led:Bool}{R:Result→Shared→Prop}(hh:A.handled=none)(hl:s.heap.IsList l items)(q:StrsAre items.toList ts)(hb:ts.length+1 < scanBound)
  (h:∀s',zl9 pg w s s.heap.objs.size (ts.foldl addT []) s'→R (.ok (.ret .none)) s'):
  codeAny (model pg w) A (.call (.builtin "set.__init__") ⟨[.ref s.heap.objs.size,.ref l],[]⟩) R {s with heap:=s.heap.push (zaw led)} :=by
 have hS:(s.heap.push (zaw led)).get? s.heap.objs.size=some (zaw led):=Heap.get?_push_size _ rfl;have hT:Shared.TypeIs {s with heap:=s.heap.push (zaw led)} (.ref s.heap.objs.size) "set" :=⟨_,hS,rfl⟩;refine codeAny_call_builtin F.called_set.init.plain F.entry_set_init (check_set_init_1 hT ?_);obtain⟨⟨ocls,odict,odata,oslots⟩,hol,hcl,nl,hdl⟩:=hl;simp only at hcl hdl
 subst hcl;subst hdl
 have hol':(s.heap.push (zaw led)).get? l=some {cls:=.type "list",dict:=odict,data:=.seq items nl,slots:=oslots} :=Heap.get?_push_of_some _ hol;have hsls:=F.sub_list_set;have hslf:=F.sub_list_frozenset
 have hne:(Value.type "list" ==Value.type "dict")=false:=by decide
 have hl1:(s.heap.push (zaw led)).IsList l items:=⟨_,hol',rfl,nl,rfl⟩;have hlS:l < s.heap.objs.size:=Heap.lt_size hol;unfold Builtin.«set.__init__» noKeywords Builtin.Frozenset.updateFrom;generalize hPI:pyIter=PI
 wp_walk
 subst hPI;refine wpAny_pyIter_list hl1 ?_;refine wpAny_bind (wpAny_runValue ?_);have e1:(s.heap.push (zaw led)).objs.size=s.heap.objs.size+1:=Heap.size_push ..
 have hSI:s.heap.objs.size≠(s.heap.push (zaw led)).objs.size:=by rw[e1];exact Nat.ne_of_lt (Nat.lt_succ_self _)
 have hIl:(s.heap.push (zaw led)).objs.size≠l:=by rw[e1];exact Nat.ne_of_gt (Nat.lt_succ_of_lt hlS)
 have hget:((s.heap.push (zaw led)).push {cls:=.type "list_iterator",data:=.fields #[.ref l,.int 0 0]}).get? s.heap.objs.size=some (zaw led):=Heap.get?_push_of_some _ hS
 refine zhF hSI (Nat.ne_of_gt hlS) hIl (by simpa using hh) ts 0 _ [] ⟨_,Heap.get?_push_size _ rfl,rfl,rfl⟩ (hl1.push _) q (zjB hget) (by simpa using hb) fun s' hk g o dr S'=> ?_
 show wpAny _ _ _ _ _ _;refine wpAny_pure ?_;show wpAny _ _ (ret Value.none) _ _ _;refine wpAny_pure (h s' ⟨fun b o hb e=>hk b o (Nat.ne_of_lt hb) (by rw[e1];exact Nat.ne_of_lt (Nat.lt_succ_of_lt hb)) (Heap.get?_push_of_some _ (Heap.get?_push_of_some _ e)),g,o,S'⟩)
theorem zgn {l:Addr}{items:Array Value}{ts:List Str}{Q:Value→Shared→Prop}(hh:A.handled=none)(hl:s.heap.IsList l items)(q:StrsAre items.toList ts)(hb:ts.length+1 < scanBound)
  (h:∀s',zl9 pg w s s.heap.objs.size (ts.foldl addT []) s'→Q (.ref s.heap.objs.size) s'):wpAny (model pg w) A (call (.type "set") [.ref l]) Q E s:=by
 obtain⟨c,tl,hmro⟩:=F.called_set.mro;have hmade:=F.called_set.made;have hsub:=F.called_set.sub;refine wpAny_call (codeAny_of_tree ?_);show wpAny _ _ (callAny (.type "set") _) _ _ _;refine wpAny_pure ⟨Code.quiet_builtin _ (by decide+kernel),codeAny_builtin F.entry_type_call ?_⟩;rw[Around.under_plain (weight_type_call_type "set" [.ref l] []) rfl];have h1:=F.called_set.notType;have h2:=F.called_set.canCreate;have hct:=F.typeCall_set_1 (.ref l)
 repeat (any_goals (first | assumption | wp_step))
 refine codeAny_mono (code_set_new_1 (.ref l) (E:=E) (Q₁:=fun obj cm=>∃led:Bool,obj= .ref s.heap.objs.size∧cm= {s with heap:=s.heap.push (zaw led)}) fun led=>⟨led,rfl,rfl⟩) fun r cm hr=> ?_
 rcases r with x | (obj | _ | _ | _)<;>first | exact hr | exact hr.elim | skip
 obtain⟨led,rfl,rfl⟩:=hr;have hS:(s.heap.push (zaw led)).get? s.heap.objs.size=some (zaw led):=Heap.get?_push_size _ rfl;have hT:Shared.TypeIs {s with heap:=s.heap.push (zaw led)} (.ref s.heap.objs.size) "set" :=⟨_,hS,rfl⟩;have hli:=F.called_set.init.lookup;have hbi:=F.called_set.init.bind (.ref s.heap.objs.size)
 repeat (any_goals (first | assumption | wp_step))
 refine zmq (by simpa using hh) hl q hb fun s' D=> ?_
 obtain⟨hp,g,dr,tk,os⟩:=s'
 repeat (any_goals (first | assumption | wp_step))
 exact h _ D
theorem zf1 {zs:List Str}{k y:Str} :y∈addT zs k↔y∈zs∨y=k:=by
 unfold addT;split
 ·rename_i hk;exact⟨.inl,fun z=>z.elim id fun e=>e▸hk⟩
 ·simp
theorem zbV:∀{ts zs:List Str} {y:Str},y∈ts.foldl addT zs↔y∈zs∨y∈ts
 | [],zs,y=>by simp
 | k::r,zs,y=>by rw[List.foldl_cons,zbV,zf1];simp[or_assoc]
theorem zfw {zs:List Str}{k:Str}(h:zs.Nodup):(addT zs k).Nodup:=by
 unfold addT;split
 ·exact h
 ·rename_i hk;rw[List.nodup_append];exact⟨h,by simp,fun a ha b hb=>by simp at hb;subst hb;rintro rfl;exact hk ha⟩
theorem zbq:∀{ts zs:List Str},zs.Nodup→(ts.foldl addT zs).Nodup
 | [],_,h=>h
 | k::r,zs,h=>zbq (ts:=r) (zfw h)
noncomputable def uniq (ts:List Str):List Str:=ts.foldl addT []
theorem zat:Slot "set_iterator" "__next__" "set_iterator.__next__" :=
 .of (owner:= "set_iterator") (n:= "__next__") (by rw[typeLookup_type,builtinLookup_eq_fast];kernel_rfl) (by decide+kernel) (by decide+kernel) (by decide+kernel)
  (by first | exact .inl (by decide+kernel) | exact .inr (by decide+kernel)) (by rw[isSubtype_type];kernel_rfl)
theorem zdR:Slot "set_iterator" "__iter__" "set_iterator.__iter__" :=
 .of (owner:= "set_iterator") (n:= "__iter__") (by rw[typeLookup_type,builtinLookup_eq_fast];kernel_rfl) (by decide+kernel) (by decide+kernel) (by decide+kernel)
  (by first | exact .inl (by decide+kernel) | exact .inr (by decide+kernel)) (by rw[isSubtype_type];kernel_rfl)
theorem zbz:entryFor table "set_iterator.__next__" =some Builtin.«set_iterator.__next__»:=entryFor_of_tree (by kernel_rfl)
theorem zge:entryFor table "set_iterator.__iter__" =some Builtin.«dict_keyiterator.__iter__»:=
 entryFor_alias (id':= "dict_keyiterator.__iter__") (by kernel_rfl) rfl (by decide+kernel) (by kernel_rfl)
theorem zbR (a:Value):argsOk "set_iterator.__next__" ⟨[a],[]⟩:=by unfold argsOk;kernel_rfl
theorem zhy (a:Value):argsOk "set_iterator.__iter__" ⟨[a],[]⟩:=by unfold argsOk;kernel_rfl
theorem zcH:Slot "set" "__iter__" "set.__iter__" :=
 .of (owner:= "set") (n:= "__iter__") (by rw[typeLookup_type,builtinLookup_eq_fast];kernel_rfl) (by decide+kernel) (by decide+kernel) (by decide+kernel)
  (by first | exact .inl (by decide+kernel) | exact .inr (by decide+kernel)) (by rw[isSubtype_type];kernel_rfl)
theorem zeU:entryFor table "set.__iter__" =some Builtin.«frozenset.__iter__»:=
 entryFor_alias (id':= "frozenset.__iter__") (by kernel_rfl) rfl (by decide+kernel) (by kernel_rfl)
theorem zfk (a:Value):argsOk "set.__iter__" ⟨[a],[]⟩:=by unfold argsOk;kernel_rfl
noncomputable def SetIter (h:Heap)(I S:Addr)(first:Value)(k n ep:Nat):Prop:=∃o,h.get? I=some o∧o.cls= .type "set_iterator" ∧o.data= .fields #[first,.int k 0,.ref S,.int n 0,.int ep 0]
noncomputable def SetAt (h:Heap)(S:Addr)(els:Array (Int×Value))(ep:Nat)(t:SetTable):Prop:=∃o,h.get? S=some o∧o.data= .set els ep t∧t.fits els.size=true
theorem zdS {I S:Addr}{first:Value}{k n ep:Nat}{Q:Value→Shared→Prop}(hit:SetIter s.heap I S first k n ep)(h:Q (.ref I) s):wpAny (model pg w) A (pyIter (.ref I)) Q E s:=by
 obtain⟨o,ho,hc,hd⟩:=hit;have hT:s.TypeIs (.ref I) "set_iterator" :=⟨o,ho,hc⟩;refine wpAny_pyIter_slot hT zdR (wpAny_call_entry zdR hT zge ?_ (zhy _));exact wpAny_pure ⟨_,rfl,"set_iterator",_,hT,zat.lookup,h⟩
theorem zfQ {I S T:Addr}{k n ep place:Nat}{els:Array (Int×Value)}{t:SetTable}{pl:Array Value}{nn:Nat}{ot:Obj}{x:Int×Value}{tk:Tok}{Q:Option Value→Shared→Prop}(hit:SetIter s.heap I S (.ref T) k n ep)(hS:SetAt s.heap S els ep t)(hn:els.size=n)
  (hT:s.heap.get? T=some ot) (hd:ot.data= .seq pl nn) (hp:pl[k]? =some (.int place tk)) (hx:els[place]? =some x) (h:∀h',SetIter h' I S (.ref T) (k+1) n ep→Heap.SameBut I s.heap h'→Q (some x.2) {s with heap:=h'}):
  wpAny (model pg w) A (pyNext (.ref I)) Q E s:=by
 obtain⟨o,ho,hc,hdd⟩:=hit;obtain⟨oS,hoS,hdS,hf⟩:=hS;have hTy:s.TypeIs (.ref I) "set_iterator" :=⟨o,ho,hc⟩;unfold pyNext;refine wpAny_bind (wpAny_attempt (wpAny_callSpecial?_slot (name:=Str.ofString "__next__") hTy zat (wpAny_call_entry zat hTy zbz ?_ (zbR _))));show wpAny _ _ (fieldsOf (.ref I) >>= _) _ _ s;unfold fieldsOf;refine wpAny_bind (wpAny_bind (wpAny_load ho ?_));rw[hdd];refine wpAny_pure ?_;show wpAny _ _ (setEntries S >>= _) _ _ s;unfold setEntries;refine wpAny_bind (wpAny_bind (wpAny_setState_of hoS hdS hf (wpAny_pure ?_)));rw[if_neg (by simp[hn])];show wpAny _ _ (seqItems? (.ref T) >>= _) _ _ s;refine wpAny_bind (wpAny_seqItems hT hd ?_);rw[Int.toNat_natCast];dsimp only;rw[hp];unfold setNextDrawn;refine wpAny_bind (wpAny_bind (wpAny_setState_of hoS hdS hf ?_));dsimp only;rw[Int.toNat_natCast,if_neg (by rw[bne_self_eq_false];exact Bool.false_ne_true),Int.toNat_natCast,hx];refine wpAny_pure ?_;refine wpAny_bind (wpAny_setField ho hdd (by exact Nat.le_of_ble_eq_true rfl) (wpAny_pure ⟨_,rfl,wpAny_pure (h _ ?_ (Heap.SameBut.update ..))⟩))
 exact⟨_,Heap.get?_update_self _ ho (Obj.isFreed_of_fields (Obj.data_mapFields hdd _)),(Obj.cls_mapFields ..).trans hc,by
  rw[Obj.data_mapFields hdd];simp[rawInt]⟩
theorem zfp {α:Type}{Q:α→Shared→Prop}(hh:A.handled=none)(h:∀h' e,(∀b o,s.heap.get? b=some o→h'.get? b=some o)→(∃o,h'.get? e=some o∧o.cls= .type "StopIteration")→E (.ref e) {s with heap:=h'}):
  wpAny (model pg w) A (newExc (.type "StopIteration") [] >>= fun x=>(raiseNew x:Sem α)) Q E s:=by
 refine wpAny_bind ?_;simp only[newExc,newTuple];refine wpAny_bind (wpAny_newObj_type ?_ (by size_fits));refine wpAny_bind (m:=firstArgMember _ _) (wpAny_of_eq (a:=Value.none) (by first | rfl | (simp only[firstArgMember];rfl)) ?_);refine wpAny_newObj_type ?_ (by size_fits)
 delta raiseNew
 refine wpAny_bind (wpAny_handled ?_);rw[hh];refine wpAny_bind (wpAny_pure (wpAny_throw ?_));exact h _ _ (fun b o e=>Heap.get?_push_of_some _ (Heap.get?_push_of_some _ e)) ⟨_,Heap.get?_push_size _ rfl,rfl⟩
theorem zgE {I S T:Addr}{k n ep:Nat}{els:Array (Int×Value)}{t:SetTable}{pl:Array Value}{nn:Nat}{ot:Obj}{Q:Option Value→Shared→Prop}(hh:A.handled=none)(hit:SetIter s.heap I S (.ref T) k n ep)(hS:SetAt s.heap S els ep t)(hn:els.size=n)
  (hT:s.heap.get? T=some ot) (hd:ot.data= .seq pl nn) (hp:pl[k]? =none) (h:∀h',Heap.ExtBut I s.heap h'→Q none {s with heap:=h'}):
  wpAny (model pg w) A (pyNext (.ref I)) Q E s:=by
 obtain⟨o,ho,hc,hdd⟩:=hit;obtain⟨oS,hoS,hdS,hf⟩:=hS;have hTy:s.TypeIs (.ref I) "set_iterator" :=⟨o,ho,hc⟩;unfold pyNext;refine wpAny_bind (wpAny_attempt (wpAny_callSpecial?_slot (name:=Str.ofString "__next__") hTy zat (wpAny_call_entry zat hTy zbz ?_ (zbR _))));show wpAny _ _ (fieldsOf (.ref I) >>= _) _ _ s;unfold fieldsOf;refine wpAny_bind (wpAny_bind (wpAny_load ho ?_));rw[hdd];refine wpAny_pure ?_;show wpAny _ _ (setEntries S >>= _) _ _ s;unfold setEntries;refine wpAny_bind (wpAny_bind (wpAny_setState_of hoS hdS hf (wpAny_pure ?_)));rw[if_neg (by simp[hn])];show wpAny _ _ (seqItems? (.ref T) >>= _) _ _ s;refine wpAny_bind (wpAny_seqItems hT hd ?_);rw[Int.toNat_natCast];dsimp only;rw[hp];refine wpAny_bind (wpAny_setField ho hdd (by exact Nat.succ_pos _) ?_);have dc:=Obj.data_mapFields hdd (·.setIfInBounds 0 (rawInt 0));have c9:=Heap.get?_update_self (Obj.mapFields (·.setIfInBounds 0 (rawInt 0))) ho (Obj.isFreed_of_fields dc);refine wpAny_bind (wpAny_setField c9 dc (by exact Nat.le_of_ble_eq_true rfl) ?_)
 refine zfp (by simpa using hh) fun h' e hk ⟨oe,he,hce⟩=> ?_
 refine wpAny_bind (wpAny_isInstance (T:= "StopIteration") (b:=true) ⟨oe,he,hce⟩ isSubtype_stop ?_);refine wpAny_pure (h h' fun b ob nb eb=>hk b ob ?_)
 rw[Heap.get?_update_other _ _ (Ne.symm nb),Heap.get?_update_other _ _ (Ne.symm nb)];exact eb
noncomputable def zcN (w:World):Bool:=w.params.followText "set-order"
theorem zb9 {Q:Bool→Shared→Prop}(h:Q (zcN w) s):wpAny (model pg w) A setsByText Q E s:=by
 unfold setsByText;exact wpAny_bind (wpAny_askSetting (wpAny_pure h))
noncomputable def za5 (w:World)(S:Addr)(ep:Nat)(els:Array (Int×Value)):Array (Int×Value):=pickOrder (w.params.setOrder S ep) els
theorem zgH {S:Addr}{ep:Nat}{els:Array (Int×Value)}{t:SetTable}{Q:Array (Int×Value)→Shared→Prop}(hb:zcN w=true)(hS:SetAt s.heap S els ep t)(h:Q (za5 w S ep els) s):wpAny (model pg w) A (setWalk S) Q E s:=by
 obtain⟨oS,hoS,hdS,hf⟩:=hS;unfold setWalk;refine wpAny_bind (wpAny_setState_of hoS hdS hf ?_);refine wpAny_bind (zb9 ?_);rw[hb,if_pos rfl];exact wpAny_bind (wpAny_askSetting (wpAny_pure h))
theorem zdT {S:Addr}{k ep:Nat}{els:Array (Int×Value)}{t:SetTable}{Q:Option (Value×Nat)→Shared→Prop}(hb:zcN w=true)(hS:SetAt s.heap S els ep t)(h:Q (((za5 w S ep els)[k]?).map fun e=>(e.2,0)) s):wpAny (model pg w) A (setNext S 0 k ep) Q E s:=by
 obtain⟨oS,hoS,hdS,hf⟩:=id hS;unfold setNext;refine wpAny_bind (wpAny_setState_of hoS hdS hf ?_);refine wpAny_bind (zb9 ?_);rw[hb,if_pos rfl];rw[if_neg (by rw[bne_self_eq_false];exact Bool.false_ne_true)];exact wpAny_bind (zgH hb hS (wpAny_pure h))
theorem zgD {I S:Addr}{k n ep:Nat}{els:Array (Int×Value)}{t:SetTable}{x:Int×Value}{Q:Option Value→Shared→Prop}(hb:zcN w=true)(hit:SetIter s.heap I S (.int 0 0) k n ep)(hS:SetAt s.heap S els ep t)(hn:els.size=n)
  (hx:(za5 w S ep els)[k]? =some x) (h:∀h',SetIter h' I S (.int 0 0) (k+1) n ep→Heap.SameBut I s.heap h'→Q (some x.2) {s with heap:=h'}):
  wpAny (model pg w) A (pyNext (.ref I)) Q E s:=by
 obtain⟨o,ho,hc,hdd⟩:=hit;obtain⟨oS,hoS,hdS,hf⟩:=id hS;have hTy:s.TypeIs (.ref I) "set_iterator" :=⟨o,ho,hc⟩;unfold pyNext;refine wpAny_bind (wpAny_attempt (wpAny_callSpecial?_slot (name:=Str.ofString "__next__") hTy zat (wpAny_call_entry zat hTy zbz ?_ (zbR _))));show wpAny _ _ (fieldsOf (.ref I) >>= _) _ _ s;unfold fieldsOf;refine wpAny_bind (wpAny_bind (wpAny_load ho ?_));rw[hdd];refine wpAny_pure ?_;show wpAny _ _ (setEntries S >>= _) _ _ s;unfold setEntries;refine wpAny_bind (wpAny_bind (wpAny_setState_of hoS hdS hf (wpAny_pure ?_)));rw[if_neg (by simp[hn])];show wpAny _ _ (setNext S 0 k ep >>= _) _ _ s;refine wpAny_bind (zdT hb hS ?_);rw[hx];show wpAny _ _ (setField (.ref I) 0 (rawInt 0) >>= _) _ _ s;refine wpAny_bind (wpAny_setField ho hdd (by exact Nat.succ_pos _) ?_);have dc:=Obj.data_mapFields hdd (·.setIfInBounds 0 (rawInt 0));have c9:=Heap.get?_update_self (Obj.mapFields (·.setIfInBounds 0 (rawInt 0))) ho (Obj.isFreed_of_fields dc);refine wpAny_bind (wpAny_setField c9 dc (by exact Nat.le_of_ble_eq_true rfl) (wpAny_pure ⟨_,rfl,wpAny_pure (h _ ?_ ((Heap.SameBut.update ..).trans (Heap.SameBut.update ..)))⟩))
 exact⟨_,Heap.get?_update_self _ c9 (Obj.isFreed_of_fields (Obj.data_mapFields dc _)),((Obj.cls_mapFields ..).trans (Obj.cls_mapFields ..)).trans hc,by
  rw[Obj.data_mapFields dc];simp[rawInt]⟩
theorem zhS {I S:Addr}{k n ep:Nat}{els:Array (Int×Value)}{t:SetTable}{Q:Option Value→Shared→Prop}(hh:A.handled=none)(hb:zcN w=true)(hit:SetIter s.heap I S (.int 0 0) k n ep)(hS:SetAt s.heap S els ep t)(hn:els.size=n)
  (hx:(za5 w S ep els)[k]? =none) (h:∀h',Heap.ExtBut I s.heap h'→Q none {s with heap:=h'}):wpAny (model pg w) A (pyNext (.ref I)) Q E s:=by
 obtain⟨o,ho,hc,hdd⟩:=hit;obtain⟨oS,hoS,hdS,hf⟩:=id hS;have hTy:s.TypeIs (.ref I) "set_iterator" :=⟨o,ho,hc⟩;unfold pyNext;refine wpAny_bind (wpAny_attempt (wpAny_callSpecial?_slot (name:=Str.ofString "__next__") hTy zat (wpAny_call_entry zat hTy zbz ?_ (zbR _))));show wpAny _ _ (fieldsOf (.ref I) >>= _) _ _ s;unfold fieldsOf;refine wpAny_bind (wpAny_bind (wpAny_load ho ?_));rw[hdd];refine wpAny_pure ?_;show wpAny _ _ (setEntries S >>= _) _ _ s;unfold setEntries;refine wpAny_bind (wpAny_bind (wpAny_setState_of hoS hdS hf (wpAny_pure ?_)));rw[if_neg (by simp[hn])];show wpAny _ _ (setNext S 0 k ep >>= _) _ _ s;refine wpAny_bind (zdT hb hS ?_);rw[hx];refine wpAny_bind (wpAny_setField ho hdd (by exact Nat.le_of_ble_eq_true rfl) ?_)
 refine zfp (by simpa using hh) fun h' e hk ⟨oe,he,hce⟩=> ?_
 refine wpAny_bind (wpAny_isInstance (T:= "StopIteration") (b:=true) ⟨oe,he,hce⟩ isSubtype_stop ?_);refine wpAny_pure (h h' fun b ob nb eb=>hk b ob ?_)
 rw[Heap.get?_update_other _ _ (Ne.symm nb)];exact eb
theorem zcd {α:Type} :∀{l:List α} {k:Nat} (h:k < l.length),(l[k]::l.eraseIdx k).Perm l
 | [],k,h=>absurd h (Nat.not_lt_zero _)
 | a::t,0,h=>by rfl
 | a::t,k+1,h=>by
  have ih:=zcd (l:=t) (k:=k) (by simpa using h);simp only[List.getElem_cons_succ,List.eraseIdx_cons_succ];exact(List.Perm.swap a _ _).trans (List.Perm.cons a ih)
theorem zgM {α:Type}(next:Nat→Nat):∀(fuel k:Nat) (left:List α) (out:Array α),fuel=left.length→(pickOrder.go next fuel k left out).toList.Perm (out.toList++left):=by
 intro fuel
 induction fuel with
 | zero=>
  rintro k left out h
  have:left= []:=List.length_eq_zero_iff.mp h.symm
  subst this;exact(List.append_nil _).symm▸List.Perm.refl _
 | succ fuel ih=>
  rintro k left out h
  have hl:left.length≠0:=by lia
  have hlt:next k % left.length < left.length:=Nat.mod_lt _ (Nat.pos_of_ne_zero hl);rw[pickOrder.go.eq_2,List.getElem?_eq_getElem hlt];dsimp only;refine(ih (k+1) _ _ (by rw[List.length_eraseIdx_of_lt hlt];lia)).trans ?_;rw[Array.toList_push,List.append_assoc];refine List.Perm.append_left _ ?_;exact(zcd hlt)
theorem zcI {α:Type}(next:Nat→Nat)(xs:Array α):(pickOrder next xs).toList.Perm xs.toList:=by
 have:=zgM next xs.size 0 xs.toList #[] (by rfl);exact this
theorem zgs {M:Model}{src:Source}{n:Nat}{Q:Nat→Shared→Prop}(hn:n≠0)(h:∀k dr,k < n→Q k {s with drawn:=dr}):wpAny M A (choose src n) Q E s:=fun Γ p hΓ=>by
 unfold choose;rw[Sem.wp_choose];exact⟨hn,h _ _ (Nat.mod_lt _ (Nat.pos_of_ne_zero hn))⟩
theorem zdq {M:Model}{α:Type} :∀(n:Nat) (xs:List α) (s:Shared) (Q:List α→Shared→Prop),n=xs.length→(∀l dr,l.Perm xs→Q l {s with drawn:=dr})→wpAny M A (drawOrder n xs) Q E s
 | 0,xs,s,Q,hn,h=>by
  have:xs= []:=List.length_eq_zero_iff.mp hn.symm;subst this;exact wpAny_pure (h [] s.drawn .nil)
 | n+1,[],s,Q,hn,h=>by simp at hn
 | n+1,x::xs,s,Q,hn,h=>by
  show wpAny _ _ (choose .order (x::xs).length >>= _) _ _ _;refine wpAny_bind (zgs (by simp) fun k dr hk=> ?_);rw[List.getElem?_eq_getElem hk];dsimp only;refine wpAny_bind (zdq n _ {s with drawn:=dr} _ (by rw[List.length_eraseIdx_of_lt hk];simp at hn ⊢;assumption) fun l dr' hl=>wpAny_pure ?_);exact h _ dr' ((List.Perm.cons _ hl).trans (zcd hk))
noncomputable def zo0 (w:World)(I S T:Addr)(ord:List Value)(k:Nat)(h:Heap):Prop:=
 ∃els ep t,SetAt h S els ep t∧((zcN w=true∧SetIter h I S (.int 0 0) k els.size ep∧ord=(za5 w S ep els).toList.map (·.2)) ∨
  ∃ot pl nn,SetIter h I S (.ref T) k els.size ep∧h.get? T=some ot∧ot.data= .seq pl nn∧pl.size=ord.length∧∀(j:Nat) (u:Value),ord[j]? =some u→∃(place:Nat) (tk:Tok) (x:Int×Value),pl[j]? =some (.int place tk)∧els[place]? =some x∧x.2=u)
theorem SetIter.at {h h':Heap}{I S:Addr}{first:Value}{k n ep:Nat}(x:SetIter h I S first k n ep)(e:∀o,h.get? I=some o→h'.get? I=some o):SetIter h' I S first k n ep:=let⟨o,ho,r⟩:=x;⟨o,e o ho,r⟩
theorem SetAt.at {h h':Heap}{S:Addr}{els:Array (Int×Value)}{ep:Nat}{t:SetTable}(x:SetAt h S els ep t)(e:∀o,h.get? S=some o→h'.get? S=some o):SetAt h' S els ep t:=let⟨o,ho,r⟩:=x;⟨o,e o ho,r⟩
theorem zkz {I S T:Addr}{ord:List Value}(hh:A.handled=none)(hSI:S≠I)(hTI:T≠I):
  WalksS pg w A I [I,S,T] [I] (fun a b=>a=b) ord.length (fun j u=>ord[j]? =some u) (fun k s=>zo0 w I S T ord k s.heap) where
 sub:=fun b hb=>by simp at hb;simp[hb]
 grefl:=fun _=>rfl
 gtrans:=fun _ _ _ a b=>a.trans b
 frame:=fun k s h' tk st _ hk=>by
  obtain⟨els,ep,t,hS,c⟩:=st;refine⟨els,ep,t,hS.at (hk S (by exact List.mem_cons_of_mem _ List.mem_cons_self)),?_⟩
  rcases c with ⟨hb,hit,ho⟩ | ⟨ot,pl,nn,hit,hT,r⟩
  ·exact .inl ⟨hb,hit.at (hk I (by exact List.mem_cons_self)),ho⟩
  ·exact .inr ⟨ot,pl,nn,hit.at (hk I (by exact List.mem_cons_self)),hk T (by exact List.mem_cons_of_mem _ (List.mem_cons_of_mem _ List.mem_cons_self)) ot hT,r⟩
 item:=fun k s Q E hi st hQ=>by
  obtain⟨els,ep,t,hS,c⟩:=st
  have mv:∀h',Heap.SameBut I s.heap h'→Moved [I] (fun a b=>a=b) s {s with heap:=h'} :=fun h' hs=>⟨fun b o hb e=>(hs.2 b fun z=>hb (by simp[z])).trans e,rfl,rfl,rfl,Nat.le_refl _⟩
  rcases c with ⟨hb,hit,ho⟩ | ⟨ot,pl,nn,hit,hT,hd,hz,hp⟩
  ·have hk:k < (za5 w S ep els).size:=by rw[ho] at hi;simpa using hi
   have e1:(za5 w S ep els)[k]? =some (za5 w S ep els)[k]:=Array.getElem?_eq_getElem hk
   refine zgD hb hit hS rfl e1 fun h' hit' hs=>hQ _ _ ?_ ⟨els,ep,t,hS.at fun o e=>(hs.2 S hSI).trans e,.inl ⟨hb,hit',ho⟩⟩ (mv h' hs)
   rw[ho];simp[e1]
  ·obtain⟨place,tk,x,h1,h2,h3⟩:=hp k ord[k] (List.getElem?_eq_getElem hi)
   refine zfQ hit hS rfl hT hd h1 h2 fun h' hit' hs=>hQ _ _ ?_ ⟨els,ep,t,hS.at fun o e=>(hs.2 S hSI).trans e,.inr ⟨ot,pl,nn,hit',(hs.2 T hTI).trans hT,hd,hz,hp⟩⟩ (mv h' hs)
   rw[h3];exact List.getElem?_eq_getElem hi
 done:=fun s Q E st hQ=>by
  obtain⟨els,ep,t,hS,c⟩:=st
  have mv:∀h',Heap.ExtBut I s.heap h'→Moved [I] (fun a b=>a=b) s {s with heap:=h'} :=fun h' hs=>⟨fun b o hb e=>hs b o (fun z=>hb (by simp[z])) e,rfl,rfl,rfl,Nat.le_refl _⟩
  rcases c with ⟨hb,hit,ho⟩ | ⟨ot,pl,nn,hit,hT,hd,hz,hp⟩
  ·exact zhS hh hb hit hS rfl (by rw[ho];simp) fun h' hs=>hQ _ (mv h' hs)
  ·exact zgE hh hit hS rfl hT hd (by rw[←hz];simp) fun h' hs=>hQ _ (mv h' hs)
 self:=fun k s Q E st h=>by
  obtain⟨els,ep,t,hS,c⟩:=st
  rcases c with ⟨hb,hit,ho⟩ | ⟨ot,pl,nn,hit,r⟩
  ·exact zdS hit h
  ·exact zdS hit h
noncomputable def znE:Value→Str
 | .str x _=>x
 | _=>Str.empty
theorem zen:∀{vs:List Value},(∀u∈vs,∃x t,u= .str x t)→StrsAre vs (vs.map znE)
 | [],_=>.nil
 | u::r,h=>by
  obtain⟨x,t,rfl⟩:=h u (by exact List.mem_cons_self);exact .cons x t (zen fun u hu=>h u (by simp[hu]))
theorem zet:∀{zs l:List Str},zs.Nodup→(∀k∈zs,k∈l)→l.length=zs.length→l.Perm zs
 | [],l,_,_,hl=>by have:l= []:=List.length_eq_zero_iff.mp hl;subst this;exact .nil
 | k::zs,l,nd,hs,hl=>by
  have hk:k∈l:=hs k (by exact List.mem_cons_self);have p:=List.perm_cons_erase hk;have nd':=List.nodup_cons.mp nd;refine p.trans (List.Perm.cons k (zet nd'.2 (fun y hy=> ?_) ?_))
  ·exact(List.mem_erase_of_ne (fun z:y=k=>nd'.1 (z▸hy))).mpr (hs y (by simp[hy]))
  ·rw[List.length_erase_of_mem hk,hl];simp
noncomputable def zl8 (zs:List Str)(ord:List Value):Prop:=∃ss,StrsAre ord ss∧ss.Perm zs
theorem zgI {els:Array (Int×Value)}{zs:List Str}{ord:List Value}(nd:zs.Nodup)(hel:ElemsOf (sk pg w) els.toList)(hmem:∀k,decide (k∈zs)=true↔∃e∈els.toList,(sk pg w).is k e.2=true)(hn:els.size=zs.length)
  (hp:ord.Perm (els.toList.map (·.2))):zl8 zs ord:=by
 have all:∀u∈els.toList.map (·.2),∃x t,u= .str x t:=fun u hu=>by
  obtain⟨e,he,rfl⟩:=List.mem_map.mp hu;obtain⟨k,hk,_⟩:=(hel e he).1;obtain⟨t,ht⟩:=Value.isStrOf_shape hk;exact⟨k,t,ht⟩
 refine⟨ord.map znE,zen fun u hu=>all u (hp.mem_iff.mp hu),(hp.map znE).trans (zet nd (fun k hk=> ?_) (by simp[hn]))⟩;obtain⟨e,he,hk'⟩:=(hmem k).mp (decide_eq_true hk);obtain⟨t,ht⟩:=Value.isStrOf_shape hk';exact List.mem_map.mpr ⟨e.2,List.mem_map_of_mem (f:=(·.2)) he,by rw[ht];rfl⟩
theorem zgG {S:Addr}{zs:List Str}{Q:Value→Shared→Prop}(hS:SetT pg w s.heap S zs)(h2:2≤zs.length)(h64:zs.length < 64)
  (h:∀I T ord h' dr,zo0 w I S T ord 0 h'→S≠I→T≠I→s.heap.objs.size≤I→(T=S∨s.heap.objs.size≤T)→T < h'.objs.size→zl8 zs ord→ord.length=zs.length→(∀b o,s.heap.get? b=some o→h'.get? b=some o)→I < h'.objs.size→Q (.ref I) {s with heap:=h',drawn:=dr}):
  wpAny (model pg w) A (pyIter (.ref S)) Q E s:=by
 obtain⟨nd,o,els,ep,t,ho,hex,hd,hel,hmem,hb,hf,hn,hp⟩:=hS;have hp':t.plain=false:=hp (fun z=>by rw[z] at h2;simp at h2);have hT:s.TypeIs (.ref S) "set" :=⟨o,ho,hex.1⟩;have hlt:=Heap.lt_size ho;refine wpAny_pyIter_slot hT zcH (wpAny_call_entry zcH hT zeU ?_ (zfk _));unfold Builtin.«frozenset.__iter__»;refine wpAny_bind (m:=Builtin.Frozenset.slot0 "__iter__" _) (wpAny_of_eq (a:=S) (by first | rfl | kernel_rfl) ?_);unfold Builtin.Frozenset.sizeOf setEntries;refine wpAny_bind (wpAny_bind (wpAny_bind (wpAny_setState_of ho hd hf (wpAny_pure (wpAny_pure ?_)))));unfold setDrawn;refine wpAny_bind (wpAny_bind (wpAny_setState_of ho hd hf (wpAny_bind (zb9 (wpAny_pure ?_)))))
 have hdr:(!zcN w&&(!t.plain&&decide (els.size > 1)))= !zcN w:=by
  have:decide (els.size > 1)=true:=decide_eq_true (by rw[hn];assumption)
  rw[hp',this];simp
 show wpAny _ _ (if (!zcN w&&(!t.plain&&decide (els.size > 1)))=true then _ else _) _ _ _;rw[hdr]
 cases hbt:zcN w with
 | true=>
  rw[if_neg (by decide)];refine wpAny_bind (wpAny_pure ?_);unfold setEpoch newFields;refine wpAny_bind (wpAny_bind (wpAny_setState_of ho hd hf (wpAny_pure (wpAny_bind (wpAny_newObj_type (wpAny_pure ⟨_,rfl,"set_iterator",_,⟨_,Heap.get?_push_size _ rfl,rfl⟩,zat.lookup,?_⟩))))));refine h s.heap.objs.size S _ _ s.drawn ⟨els,ep,t,⟨o,Heap.get?_push_of_some _ ho,hd,hf⟩,.inl ⟨hbt,⟨_,Heap.get?_push_size _ rfl,rfl,rfl⟩,rfl⟩⟩ (Nat.ne_of_lt hlt) (Nat.ne_of_lt hlt) (Nat.le_refl _) (.inl rfl) (by rw[Heap.size_push];exact Nat.lt_succ_of_lt hlt) (zgI nd hel hmem hn ((zcI _ _).map _)) ?_ (fun b ob e=>Heap.get?_push_of_some _ e) (by rw[Heap.size_push];exact Nat.lt_succ_self _);have:=(zcI (w.params.setOrder S ep) els).length_eq;simp[za5] at this ⊢;rw[this,hn]
 | false=>
  rw[if_pos (show(!false)=true from rfl)];refine wpAny_bind (zdq _ _ _ _ (by simp) fun l dr hl=> ?_);unfold newTuple
  have hll:l.length=els.size:=by rw[hl.length_eq];simp
  refine wpAny_bind (wpAny_newObj_type ?_ (by show(l.map fun i=>rawInt (i:Nat)).toArray.size≤sizeLine;rw[List.size_toArray,List.length_map,hll,hn,sizeLine_eq];exact llK ‹_› rfl));unfold setEpoch newFields;have c9:(s.heap.push {cls:=.type "tuple",data:=.seq (l.map fun i=>rawInt (i:Nat)).toArray}).get? S=some o:=Heap.get?_push_of_some _ ho;refine wpAny_bind (wpAny_bind (wpAny_setState_of (s:= {s with heap:=s.heap.push {cls:=.type "tuple",data:=.seq (l.map fun i=>rawInt (i:Nat)).toArray},drawn:=dr}) c9 hd hf (wpAny_pure (wpAny_bind (wpAny_newObj_type (wpAny_pure ⟨_,rfl,"set_iterator",_,⟨_,Heap.get?_push_size _ rfl,rfl⟩,zat.lookup,?_⟩))))));have e1:(s.heap.push {cls:=.type "tuple",data:=.seq (l.map fun i=>rawInt (i:Nat)).toArray}).objs.size=s.heap.objs.size+1:=Heap.size_push ..
  have hin:∀i∈l,i < els.size:=fun i hi=>by simpa using hl.mem_iff.mp hi
  refine h _ s.heap.objs.size (l.map fun i=>((els[i]?).map (·.2)).getD .none) _ dr ⟨els,ep,t,⟨o,Heap.get?_push_of_some _ c9,hd,hf⟩,.inr ⟨_,_,0,⟨_,Heap.get?_push_size _ rfl,rfl,rfl⟩,Heap.get?_push_of_some _ (Heap.get?_push_size _ rfl),rfl,by simp,fun j u hu=> ?_⟩⟩
   (by rw[e1];exact Nat.ne_of_lt (Nat.lt_succ_of_lt hlt)) (by rw[e1];exact Nat.ne_of_lt (Nat.lt_succ_self _)) (by rw[e1];exact Nat.le_succ _) (.inr (Nat.le_refl _)) (by rw[Heap.size_push,e1];exact Nat.lt_succ_of_lt (Nat.lt_succ_self _)) (zgI nd hel hmem hn ?_) (by simp[hll,hn]) (fun b ob e=>Heap.get?_push_of_some _ (Heap.get?_push_of_some _ e)) (Heap.lt_size (Heap.get?_push_size _ rfl))
  ·rw[List.getElem?_map] at hu
   cases hj:l[j]? with
   | none=>rw[hj] at hu;exact nsE hu
   | some p=>
    rw[hj] at hu;have hp2:=hin p (List.mem_of_getElem? hj);have e2:els[p]? =some els[p]:=Array.getElem?_eq_getElem hp2;refine⟨p,0,els[p],by simp[hj,rawInt],e2,?_⟩;simp only[Option.map_some,e2,Option.getD_some,Option.some.injEq] at hu;exact hu
  ·refine(hl.map _).trans ?_
   have e:els.toList.map (·.2)=(List.range els.size).map (fun i=>((els[i]?).map (·.2)).getD .none):=by
    refine List.ext_getElem? fun j=> ?_
    rw[List.getElem?_map,List.getElem?_map]
    by_cases hj:j < els.size
    ·simp[hj]
    ·simp[hj]
   rw[e]
theorem ziu {S:Addr}{zs:List Str}{Q:List Value→Shared→Prop}(hh:A.handled=none)(hS:SetT pg w s.heap S zs)(h2:2≤zs.length)(h64:zs.length < 64)
  (h:∀vs s',zl8 zs vs→(∀b o,s.heap.get? b=some o→s'.heap.get? b=some o)→s'.gens=s.gens→s'.os=s.os→Q vs s'):wpAny (model pg w) A (collect (.ref S)) Q E s:=by
 have hT:s.TypeIs (.ref S) "set" :=by obtain⟨nd,o,els,ep,t,ho,hex,_⟩:=hS;exact⟨o,ho,hex.1⟩
 have hlt:S < s.heap.objs.size:=by obtain⟨o,ho,_⟩:=hT;exact Heap.lt_size ho
 unfold collect;refine wpAny_bind (wpAny_runValue (codeAny_builtin PySem.F.entry_proto_collect ?_));rw[Around.under_plainId PySem.F.plain_proto_collect _];show wpAny _ A.in1 (newList [] >>= fun l=>again (.builtin "list.__iadd__" ⟨[l,.ref S],[]⟩)) _ _ s;refine wpAny_bind (wpAny_newObj_type ?_);refine wpAny_pure ⟨plainId_quiet PySem.F.plain_list_iadd _,codeAny_builtin PySem.F.entry_list_iadd ?_⟩;rw[Around.under_plainId PySem.F.plain_list_iadd _];have e1:(s.heap.push {cls:=.type "list",data:=.seq ([]:List Value).toArray}).objs.size=s.heap.objs.size+1:=Heap.size_push ..;have hL:(s.heap.push {cls:=.type "list",data:=.seq ([]:List Value).toArray}).get? s.heap.objs.size=some {cls:=.type "list",data:=.seq ([]:List Value).toArray} :=Heap.get?_push_size _ rfl
 have hk1:∀b o,s.heap.get? b=some o→(s.heap.push {cls:=.type "list",data:=.seq ([]:List Value).toArray}).get? b=some o:=fun b o e=>Heap.get?_push_of_some _ e
 have hS1:SetT pg w (s.heap.push {cls:=.type "list",data:=.seq ([]:List Value).toArray}) S zs:=hS.at fun o e=>hk1 S o e
 generalize s.heap.push {cls:=.type "list",data:=.seq ([]:List Value).toArray} =cn at e1 hL hk1 hS1 ⊢
 have hT1:Shared.TypeIs {s with heap:=cn} (.ref S) "set" :=by obtain⟨nd,o,els,ep,t,ho,hex,_⟩:=hS1;exact⟨o,ho,hex.1⟩
 show wpAny _ A.in1 (Builtin.List.listExtendWith (.ref s.heap.objs.size) (.ref S) (.ref s.heap.objs.size)) _ _ _;unfold Builtin.List.listExtendWith;refine wpAny_bind (wpAny_typeOf hT1 ?_)
 have h1:Builtin.List.listSameRef (.ref s.heap.objs.size) (.ref S)=false:=by simp[Builtin.List.listSameRef];exact fun z=>Nat.ne_of_lt hlt z.symm
 have h3:(Value.type "set" ==Value.type "list")=false:=by decide
 have h4:(Value.type "set" ==Value.type "tuple")=false:=by decide
 rw[h1,h3,h4,if_neg (by exact Bool.false_ne_true)];refine wpAny_bind (zgG (s:= {s with heap:=cn}) hS1 h2 h64 fun I T ord h' dr st nSI nTI hI hT' hTlt so hol hk hIlt=> ?_)
 have hT2:Shared.TypeIs {s with heap:=h',drawn:=dr} (.ref S) "set" :=by obtain⟨o,ho,hc⟩:=hT1;exact⟨o,hk _ _ ho,hc⟩
 refine wpAny_bind (wpAny_holding ?_);unfold Builtin.List.listLengthHint;refine wpAny_bind (wpAny_specialOf hT2 PySem.F.slot_set_len.lookup ?_)
 wp_delta
 refine wpAny_bind (wpAny_isInstance (T:= "set") (b:=true) hT2 (by rw[isSubtype_type];kernel_rfl) ?_);show wpAny _ A.in1 (typeOf (Value.ref S) >>= _) _ _ _;refine wpAny_bind (wpAny_typeOf hT2 ?_);refine wpAny_pure ?_;rw[if_pos (by decide+kernel)];refine wpAny_bind (wpAny_rule ?_);refine wpAny_bind ?_;show wpAny _ A.in1 (updateSeq s.heap.objs.size (·.push .none) >>= fun _=>updateSeq s.heap.objs.size (·.pop)) _ _ _;have hS2:h'.get? s.heap.objs.size=some {cls:=.type "list",data:=.seq ([]:List Value).toArray} :=hk _ _ hL;refine wpAny_bind (wpAny_updateSeq hS2 rfl ?_);have hS3:=Heap.get?_update_self (Obj.mapSeq (·.push Value.none)) hS2 rfl;refine wpAny_updateSeq hS3 rfl ?_;have hS4:=Heap.get?_update_self (Obj.mapSeq (·.pop)) hS3 rfl
 have oth:∀b o,b≠s.heap.objs.size→h'.get? b=some o→((h'.update s.heap.objs.size (Obj.mapSeq (·.push Value.none))).update s.heap.objs.size (Obj.mapSeq (·.pop))).get? b=some o:=
  fun b o hb e=>(Heap.get?_update_other _ _ (Ne.symm hb)).trans ((Heap.get?_update_other _ _ (Ne.symm hb)).trans e)
 have nI:s.heap.objs.size≠I:=fun z=>by
  have h5:cn.objs.size≤I:=hI
  rw[e1,←z] at h5;exact absurd h5 (Nat.not_succ_le_self _)
 have nS:s.heap.objs.size≠S:=Nat.ne_of_gt hlt
 have nT:s.heap.objs.size≠T:=fun z=>by
  rcases hT' with rfl | h5
  ·exact nS z
  ·have h6:cn.objs.size≤T:=h5
   rw[e1,←z] at h6;exact absurd h6 (Nat.not_succ_le_self _)
 have W:=zkz (pg:=pg) (w:=w) (A:=A.in1) (ord:=ord) (by simpa using hh) nSI nTI
 refine wpAny_pure ⟨plainId_quiet PySem.F.plain_extend_loop _,codeAny_extend_loopS W (by rw[hol,sizeLine_eq];exact llK ‹_› rfl) _ (by simp[nI,nS,nT]) _ ord.length 0 _ _ _ rfl (Nat.zero_le _)
  (W.frame 0 ({s with heap:=h',drawn:=dr} :Shared) _ s.toks st (Nat.le_refl _) fun b hb o e=>oth b o (fun z=>by subst z;simp[nI,nS,nT] at hb) e) hS4 (ItemsOf.nil _) fun s' acc' c' hm hS' hacc=> ?_⟩
 show wpAny _ A (load s.heap.objs.size >>= _) _ _ s';refine wpAny_bind (wpAny_load hS' ?_)
 have hacc':acc'.toList=ord:=by
  refine List.ext_getElem? fun j=> ?_
  rw[Array.getElem?_toList]
  by_cases hj:j < acc'.size
  ·have e2:acc'[j]? =some acc'[j]:=Array.getElem?_eq_getElem hj
   rw[e2,hacc.2 j _ e2]
  ·have e2:acc'[j]? =none:=by simp at hj ⊢;exact hj
   rw[e2];rw[hacc.1] at hj;simp at hj ⊢;exact hj
 refine wpAny_pure ?_;rw[hacc'];refine h ord s' so (fun b o e=>hm.heap b o (fun hb=> ?_) (oth b o ?_ (hk b o (hk1 b o e)))) hm.gens.symm hm.os
 ·have hb':=Heap.lt_size e
  have h5:cn.objs.size≤I:=hI;rw[e1] at h5;simp at hb
  rcases hb with rfl | rfl
  ·exact absurd hb' (Nat.lt_irrefl _)
  ·exact absurd hb' (Nat.not_lt.mpr (Nat.le_of_succ_le h5))
 ·exact Nat.ne_of_lt (Heap.lt_size e)
theorem Rel.adopt {h h':Heap}{de:Cell}(R:Rel pg w K Φ ρ H h)(hk:∀b o,h.get? b=some o→h'.get? b=some o)(hz:h.objs.size < h'.objs.size)
  (hc:Moves [] h h' ρ (ρ++ [h.objs.size])→CellAt pg w h' (ρ++ [h.objs.size]) h.objs.size de):
  Rel pg w K Φ (ρ++ [h.objs.size]) (H++ [de]) h'∧Moves [] h h' ρ (ρ++ [h.objs.size]):=by
 have m:Moves [] h h' ρ (ρ++ [h.objs.size]):=⟨fun b o e _ _=>⟨o,hk b o e,.inl rfl⟩,Nat.le_of_lt hz,⟨[h.objs.size],rfl,by simp⟩,by exact zad⟩
 have hnm:h.objs.size∉ρ:=fun z=>absurd (R.live _ z) (Nat.lt_irrefl _)
 refine⟨⟨R.topMoves m (by exact zad),by simp[R.len],?_,fun j d b hd hb=> ?_,fun b hb=> ?_,fun b hb=> ?_,R.low,Nat.lt_of_lt_of_le R.big m.size,za4 R.frames m⟩,m⟩
 ·rw[List.nodup_append]
  exact⟨R.nd,by exact List.nodup_cons.mpr ⟨List.not_mem_nil,List.nodup_nil⟩,fun a ha b hb=>by simp at hb;subst hb;rintro rfl;exact hnm ha⟩
 ·by_cases hj:j < ρ.length
  ·rw[List.getElem?_append_left hj] at hb
   rw[List.getElem?_append_left (by rw[←R.len];exact hj)] at hd
   exact(R.cell j d b hd hb).moves m fun o' q=>hk b o' q
  ·have hj':j=ρ.length:=by
    have:=(List.getElem?_eq_some_iff.mp hb).1
    simp at this;lia
   subst hj';rw[List.getElem?_append_right (Nat.le_refl _)] at hb;rw[R.len,List.getElem?_append_right (Nat.le_refl _)] at hd;simp at hb hd;subst hb hd;exact hc m
 ·rcases List.mem_append.mp hb with q | q
  ·exact R.apart b q
  ·simp at q;subst q
   cases z:K.lookup h.objs.size with
   | none=>rfl
   | some o'=>exact absurd (Heap.lt_size (R.top _ _ z)) (Nat.lt_irrefl _)
 ·rcases List.mem_append.mp hb with q | q
  ·exact Nat.lt_of_lt_of_le (R.live b q) (Nat.le_of_lt hz)
  ·simp at q;subst q;exact hz
theorem SC.cj (hc:Φ.calm=Bool.true){ts:List Str}(L:LH H x (txts ts))(hb:ts.length < 1000):SC pg w K Φ d (.type "set") [x] H (.obj H.length) (H++ [.uset (uniq ts)]):=fun ρ s A vs ok R g p=>by
 refine VRs.oneE p fun _ p=> ?_
 obtain⟨c,items,rfl,hl,q⟩:=L.at R p
 have hsb:ts.length+1 < scanBound:=by unfold scanBound;exact slK ‹_› rfl
 refine zav (zgn (ok.handled hc) hl (by simpa using zdz q) hsb fun s' D hz=> ?_);obtain⟨hk,hg,ho,hS⟩:=D
 have hlt:s.heap.objs.size < s'.heap.objs.size:=by obtain⟨_,o,_,_,_,e,_⟩:=hS;exact Heap.lt_size e
 obtain⟨R',m⟩:=R.adopt (de:=.uset (uniq ts)) (h':=s'.heap) (fun b o e=>hk b o (Heap.lt_size e) e) hlt fun _=>.uset hS
 refine⟨_,m,R',by rw[hg];exact g,.obj ?_,ho⟩
 rw[←R.len,List.getElem?_append_right (Nat.le_refl _)];simp
theorem SC.bi (hc:Φ.calm=Bool.true){zs:List Str}(q:H[j]? =some (.uset zs))(h2:2≤zs.length)(h64:zs.length < 64):SC pg w K Φ d (.builtin "sorted") [.obj j] H (.lst (txts (srt zs))) H:=fun ρ s A vs ok R g p=>by
 refine VRs.oneE p fun _ p=> ?_
 cases p with
 | @obj _ a ha=>
  have hS:SetT pg w s.heap a zs:=by cases R.cell j _ _ q ha;assumption
  refine zgC ok h64 fun Q E h=> ?_
  refine zav (ziu (ok.handled hc) hS h2 h64 fun vs s' so hk hg ho hz=> ?_);obtain⟨ss,h1,h2'⟩:=so;have mv:Moves [] s.heap s'.heap ρ ρ:=Moves.grow hk hz (by exact zad);exact h vs s' ss h2' mv (R.moves mv (fun b _ o e=>hk b o e) (by exact zad)) (by rw[hg];exact g) ho (zfu h1)
end
section
theorem zb1:∀(a b:Nat) (m:Sre.M),m.runFor (a+b)=(m.runFor a).runFor b:=by
 intro a
 induction a with
 | zero=>
  rintro b m
  rw[Nat.zero_add];rfl
 | succ a ih=>
  rintro b m
  rw[Nat.add_right_comm];show(if m.outcome.isSome=true then m else _)=(if m.outcome.isSome=true then m else _:Sre.M).runFor b
  by_cases h:m.outcome.isSome=true
  ·rw[if_pos h,if_pos h]
   cases b with
   | zero=>rfl
   | succ b=>show _=(if m.outcome.isSome=true then m else _:Sre.M);rw[if_pos h]
  ·rw[if_neg h,if_neg h];exact ih b m.step
theorem zcT {m:Sre.M}(h:m.outcome.isSome=true):∀n,m.runFor n=m:=by
 intro n
 induction n with
 | zero=>
  exact rfl
 | succ n _=>
  show(if m.outcome.isSome=true then m else _:Sre.M)=m;rw[if_pos h]
noncomputable def Goes (n:Nat)(m m':Sre.M):Prop:=∃k,k≤n∧m.runFor k=m'
theorem Goes.trans {a b:Nat}{m m' m'':Sre.M}(x:Goes a m m')(y:Goes b m' m''):Goes (a+b) m m'':=by
 obtain⟨i,hi,ei⟩:=x;obtain⟨j,hj,ej⟩:=y;exact⟨i+j,by lia,by rw[zb1,ei,ej]⟩
theorem Goes.mono {a b:Nat}{m m':Sre.M}(x:Goes a m m')(h:a≤b):Goes b m m':=let⟨i,hi,e⟩:=x;⟨i,Nat.le_trans hi h,e⟩
noncomputable def Ends (n:Nat)(m:Sre.M)(r:Option (Nat×Nat)):Prop:=
 ∃m',Goes n m m'∧match r with
  | some (b,e)=>m'.outcome=some .matched∧m'.start=b∧m'.handed=e
  | none=>m'.outcome=some .failed
theorem Goes.ends {a b:Nat}{m m':Sre.M}{r}(x:Goes a m m')(y:Ends b m' r):Ends (a+b) m r:=let⟨z,g,q⟩:=y;⟨z,x.trans g,q⟩
theorem Ends.mono {a b:Nat}{m:Sre.M}{r}(x:Ends a m r)(h:a≤b):Ends b m r:=let⟨z,g,q⟩:=x;⟨z,g.mono h,q⟩
noncomputable def zcE:Array Nat:= #[14,4,0,1,1,6,1,16,46,1]
noncomputable def atD (text:Array Nat)(s:Nat)(seen:Sre.Seen)(first:Bool):Sre.M:=
 {code:=zcE,text,lim:=text.size,start:=s,lastStart:=text.size,pc:=5,pos:=s,handed:=s,outermost:=first,marks:= #[],frames:= [{wait:=.nextStart,pc:=5,pos:=s,outermost:=first}],weight:=1,seen}
theorem zkT {text:Array Nat}{k:Nat}(h:k < text.size):Sre.forSearch zcE text 0 k text.size false=atD text k (({} :Sre.Seen).add 14) true:=by
 unfold Sre.forSearch
 have h1:(decide (k > text.size)|| decide (text.size - k < (Sre.header zcE).1))=false:=by
  have:(Sre.header zcE).1=1:=rfl
  rw[this];simp;lia
 dsimp only;rw[h1];rfl
theorem zhW {text:Array Nat} :Ends 1 (Sre.forSearch zcE text 0 text.size text.size false) none:=by
 unfold Sre.forSearch
 have h1:(decide (text.size > text.size)|| decide (text.size - text.size < (Sre.header zcE).1))=true:=by
  have:(Sre.header zcE).1=1:=rfl
  rw[this];simp
 dsimp only;rw[h1];exact⟨_,⟨1,Nat.le_refl _,rfl⟩,rfl⟩
noncomputable def bol (text:Array Nat)(s:Nat):Bool:=s==0|| text.getD (s - 1) 0==10
theorem zpa {text:Array Nat}{s:Nat}{seen:Sre.Seen}{first:Bool} :∃seen',(atD text s seen first).step=
  if bol text s=true then {atD text s seen' first with pc:=7} else {atD text s seen' first with answer:=some false} :=⟨(seen.add 6).add 44,rfl⟩
theorem litD {text:Array Nat}{s:Nat}{seen:Sre.Seen}{first:Bool} :∃seen',({atD text s seen first with pc:=7} :Sre.M).step=
  if s ≥ text.size then {atD text s seen' first with pc:=7,answer:=some false}
  else if text.getD s 0==46 then {atD text s seen' first with pc:=9,pos:=s+1} else {atD text s seen' first with pc:=7,answer:=some false} :=by
 refine⟨seen.add 16,?_⟩;show(if s ≥ text.size then _ else match Sre.accepts zcE 7 (text.getD s 0) (seen.add 16) with | .error why=>_ | .ok (false,seen)=>_ | .ok (true,seen)=>_:Sre.M)=_
 by_cases h:s ≥ text.size
 ·rw[if_pos h,if_pos h];rfl
 ·rw[if_neg h,if_neg h]
  have e:Sre.accepts zcE 7 (text.getD s 0) (seen.add 16)= .ok (text.getD s 0==46,seen.add 16):=rfl;rw[e]
  cases text.getD s 0==46<;>rfl
theorem sucD {text:Array Nat}{s:Nat}{seen:Sre.Seen}{first:Bool} :∃m',({atD text s seen first with pc:=9,pos:=s+1} :Sre.M).runFor 3=m'∧m'.outcome=some .matched∧m'.start=s∧m'.handed=s+1:=by
 cases first<;>exact⟨_,rfl,rfl,rfl,rfl⟩
theorem zpc {text:Array Nat}{s:Nat}{seen:Sre.Seen}{first:Bool}{p:Nat} :({atD text s seen first with pc:=p,answer:=some false} :Sre.M).step=
  if s < text.size then atD text (s+1) seen false else {atD text s seen first with frames:= [],weight:=0,answer:=some false} :=by
 show(if s < text.size then _ else _)=_;rfl
noncomputable def hitD (text:Array Nat)(s:Nat):Bool:=bol text s&&decide (s < text.size)&&text.getD s 0==46
theorem oneD {text:Array Nat}{s:Nat}(seen:Sre.Seen)(first:Bool):if hitD text s=true then Ends 5 (atD text s seen first) (some (s,s+1)) else if s < text.size then∃seen',Goes 3 (atD text s seen first) (atD text (s+1) seen' false) else Ends 4 (atD text s seen first) none:=by
 have r1:∀(m:Sre.M),m.outcome=none→m.runFor 1=m.step:=fun m h=>by show(if m.outcome.isSome=true then m else m.step)=_;rw[if_neg (by rw[h];simp)]
 obtain⟨sn,e1⟩:=zpa (text:=text) (s:=s) (seen:=seen) (first:=first);have g1:Goes 1 (atD text s seen first) (atD text s seen first).step:=⟨1,Nat.le_refl _,r1 _ rfl⟩;rw[e1] at g1
 have fail:∀(sn:Sre.Seen) (p n:Nat),n≤2→Goes n (atD text s seen first) {atD text s sn first with pc:=p,answer:=some false} →hitD text s=false →
   if hitD text s=true then Ends 5 (atD text s seen first) (some (s,s+1)) else if s < text.size then∃seen',Goes 3 (atD text s seen first) (atD text (s+1) seen' false) else Ends 4 (atD text s seen first) none:=fun sn p n hn g hz=>by
  rw[if_neg (by rw[hz];simp)];have e:=zpc (text:=text) (s:=s) (seen:=sn) (first:=first) (p:=p);have g':Goes 1 ({atD text s sn first with pc:=p,answer:=some false} :Sre.M) ({atD text s sn first with pc:=p,answer:=some false} :Sre.M).step:=⟨1,Nat.le_refl _,r1 _ rfl⟩;rw[e] at g'
  split
  ·rename_i hs
   rw[if_pos hs] at g';exact⟨sn,(g.trans g').mono (by exact slK ‹_› rfl)⟩
  ·rename_i hs
   rw[if_neg hs] at g';exact⟨_,((g.trans g').trans ⟨1,Nat.le_refl _,rfl⟩).mono (by solve_by_elim (maxDepth:=5) [leK,slK,Nat.le_trans,Nat.lt_of_lt_of_le,Nat.lt_of_le_of_lt,Nat.le_of_lt,Nat.le_add_right,Nat.succ_le_succ,Nat.le_succ]),rfl⟩
 by_cases hb:bol text s=true
 ·rw[if_pos hb] at g1
  obtain⟨sn2,e2⟩:=litD (text:=text) (s:=s) (seen:=sn) (first:=first);have g2:Goes 1 ({atD text s sn first with pc:=7} :Sre.M) ({atD text s sn first with pc:=7} :Sre.M).step:=⟨1,Nat.le_refl _,r1 _ rfl⟩;rw[e2] at g2
  by_cases hs:s ≥ text.size
  ·rw[if_pos hs] at g2
   exact fail sn2 7 2 (Nat.le_refl _) (g1.trans g2) (by unfold hitD;simp;intro _ h;exact noL ‹_› ‹_›)
  ·rw[if_neg hs] at g2
   by_cases hd:(text.getD s 0==46)=true
   ·rw[if_pos hd] at g2
    rw[if_pos (by unfold hitD;rw[hb,hd];simp;exact Nat.not_le.mp ‹_›)];obtain⟨m',e3,o⟩:=sucD (text:=text) (s:=s) (seen:=sn2) (first:=first);exact⟨m',((g1.trans g2).trans ⟨3,Nat.le_refl _,e3⟩),o⟩
   ·rw[if_neg hd] at g2
    exact fail sn2 7 2 (Nat.le_refl _) (g1.trans g2) (by unfold hitD;simp at hd ⊢;intro _ _;exact hd)
 ·rw[if_neg hb] at g1
  exact fail sn 5 1 (by exact Nat.succ_pos _) g1 (by unfold hitD;simp at hb ⊢;intro h;rw[hb] at h;exact ftE h)
theorem hopD {text:Array Nat}{first:Bool} :∀(n s:Nat) (seen:Sre.Seen) (first:Bool),s+n≤text.size→(∀j,s≤j→j < s+n→hitD text j=false)→∃seen' f',Goes (3 * n) (atD text s seen first) (atD text (s+n) seen' f'):=by
 intro n
 induction n with
 | zero=>
  rintro s seen first _ _
  exact⟨seen,first,⟨0,Nat.zero_le _,rfl⟩⟩
 | succ n ih=>
  rintro s seen first hs h
  have:=oneD (text:=text) (s:=s) seen first;rw[if_neg (by rw[h s (Nat.le_refl _) (by solve_by_elim (maxDepth:=5) [leK,slK,Nat.le_trans,Nat.lt_of_lt_of_le,Nat.lt_of_le_of_lt,Nat.le_of_lt,Nat.le_add_right,Nat.succ_le_succ,Nat.le_succ])];simp),if_pos (by solve_by_elim (maxDepth:=5) [leK,slK,Nat.le_trans,Nat.lt_of_lt_of_le,Nat.lt_of_le_of_lt,Nat.le_of_lt,Nat.le_add_right,Nat.succ_le_succ,Nat.le_succ])] at this;obtain⟨sn,g⟩:=this
  obtain⟨sn',f',g'⟩:=ih (s+1) sn false (by exact rot1 ‹_›) fun j a b=>h j (by exact Nat.le_of_lt ‹_›) (by lia)
  rw[show s+(n+1)=s+1+n by lia];exact⟨sn',f',(g.trans g').mono (by lia)⟩
theorem zj4 {text:Array Nat}{k b:Nat}(hk:k≤b)(hb:hitD text b=true)(h:∀j,k≤j→j < b→hitD text j=false):Ends (3 * text.size+8) (Sre.forSearch zcE text 0 k text.size false) (some (b,b+1)):=by
 have hbs:b < text.size:=by unfold hitD at hb;simp at hb;exact hb.1.2
 rw[zkT (by exact Nat.lt_of_le_of_lt ‹_› ‹_›)]
 obtain⟨sn,f,g⟩:=hopD (text:=text) (first:=true) (b - k) k (({} :Sre.Seen).add 14) true (by lia) fun j x y=>h j x (by lia)
 rw[show k+(b - k)=b by exact Nat.add_sub_cancel' ‹_›] at g;have:=oneD (text:=text) (s:=b) sn f;rw[if_pos hb] at this;exact(g.ends this).mono (by lia)
theorem zj5 {text:Array Nat}{k:Nat}(hk:k≤text.size)(h:∀j,k≤j→j < text.size→hitD text j=false):Ends (3 * text.size+8) (Sre.forSearch zcE text 0 k text.size false) none:=by
 by_cases hl:k=text.size
 ·subst hl;exact zhW.mono (by exact Nat.succ_pos _)
 ·rw[zkT (by lia)]
  obtain⟨sn,f,g⟩:=hopD (text:=text) (first:=true) (text.size - k) k (({} :Sre.Seen).add 14) true (by lia) fun j x y=>h j x (by lia)
  rw[show k+(text.size - k)=text.size by exact Nat.add_sub_cancel' ‹_›] at g;have:=oneD (text:=text) (s:=text.size) sn f;rw[if_neg (by unfold hitD;simp),if_neg (by lia)] at this;exact(g.ends this).mono (by lia)
noncomputable def zbs:Array Nat:= #[14,9,4,1,2,16,10,16,13,0,7,7,16,13,16,10,15,18,5,16,10,15,13,11,16,13,5,5,0,16,10,1,15,2,0,1]
noncomputable def f0N (s:Nat):Sre.Frame:= {wait:=.nextStart,pc:=10,pos:=s,outermost:=true}
noncomputable def f1N (s p:Nat):Sre.Frame:= {wait:=.nextBranch,pc:=p,pos:=s,outermost:=true,kept:= {lastmark:= -1,lastindex:= -1,whole:=false,marks:= #[]}}
noncomputable def stN (text:Array Nat)(s:Nat)(fr:List Sre.Frame)(wt:Nat)(pc pos hd:Nat)(an:Option Bool)(seen:Sre.Seen):Sre.M:=
 {code:=zbs,text,lim:=text.size,start:=s,lastStart:=text.size,pc,pos,handed:=hd,outermost:=true,marks:= #[],frames:=fr,weight:=wt,answer:=an,seen}
theorem za8 {m m':Sre.M}(h:m.outcome=none)(e:m.step=m'):Goes 1 m m':=⟨1,Nat.le_refl _,by show(if m.outcome.isSome=true then m else m.step)=_;rw[if_neg (by rw[h];simp),e]⟩
theorem ziX {text:Array Nat}{s:Nat}{sn:Sre.Seen} :∃sn',(stN text s [f0N s] 1 10 s s none sn).step=stN text s [f1N s 11,f0N s] 2 12 s s none sn':=⟨_,rfl⟩
theorem zlf {text:Array Nat}{s p:Nat}{fr:List Sre.Frame}{wt hd:Nat}{sn:Sre.Seen} :∃sn',(stN text s fr wt 12 p hd none sn).step=if p ≥ text.size then stN text s fr wt 12 p hd (some false) sn' else if text.getD p 0==13 then stN text s fr wt 14 (p+1) hd none sn' else stN text s fr wt 12 p hd (some false) sn':=by
 refine⟨sn.add 16,?_⟩;show(if p ≥ text.size then _ else match Sre.accepts zbs 12 (text.getD p 0) (sn.add 16) with | .error why=>_ | .ok (false,seen)=>_ | .ok (true,seen)=>_:Sre.M)=_
 by_cases h:p ≥ text.size
 ·rw[if_pos h,if_pos h];rfl
 ·rw[if_neg h,if_neg h]
  have e:Sre.accepts zbs 12 (text.getD p 0) (sn.add 16)= .ok (text.getD p 0==13,sn.add 16):=rfl;rw[e]
  cases text.getD p 0==13<;>rfl
theorem znN {text:Array Nat}{s p:Nat}{fr:List Sre.Frame}{wt hd:Nat}{sn:Sre.Seen} :∃sn',(stN text s fr wt 14 p hd none sn).step=if p ≥ text.size then stN text s fr wt 14 p hd (some false) sn' else if text.getD p 0==10 then stN text s fr wt 16 (p+1) hd none sn' else stN text s fr wt 14 p hd (some false) sn':=by
 refine⟨sn.add 16,?_⟩;show(if p ≥ text.size then _ else match Sre.accepts zbs 14 (text.getD p 0) (sn.add 16) with | .error why=>_ | .ok (false,seen)=>_ | .ok (true,seen)=>_:Sre.M)=_
 by_cases h:p ≥ text.size
 ·rw[if_pos h,if_pos h];rfl
 ·rw[if_neg h,if_neg h]
  have e:Sre.accepts zbs 14 (text.getD p 0) (sn.add 16)= .ok (text.getD p 0==10,sn.add 16):=rfl;rw[e]
  cases text.getD p 0==10<;>rfl
theorem znM {text:Array Nat}{s p:Nat}{fr:List Sre.Frame}{wt hd:Nat}{sn:Sre.Seen} :∃sn',(stN text s fr wt 19 p hd none sn).step=if p ≥ text.size then stN text s fr wt 19 p hd (some false) sn' else if text.getD p 0==10 then stN text s fr wt 21 (p+1) hd none sn' else stN text s fr wt 19 p hd (some false) sn':=by
 refine⟨sn.add 16,?_⟩;show(if p ≥ text.size then _ else match Sre.accepts zbs 19 (text.getD p 0) (sn.add 16) with | .error why=>_ | .ok (false,seen)=>_ | .ok (true,seen)=>_:Sre.M)=_
 by_cases h:p ≥ text.size
 ·rw[if_pos h,if_pos h];rfl
 ·rw[if_neg h,if_neg h]
  have e:Sre.accepts zbs 19 (text.getD p 0) (sn.add 16)= .ok (text.getD p 0==10,sn.add 16):=rfl;rw[e]
  cases text.getD p 0==10<;>rfl
theorem zmz {text:Array Nat}{s p:Nat}{fr:List Sre.Frame}{wt hd:Nat}{sn:Sre.Seen} :∃sn',(stN text s fr wt 16 p hd none sn).step=stN text s fr wt 35 p hd none sn':=⟨_,rfl⟩
theorem zmy {text:Array Nat}{s p:Nat}{fr:List Sre.Frame}{wt hd:Nat}{sn:Sre.Seen} :∃sn',(stN text s fr wt 21 p hd none sn).step=stN text s fr wt 35 p hd none sn':=⟨_,rfl⟩
theorem zmx {text:Array Nat}{s hd:Nat}{sn:Sre.Seen} :∃hd',(stN text s [f1N s 11,f0N s] 2 12 s hd (some false) sn).step=stN text s [f1N s 18,f0N s] 2 19 s hd' none sn:=⟨_,rfl⟩
theorem zox {text:Array Nat}{s p q pc:Nat}{sn:Sre.Seen}{hd:Nat} :∃m',(stN text s [f1N q pc,f0N s] 2 35 p hd none sn).runFor 4=m'∧m'.outcome=some .matched∧m'.start=s∧m'.handed=p:=⟨_,rfl,rfl,rfl,rfl⟩
noncomputable def nlN (text:Array Nat)(s:Nat):Bool:=text.getD s 0==10|| text.getD s 0==13
theorem znJ {text:Array Nat}{s:Nat}(sn:Sre.Seen)(hs:s < text.size)(h:text.getD s 0=10):Ends 12 (stN text s [f0N s] 1 10 s s none sn) (some (s,s+1)):=by
 obtain⟨s1,e1⟩:=ziX (text:=text) (s:=s) (sn:=sn);obtain⟨s2,e2⟩:=zlf (text:=text) (s:=s) (p:=s) (fr:= [f1N s 11,f0N s]) (wt:=2) (hd:=s) (sn:=s1);rw[if_neg (by exact Nat.not_le.mpr ‹_›),if_neg (by rw[h];decide)] at e2;obtain⟨h3,e3⟩:=zmx (text:=text) (s:=s) (hd:=s) (sn:=s2);obtain⟨s4,e4⟩:=znM (text:=text) (s:=s) (p:=s) (fr:= [f1N s 18,f0N s]) (wt:=2) (hd:=h3) (sn:=s2);rw[if_neg (by exact Nat.not_le.mpr ‹_›),if_pos (by rw[h];decide)] at e4;obtain⟨s5,e5⟩:=zmy (text:=text) (s:=s) (p:=s+1) (fr:= [f1N s 18,f0N s]) (wt:=2) (hd:=h3) (sn:=s4);obtain⟨m',e6,o⟩:=zox (text:=text) (s:=s) (p:=s+1) (q:=s) (pc:=18) (sn:=s5) (hd:=h3);exact⟨m',(((((za8 rfl e1).trans (za8 rfl e2)).trans (za8 rfl e3)).trans (za8 rfl e4)).trans (za8 rfl e5)).trans ⟨4,Nat.le_refl _,e6⟩ |>.mono (by exact Nat.le_add_left _ _),o⟩
theorem zk7 {text:Array Nat}{s:Nat}(sn:Sre.Seen)(hs:s+1 < text.size)(h:text.getD s 0=13)(h':text.getD (s+1) 0=10):Ends 12 (stN text s [f0N s] 1 10 s s none sn) (some (s,s+2)):=by
 obtain⟨s1,e1⟩:=ziX (text:=text) (s:=s) (sn:=sn);obtain⟨s2,e2⟩:=zlf (text:=text) (s:=s) (p:=s) (fr:= [f1N s 11,f0N s]) (wt:=2) (hd:=s) (sn:=s1);rw[if_neg (by lia),if_pos (by rw[h];decide)] at e2;obtain⟨s4,e4⟩:=znN (text:=text) (s:=s) (p:=s+1) (fr:= [f1N s 11,f0N s]) (wt:=2) (hd:=s) (sn:=s2);rw[if_neg (by exact Nat.not_le.mpr ‹_›),if_pos (by rw[h'];decide)] at e4;obtain⟨s5,e5⟩:=zmz (text:=text) (s:=s) (p:=s+1+1) (fr:= [f1N s 11,f0N s]) (wt:=2) (hd:=s) (sn:=s4);obtain⟨m',e6,o⟩:=zox (text:=text) (s:=s) (p:=s+2) (q:=s) (pc:=11) (sn:=s5) (hd:=s);exact⟨m',((((za8 rfl e1).trans (za8 rfl e2)).trans (za8 rfl e4)).trans (za8 rfl e5)).trans ⟨4,Nat.le_refl _,e6⟩ |>.mono (by exact Nat.le_add_left _ _),o⟩
noncomputable def m0N (text:Array Nat)(k:Nat):Sre.M:=
 {code:=zbs,text,lim:=text.size,start:=k,lastStart:=text.size,pc:=10,pos:=k,handed:=k,marks:= #[],seen:=({} :Sre.Seen).add 14}
theorem znm (c:Nat)(sn:Sre.Seen):∃sn',Sre.inSet zbs c 36 5 true sn= .ok (c==10|| c==13,sn'):=by
 by_cases h:(c==10)=true
 ·refine⟨sn.add 16,?_⟩
  rw[h];show(if (c==10)=true then _ else _)=_
  rw[if_pos h];rfl
 ·by_cases h':(c==13)=true
  ·refine⟨(sn.add 16).add 16,?_⟩
   show(if (c==10)=true then _ else if (c==13)=true then _ else _)=_
   rw[if_neg h,if_pos h',h',Bool.or_true];rfl
  ·refine⟨((sn.add 16).add 16).add 0,?_⟩
   show(if (c==10)=true then _ else if (c==13)=true then _ else _)=_
   rw[if_neg h,if_neg h',eq_false_of_ne_true h,eq_false_of_ne_true h'];rfl
theorem zdv {text:Array Nat}{k:Nat} :∀(n s:Nat) (fuel:Nat) (sn:Sre.Seen),s+n≤text.size→n < fuel→(∀j,s≤j→j < s+n→nlN text j=false) →
  (s+n < text.size→nlN text (s+n)=true)→∃sn',(m0N text k).admitted fuel s sn= .ok (if s+n < text.size then some (s+n) else none,sn')
 | n,s,0,sn,_,hf,_,_=>absurd hf (Nat.not_lt_zero _)
 | 0,s,fuel+1,sn,hs,_,_,hh=>by
  by_cases hl:s < text.size
  ·obtain⟨sn',e⟩:=znm (text.getD s 0) sn
   have hh':(text.getD s 0==10|| text.getD s 0==13)=true:=hh hl;rw[hh'] at e;refine⟨sn',?_⟩;show(if s ≥ text.size then _ else match Sre.inSet zbs (text.getD s 0) 36 5 true sn with | .ok (true,seen)=>_ | .ok (false,seen)=>_ | .error why=>_)=_
   rw[if_neg (by exact Nat.not_le.mpr ‹_›),e,if_pos ‹_›];rfl
  ·refine⟨sn,?_⟩
   show(if s ≥ text.size then _ else _)=_;rw[if_pos (by exact Nat.not_lt.mp ‹_›),if_neg ‹_›]
 | n+1,s,fuel+1,sn,hs,hf,h,hh=>by
  obtain⟨sn',e⟩:=znm (text.getD s 0) sn;have hn':(text.getD s 0==10|| text.getD s 0==13)=false:=h s (Nat.le_refl _) (by solve_by_elim (maxDepth:=5) [leK,slK,Nat.le_trans,Nat.lt_of_lt_of_le,Nat.lt_of_le_of_lt,Nat.le_of_lt,Nat.le_add_right,Nat.succ_le_succ,Nat.le_succ]);rw[hn'] at e;obtain⟨sn'',e'⟩:=zdv (text:=text) (k:=k) n (s+1) fuel sn' (by exact rot1 ‹_›) (by exact Nat.le_of_succ_le_succ ‹_›) (fun j a b=>h j (by exact Nat.le_of_lt ‹_›) (by lia)) (by rw[show s+1+n=s+(n+1) by exact Nat.add_right_comm _ _ _];exact hh);refine⟨sn'',?_⟩;show(if s ≥ text.size then _ else match Sre.inSet zbs (text.getD s 0) 36 5 true sn with | .ok (true,seen)=>_ | .ok (false,seen)=>_ | .error why=>_)=_;rw[if_neg (by lia),e];show(m0N text k).admitted fuel (s+1) sn'=_;rw[e',show s+1+n=s+(n+1) by exact Nat.add_right_comm _ _ _]
theorem zhV {text:Array Nat}{k:Nat}(h:k < text.size):Sre.forSearch zbs text 0 k text.size false=(m0N text k).attemptFrom k true:=by
 unfold Sre.forSearch
 have h1:(decide (k > text.size)|| decide (text.size - k < (Sre.header zbs).1))=false:=by
  have:(Sre.header zbs).1=1:=rfl
  rw[this];simp;lia
 dsimp only;rw[h1];rfl
theorem zhU {text:Array Nat} :Ends 1 (Sre.forSearch zbs text 0 text.size text.size false) none:=by
 unfold Sre.forSearch
 have h1:(decide (text.size > text.size)|| decide (text.size - text.size < (Sre.header zbs).1))=true:=by
  have:(Sre.header zbs).1=1:=rfl
  rw[this];simp
 dsimp only;rw[h1];exact⟨_,⟨1,Nat.le_refl _,rfl⟩,rfl⟩
theorem zn0 {text:Array Nat}{k:Nat} :(m0N text k).attemptFrom k true=match (m0N text k).admitted (text.size+1 - k) k (({} :Sre.Seen).add 14) with
  | .ok (some s,seen)=>stN text s [f0N s] 1 10 s s none seen
  | .ok (none,seen)=> {m0N text k with seen,answer:=some false}
  | .error why=>(m0N text k).stick why:=by
 show(match (m0N text k).admitted (text.size+1 - k) k (({} :Sre.Seen).add 14) with
  | .ok (some s,seen)=>_
  | .ok (none,seen)=>_
  | .error why=>_)=_
 rcases (m0N text k).admitted (text.size+1 - k) k (({} :Sre.Seen).add 14) with e | ⟨_ | s,sn⟩<;>rfl
theorem zmP {text:Array Nat}{k b:Nat}(hk:k≤b)(hb:b < text.size)(hc:text.getD b 0=10)(h:∀j,k≤j→j < b→nlN text j=false):Ends (3 * text.size+8+12) (Sre.forSearch zbs text 0 k text.size false) (some (b,b+1)):=by
 rw[zhV (by exact Nat.lt_of_le_of_lt ‹_› ‹_›),zn0];obtain⟨sn,e⟩:=zdv (text:=text) (k:=k) (b - k) k (text.size+1 - k) (({} :Sre.Seen).add 14) (by lia) (by lia) (fun j x y=>h j x (by lia)) (fun _=>by rw[show k+(b - k)=b by exact Nat.add_sub_cancel' ‹_›];unfold nlN;rw[hc];rfl);rw[e,show k+(b - k)=b by exact Nat.add_sub_cancel' ‹_›,if_pos hb];exact(znJ sn hb hc).mono (by exact Nat.le_add_left _ _)
theorem zj3 {text:Array Nat}{k b:Nat}(hk:k≤b)(hb:b+1 < text.size)(hc:text.getD b 0=13)(hc':text.getD (b+1) 0=10)(h:∀j,k≤j→j < b→nlN text j=false):Ends (3 * text.size+8+12) (Sre.forSearch zbs text 0 k text.size false) (some (b,b+2)):=by
 rw[zhV (by solve_by_elim (maxDepth:=5) [leK,slK,Nat.le_trans,Nat.lt_of_lt_of_le,Nat.lt_of_le_of_lt,Nat.le_of_lt,Nat.le_add_right,Nat.succ_le_succ,Nat.le_succ]),zn0];obtain⟨sn,e⟩:=zdv (text:=text) (k:=k) (b - k) k (text.size+1 - k) (({} :Sre.Seen).add 14) (by lia) (by lia) (fun j x y=>h j x (by lia)) (fun _=>by rw[show k+(b - k)=b by exact Nat.add_sub_cancel' ‹_›];unfold nlN;rw[hc];rfl);rw[e,show k+(b - k)=b by exact Nat.add_sub_cancel' ‹_›,if_pos (by exact Nat.le_of_lt ‹_›)];exact(zk7 sn hb hc hc').mono (by exact Nat.le_add_left _ _)
theorem zj2 {text:Array Nat}{k:Nat}(hk:k≤text.size)(h:∀j,k≤j→j < text.size→nlN text j=false):Ends (3 * text.size+8+12) (Sre.forSearch zbs text 0 k text.size false) none:=by
 by_cases hl:k=text.size
 ·subst hl;exact zhU.mono (by exact Nat.succ_pos _)
 ·rw[zhV (by lia),zn0]
  obtain⟨sn,e⟩:=zdv (text:=text) (k:=k) (text.size - k) k (text.size+1 - k) (({} :Sre.Seen).add 14) (by lia) (by lia) (fun j x y=>h j x (by lia)) (fun z=>by lia);rw[e,if_neg (by lia)];exact⟨_,⟨1,by exact Nat.succ_pos _,rfl⟩,rfl⟩
end
section
variable {pg:Program}{w:World}{K:Frag}{Φ:Fm}{d:Nat}{sc:Scope}{σ σ' σ1 cp σ3 σc:List (Str×AV)}{H H' cn cq cy c5:List Cell}{v v1 v2 x y z:AV}{A:Around}{s s':Shared}
 {env:Env} {O P ρ ρ':List Addr} {E:Value→Shared→Prop} {e cz cG l r o:Expr} {pos:Pos} {b cI cK:Bool} {xs ys:List AV} {C:Addr} {name:Str} {i j dd dep:Nat} {es:List (Str×AV)} {nd np su:Option AV}
 {cls:Value} {lo:Nat} {f:AFlow}
theorem zhY {m m':Sre.M}{k:Nat}(e:m.runFor k=m')(h:m'.outcome.isSome=true)(h4:(m.runFor 4).outcome.isSome=true):m.runFor 4=m':=by
 by_cases hk:k≤4
 ·have:=zb1 k (4 - k) m
  rw[show k+(4 - k)=4 by exact Nat.add_sub_cancel' ‹_›,e,zcT h] at this;exact this
 ·have:=zb1 4 (k - 4) m
  rw[show 4+(k - 4)=k by omega,e,zcT h4] at this;exact this.symm
theorem zmX {m':Sre.M}{Q:Sre.M→Shared→Prop}(h:m'.outcome.isSome=true)(hq:Q m' s):∀(turns:Nat) (m:Sre.M) (k:Nat),m.runFor k=m'→k < 4 * turns→wpAny (model pg w) A (Builtin.Re.reDrive turns m) Q E s:=by
 intro turns
 induction turns with
 | zero=>
  rintro m k e hk
  exact absurd ‹_› (Nat.not_lt_zero _)
 | succ turns ih=>
  rintro m k e hk
  show wpAny _ _ (if (m.runFor 4).outcome.isSome=true then pure (m.runFor 4) else do rule "sre.turn";Builtin.Re.reDrive turns (m.runFor 4)) _ _ _
  by_cases h4:(m.runFor 4).outcome.isSome=true
  ·rw[if_pos h4,zhY e h h4];exact wpAny_pure hq
  ·rw[if_neg h4]
   refine wpAny_bind (wpAny_rule ?_)
   have hk4:4 < k:=by
    refine Nat.lt_of_not_le fun z=>h4 ?_
    have:=zb1 k (4 - k) m;rw[show k+(4 - k)=4 by exact Nat.add_sub_cancel' ‹_›,e,zcT h] at this
    rw[this];exact h
   refine ih (m.runFor 4) (k - 4) ?_ (by omega);have:=zb1 4 (k - 4) m;rw[show 4+(k - 4)=k by omega] at this
   rw[←this];exact e
theorem zjE {P:Nat→Bool}{nm:Nat→String}{Q:PUnit→Shared→Prop}(h:Q ⟨⟩ s):∀(l:List Nat),wpAny (model pg w) A (forIn l PUnit.unit fun i r=>if P i=true then (do rule (nm i);pure (ForInStep.yield PUnit.unit)) else pure (ForInStep.yield PUnit.unit)) Q E s:=by
 intro l
 induction l with
 | nil=>
  rw[List.forIn_nil];exact wpAny_pure h
 | cons i l ih=>
  rw[List.forIn_cons];refine wpAny_bind ?_
  split
  ·exact wpAny_bind (wpAny_rule (wpAny_pure (ih)))
  ·exact wpAny_pure (ih)
theorem ziN {m:Sre.M}{n:Nat}{r:Option (Nat×Nat)}{Q:Option Sre.M→Shared→Prop}(x:Ends n m r)(hn:n < 2 ^ 64)
  (h:∀m',(match r with | some (b,e)=>m'.start=b∧m'.handed=e | none=>True)→Q (r.map fun _=>m') s):wpAny (model pg w) A (Builtin.Re.reRunToEnd m) Q E s:=by
 obtain⟨m',⟨k,hk,e⟩,o⟩:=x
 have ho:m'.outcome.isSome=true:=by rcases r with _ | ⟨b,e⟩<;>simp at o<;>simp[o]
 unfold Builtin.Re.reRunToEnd;refine wpAny_bind (zmX ho ?_ (2 ^ 64) m k e (by omega));refine wpAny_bind (zjE (P:=fun i=>m'.seen.has i) (nm:=fun i=>Sre.names.getD i "") ?_ _)
 rcases r with _ | ⟨b,e⟩
 ·simp at o;rw[o];exact wpAny_pure (h m' trivial)
 ·simp at o;rw[o.1];exact wpAny_pure (h m' o.2)
inductive PatAt (h:Heap)(a:Addr)(code:Array Nat):Prop
 | mk (o f0 f1 f2 f3 f4 f6 c oc ocs n) (ho:h.get? a=some o) (hc:o.cls= .type "re.Pattern") (hd:o.data= .fields #[f0,f1,f2,f3,f4,.ref c,f6]) (h2:Builtin.Re.reRawNat f2=0) (h6:Builtin.Re.reRawNat f6=0)
  (hoc:h.get? c=some oc) (hos:oc.cls= .type "tuple" ∧oc.data= .seq ocs n) (hcode:(ocs.map Builtin.Re.reRawOf).map (·.toNat)=code)
theorem PatAt.at {h h':Heap}{a:Addr}{code:Array Nat}(x:PatAt h a code)(k:∀b o,h.get? b=some o→h'.get? b=some o):PatAt h' a code:=by
 obtain⟨o,f0,f1,f2,f3,f4,f6,c,oc,ocs,n,e1,e2,e3,e4,e5,e6,e7,e8⟩:=x;exact⟨o,f0,f1,f2,f3,f4,f6,c,oc,ocs,n,k _ _ e1,e2,e3,e4,e5,k _ _ e6,e7,e8⟩
theorem PatAt.but {h h':Heap}{a L:Addr}{code:Array Nat}{vs:Array Value}(x:PatAt h a code)(k:Heap.SameBut L h h')(l:h.IsList L vs):PatAt h' a code:=by
 obtain⟨o,f0,f1,f2,f3,f4,f6,c,oc,ocs,n,e1,e2,e3,e4,e5,e6,e7,e8⟩:=x;obtain⟨ol,g1,g2,_⟩:=l
 have ha:a≠L:=by rintro rfl;rw[e1] at g1;obtain rfl:=Option.some.inj g1;rw[e2] at g2;exact absurd g2 (by decide)
 have hc:c≠L:=by rintro rfl;rw[e6] at g1;obtain rfl:=Option.some.inj g1;rw[e7.1] at g2;exact absurd g2 (by decide)
 exact⟨o,f0,f1,f2,f3,f4,f6,c,oc,ocs,n,(k.2 a ha).trans e1,e2,e3,e4,e5,(k.2 c hc).trans e6,e7,e8⟩
noncomputable def tgt (a:Addr)(code:Array Nat)(tx:Str)(t:Tok):Builtin.Re.ReTarget:= {pattern:=.ref a,string:=.str tx t,code,text:=tx.cps,kind:=0,groups:=0,pos:=0,lim:=tx.cps.size}
theorem zcP {a:Addr}{code:Array Nat}{tx:Str}{t:Tok}{Q:Builtin.Re.ReTarget→Shared→Prop}(x:PatAt s.heap a code)(h:Q (tgt a code tx t) s):wpAny (model pg w) A (Builtin.Re.reWholeTarget (.ref a) (.str tx t)) Q E s:=by
 obtain⟨o,f0,f1,f2,f3,f4,f6,c,oc,ocs,n,e1,e2,e3,e4,e5,e6,e7,e8⟩:=x;unfold Builtin.Re.reWholeTarget;refine wpAny_bind (wpAny_fieldsOf e1 e3 ?_);refine wpAny_bind (m:=Builtin.Re.reTextOf _) (wpAny_pure ?_);have h6:Builtin.Re.reRawNat ((#[f0,f1,f2,f3,f4,.ref c,f6]:Array Value).getD 6 .none)=0:=e5;have h2:Builtin.Re.reRawNat ((#[f0,f1,f2,f3,f4,.ref c,f6]:Array Value).getD 2 .none)=0:=e4;have h5:(#[f0,f1,f2,f3,f4,.ref c,f6]:Array Value).getD 5 .none= .ref c:=rfl;rw[h6,h2,h5];refine wpAny_bind (m:=Builtin.Re.reNoCollectionInside _ _) (wpAny_pure ?_);unfold Builtin.Re.reRawItems;refine wpAny_bind (wpAny_bind (wpAny_seqItems e6 e7.2 (wpAny_pure ?_)));refine wpAny_pure ?_;rw[Option.getD_some,e8];exact h
theorem zfP {text:Array Nat}{b e:Nat}{Q:Value→Shared→Prop}(hz:text.size≤sizeLine)(h:Q (.str ⟨text.extract b e⟩ s.toks) {s with toks:=s.toks+1}):wpAny (model pg w) A (Builtin.Re.reSlice text 0 b e) Q E s:=by
 unfold Builtin.Re.reSlice;exact wpAny_mkStr h (by show(text.extract b e).size≤_;rw[Array.size_extract];omega)
theorem zes {L:Addr}{vs:Array Value}{x:Value}{Q:Unit→Shared→Prop}(hl:s.heap.IsList L vs)(hz:vs.size≤sizeLine)(h:∀h',Heap.SameBut L s.heap h'→h'.IsList L (vs.push x)→Q () {s with heap:=h'}):wpAny (model pg w) A (updateSeq L (·.push x)) Q E s:=by
 obtain⟨o,ho,hc,n,hd⟩:=hl;refine wpAny_updateSeq ho hd (h _ (Heap.SameBut.update s.heap L _) ?_) hz (by rw[Array.size_push];exact slK ‹_› rfl);have hu:=Heap.get?_update_self (Obj.mapSeq (·.push x)) ho;obtain⟨c,dd,dt,sl⟩:=o
 simp only at hd hc;subst hd hc
 exact⟨_,hu rfl,rfl,_,rfl⟩
theorem zcL:entryFor table "re.Pattern.sub.loop" =some Builtin.«re.Pattern.sub.loop»:=entryFor_of_tree (by kernel_rfl)
theorem zbg:plainId "re.Pattern.sub.loop" =true:=by decide+kernel
theorem zlL:entryFor table "re.Pattern.sub" =some Builtin.«re.Pattern.sub»:=entryFor_of_tree (by kernel_rfl)
theorem zfO:Slot "re.Pattern" "sub" "re.Pattern.sub" :=
 .of (owner:= "re.Pattern") (n:= "sub") (by rw[typeLookup_type,builtinLookup_eq_fast];kernel_rfl) (by decide+kernel) (by decide+kernel) (by decide+kernel)
  (by first | exact .inl (by decide+kernel) | exact .inr (by decide+kernel)) (by rw[isSubtype_type];kernel_rfl)
theorem znc (a b c:Value):argsOk "re.Pattern.sub" ⟨[a,b,c],[]⟩:=by unfold argsOk;kernel_rfl
theorem zjN:PlainAttrs "re.Pattern" :=⟨⟨"object.__getattribute__",by rw[typeLookup_type,builtinLookup_eq_fast];kernel_rfl,by decide+kernel⟩,by rw[typeLookup_type,builtinLookup_eq_fast];kernel_rfl⟩
noncomputable def zd5 (tx:Str)(b e:Nat):Str:=⟨tx.cps.extract b e⟩
inductive Subs (code:Array Nat)(tx rp:Str):Nat→List Str→Prop
 | stop {k} :Ends (2 ^ 60) (Sre.forSearch code tx.cps 0 k tx.cps.size false) none→Subs code tx rp k (if k < tx.cps.size then [zd5 tx k tx.cps.size] else [])
 | hit {k b e qs} :Ends (2 ^ 60) (Sre.forSearch code tx.cps 0 k tx.cps.size false) (some (b,e))→k≤b→b < e→e≤tx.cps.size→Subs code tx rp e qs→Subs code tx rp k ((if k < b then [zd5 tx k b] else [])++rp::qs)
theorem Subs.le {code:Array Nat}{tx rp:Str}{k:Nat}{qs:List Str}(q:Subs code tx rp k qs):qs.length≤2 * (tx.cps.size - k)+1:=by
 induction q with
 | stop _=>
  split
  ·exact Nat.succ_le_succ (Nat.zero_le _)
  ·exact Nat.zero_le _
 | @hit k b e qs _ h1 h2 h3 _ ih=>
  have l:(if k < b then [zd5 tx k b] else []).length≤1:=by split<;>simp
  rw[List.length_append,List.length_cons]
  omega
theorem zch {vs:List Value}{ss:List Str}(q:StrsAre vs ss)(x:Str)(t:Tok):StrsAre (vs++ [.str x t]) (ss++ [x]):=by
 induction q with
 | nil=>exact .cons _ _ .nil
 | cons y u _ ih=>exact .cons _ _ ih
theorem ze6 {vs:List Value}{ss:List Str}(q:StrsAre vs ss):∃l:List (Str×Tok),vs=strValues l∧l.map (·.1)=ss:=by
 induction q with
 | nil=>exact⟨[],rfl,rfl⟩
 | cons y u _ ih=>obtain⟨l,e,f⟩:=ih;exact⟨(y,u)::l,by rw[e];rfl,by simp[f]⟩
theorem zhP {vs:List Value}{ss:List Str}(q:StrsAre vs ss):vs.length=ss.length:=by
 induction q with
 | nil=>rfl
 | cons _ _ _ ih=>simp[ih]
noncomputable def ziG (s:Shared)(L:Addr)(s':Shared):Prop:=(∀b o,b≠L→s.heap.get? b=some o→s'.heap.get? b=some o)∧s'.gens=s.gens∧s'.os=s.os
noncomputable def znD (a:Addr)(tx rp:Str)(t1 t2:Tok)(n k:Nat)(L:Addr):Args:=⟨[.ref a,.str tx t1,.str rp t2,rawInt 0,rawInt 0,rawInt n,rawInt k,rawInt k,.bool false,.ref L,.bool false],[]⟩
theorem zmm {R:Result→Shared→Prop}{a L:Addr}{code:Array Nat}{tx rp:Str}{t1 t2:Tok}(hz:tx.cps.size≤100000)(hrp:rp.length≤100)(qs:List Str)(k n:Nat)(s:Shared)(ps:List Str)(vs:List Value)(hp:PatAt s.heap a code)
  (hl:s.heap.IsList L vs.toArray) (q:StrsAre vs ps) (hS:Subs code tx rp k qs) (hb:ps.length+qs.length≤300000) (hj:JoinOk (Str.ofString "") (ps++qs)=true)
  (hR:∀s' t,ziG s L s'→R (.ok (.ret (.str (Txt.join (Str.ofString "") (ps++qs)) t))) s'):
  codeAny (model pg w) A (.builtin "re.Pattern.sub.loop" (znD a tx rp t1 t2 n k L)) R s:=by
 have hzl:tx.cps.size≤sizeLine:=by rw[sizeLine_eq];exact leK ‹_› rfl
 have room:∀{vs:List Value} {ps:List Str},StrsAre vs ps→ps.length≤300000→vs.toArray.size≤sizeLine:=fun q h=>by rw[List.size_toArray,zhP q,sizeLine_eq];exact leK ‹_› rfl
 induction hS generalizing n s ps vs with
 | @stop k x=>
  refine codeAny_builtin zcL ?_;rw[Around.under_plainId zbg _];show wpAny _ A.in1 (Builtin.Re.reWholeTarget (.ref a) (.str tx t1) >>= _) _ _ s;refine wpAny_bind (zcP hp ?_);refine wpAny_bind (m:=if ((0:Int)==0)=true then Builtin.Re.reLiteralCannotBeTurned (.str rp t2) else pure ()) (wpAny_pure ?_);refine wpAny_bind (m:=Builtin.Re.reNextFound (tgt a code tx t1) k false) ?_
  refine ziN x (by decide) fun m' _=> ?_
  have fin:∀(cm:Shared) (vs1:List Value) (ps1:List Str),StrsAre vs1 ps1→cm.heap.IsList L vs1.toArray→JoinOk (Str.ofString "") ps1=true→ps1.length≤300000→(∀s' t,ziG cm L s'→R (.ok (.ret (.str (Txt.join (Str.ofString "") ps1) t))) s') →
    wpAny (model pg w) A.in1 (do
     let joiner←Builtin.Re.reSlice (tgt a code tx t1).text (tgt a code tx t1).kind 0 0
     let text←if ((←seqItems? (.ref L)).getD #[]).isEmpty then pure joiner
      else call (.builtin (if (tgt a code tx t1).kind==0 then "str.join" else "bytes.join")) [joiner,.ref L]
     if false=true then ret (←holding [text] do newTuple [text,←mkInt (n:Int)]) else ret text) (fun fin s'=>match fin with | .done f=>R (.ok f) s' | .again c'=>c'.quiet=true∧codeAny (model pg w) A c' R s') (fun e s'=>R (.error e) s') cm:=by
   intro cm vs1 ps1 cv db hj1 hb1 hR1;refine wpAny_bind (zfP hzl ?_)
   have e0:(⟨(tgt a code tx t1).text.extract 0 0⟩:Str)=Str.ofString "" :=by
    have:(tgt a code tx t1).text.extract 0 0= #[]:=by simp
    rw[this];rfl
   rw[e0];obtain⟨oL,hoL,hcL,nL,hdL⟩:=id db;refine wpAny_bind (wpAny_seqItems (s:= {cm with toks:=cm.toks+1}) hoL hdL ?_)
   have hr:∀(v:Value) (ct:Shared),R (.ok (.ret v)) ct→wpAny (model pg w) A.in1 (if false=true then (do let y←holding [v] (do let z←mkInt (n:Int);newTuple [v,z]);ret y) else ret v) (fun fin s'=>match fin with | .done f=>R (.ok f) s' | .again c'=>c'.quiet=true∧codeAny (model pg w) A c' R s') (fun e s'=>R (.error e) s') ct:=fun v ct h=>wpAny_pure h
   cases vs1 with
   | nil=>
    cases cv;exact wpAny_bind (wpAny_pure (hr _ _ (hR1 {cm with toks:=cm.toks+1} _ ⟨fun b o _ e=>e,rfl,rfl⟩)))
   | cons u us=>
    obtain⟨l,e,f⟩:=ze6 cv;refine wpAny_bind (PySem.SC.join (s:= {cm with toks:=cm.toks+1}) (x:=Str.ofString "") (D:=L) (l:=l) (by rw[←e];exact db) f hj1 fun t' k'=> ?_);exact hr _ _ (hR1 {cm with toks:=k'} _ ⟨fun b o _ e=>e,rfl,rfl⟩)
  show wpAny _ A.in1 (if k < tx.cps.size then _ else _) _ _ s
  by_cases hk:k < tx.cps.size
  ·rw[if_pos hk]
   refine wpAny_bind (zfP hzl ?_);refine wpAny_bind (zes (s:= {s with toks:=s.toks+1}) hl (room q (by exact adR1 ‹_›)) fun h' hsb hl'=> ?_)
   refine fin _ (vs++ [.str (zd5 tx k tx.cps.size) s.toks]) (ps++ [zd5 tx k tx.cps.size]) (zch q _ _) (by simp only[List.push_toArray] at hl';exact hl') (by rw[if_pos hk] at hj;exact hj) (by rw[if_pos hk] at hb;simpa using hb) fun s' t D=> ?_
   rw[if_pos hk] at hR;exact hR s' t ⟨fun b o hb' e=>D.1 b o hb' ((hsb.2 b hb').trans e),D.2⟩
  ·rw[if_neg hk]
   rw[if_neg hk] at hj hb hR;rw[List.append_nil] at hj hR
   exact fin _ vs ps q hl hj (by simpa using hb) fun s' t D=>hR s' t D
 | @hit k b e qs x h1 h2 h3 r ih=>
  refine codeAny_builtin zcL ?_;rw[Around.under_plainId zbg _];show wpAny _ A.in1 (Builtin.Re.reWholeTarget (.ref a) (.str tx t1) >>= _) _ _ s;refine wpAny_bind (zcP hp ?_);refine wpAny_bind (m:=if ((0:Int)==0)=true then Builtin.Re.reLiteralCannotBeTurned (.str rp t2) else pure ()) (wpAny_pure ?_);refine wpAny_bind (m:=Builtin.Re.reNextFound (tgt a code tx t1) k false) ?_
  refine ziN x (by decide) fun m' ⟨hm1,hm2⟩=> ?_
  have fin:∀(cm:Shared) (vs1:List Value) (ps1:List Str),StrsAre vs1 ps1→cm.heap.IsList L vs1.toArray→PatAt cm.heap a code→JoinOk (Str.ofString "") (ps1++rp::qs)=true→ps1.length+(qs.length+1)≤300000→(∀s' t,ziG cm L s'→R (.ok (.ret (.str (Txt.join (Str.ofString "") (ps1++rp::qs)) t))) s') →
    wpAny (model pg w) A.in1 (do
     let item←(pure (.str rp t2):Sem Value)
     if (item != .none)=true then updateSeq L (·.push item)
     again (.builtin "re.Pattern.sub.loop" ⟨[.ref a,.str tx t1,.str rp t2,rawInt 0,rawInt 0,rawInt (n+1),rawInt m'.handed,rawInt m'.handed,.bool (m'.handed==b),.ref L,.bool false],[]⟩)) (fun fin s'=>match fin with | .done f=>R (.ok f) s' | .again c'=>c'.quiet=true∧codeAny (model pg w) A c' R s') (fun e s'=>R (.error e) s') cm:=by
   intro cm vs1 ps1 cv db hp1 hj1 hb1 hR1;refine wpAny_bind (wpAny_pure ?_);refine wpAny_bind (m:=updateSeq L (·.push (.str rp t2))) (zes db (room cv (by exact adR1 ‹_›)) fun h' hsb hl'=> ?_);refine wpAny_pure ⟨plainId_quiet zbg _,?_⟩;rw[hm2,show(e==b)=false by simp;exact Nat.ne_of_gt ‹_›]
   refine ih (n+1) {cm with heap:=h'} (ps1++ [rp]) (vs1++ [.str rp t2]) (hp1.but hsb db) (by simp only[List.push_toArray] at hl';exact hl') (zch cv _ _) (by simp;exact rot1 ‹_›) (by simpa using hj1) fun s' t D=> ?_
   rw[List.append_assoc];exact hR1 s' t ⟨fun b o hb' e=>D.1 b o hb' ((hsb.2 b hb').trans e),D.2⟩
  show wpAny _ A.in1 (if k < m'.start then _ else _) _ _ s;rw[hm1]
  by_cases hk:k < b
  ·rw[if_pos hk]
   rw[if_pos hk] at hj hb hR;simp only[List.length_append,List.length_cons,List.length_nil] at hb;refine wpAny_bind (zfP hzl ?_);refine wpAny_bind (zes (s:= {s with toks:=s.toks+1}) hl (room q (by exact adR1 ‹_›)) fun h' hsb hl'=> ?_)
   refine fin {s with heap:=h',toks:=s.toks+1} (vs++ [.str (zd5 tx k b) s.toks]) (ps++ [zd5 tx k b]) (zch q _ _) (by simp only[List.push_toArray] at hl';exact hl') (hp.but hsb hl) (by simpa using hj) (by simp;exact rot2 ‹_›) fun s' t D=> ?_
   have:=hR s' t ⟨fun b o hb' e=>D.1 b o hb' ((hsb.2 b hb').trans e),D.2⟩
   simpa using this
  ·rw[if_neg hk]
   rw[if_neg hk] at hj hb hR;rw[List.nil_append] at hj hR;simp only[List.length_append,List.length_cons,List.length_nil] at hb
   exact fin _ vs ps q hl hp hj (by exact rot1 ‹_›) fun s' t D=>hR s' t D
theorem zhQ:typeLookup (.type "str") "__call__" =pure none:=by rw[typeLookup_type,builtinLookup_eq_fast];kernel_rfl
theorem zle (x y:Value):Builtin.Re.reNamed "re.Pattern.sub" "sub" ["repl","string","count"] 2 [x,y] []=pure [some x,some y,none]:=by
 unfold Builtin.Re.reNamed;rfl
theorem zm9 {a:Addr}{code:Array Nat}{tx rp:Str}{t1 t2:Tok}{qs:List Str}{Q:Value→Shared→Prop}(hp:PatAt s.heap a code)(h92:rp.cps.contains 92=false)(hz:tx.cps.size≤100000)(hrp:rp.length≤100)(hS:Subs code tx rp 0 qs)
  (hj:JoinOk (Str.ofString "") qs=true)
  (h:∀s' t,(∀b o,s.heap.get? b=some o→s'.heap.get? b=some o)→s'.gens=s.gens→s'.os=s.os→Q (.str (Txt.join (Str.ofString "") qs) t) s'):
  wpAny (model pg w) A (call (.builtin "re.Pattern.sub") [.ref a,.str rp t2,.str tx t1]) Q E s:=by
 have hT:s.TypeIs (.ref a) "re.Pattern" :=by obtain⟨o,f0,f1,f2,f3,f4,f6,c,oc,ocs,n,e1,e2,_⟩:=hp;exact⟨o,e1,e2⟩
 refine wpAny_call (codeAny_call_builtin zfO.plain zlL (zfO.check _ _ _ _ _ _ _ _ hT (znc _ _ _) ?_));unfold Builtin.«re.Pattern.sub» Builtin.Re.reSubstitute;refine wpAny_bind (m:=Builtin.Re.reNamed "re.Pattern.sub" "sub" ["repl","string","count"] 2 [.str rp t2,.str tx t1] []) (wpAny_of_eq (zle _ _) ?_);refine wpAny_bind (m:=(pure 0:Sem Int)) (wpAny_pure ?_);refine wpAny_bind (wpAny_specialOf (T:= "str") (typeIs_str _ _ _) zhQ ?_);show wpAny _ _ (asStr? (.str rp t2) >>= _) _ _ s;refine wpAny_bind (m:=asStr? (.str rp t2)) (wpAny_pure ?_);refine wpAny_bind (m:=(pure (!rp.cps.contains 92):Sem Bool)) (wpAny_pure ?_);rw[h92];refine wpAny_bind (m:=(pure (.str rp t2,0):Sem (Value×Int))) (wpAny_pure ?_);refine wpAny_bind (wpAny_holding (zcP hp ?_));refine wpAny_bind (m:=newList []) (wpAny_newList ?_);refine wpAny_pure ⟨plainId_quiet zbg _,?_⟩
 refine zmm (vs:= []) (ps:= []) hz hrp qs 0 0 {s with heap:=s.heap.push {cls:=.type "list",data:=.seq ([]:List Value).toArray}} ?_ ?_ .nil hS ?_ hj fun s' t D=> ?_
 ·exact hp.at fun b o e=>Heap.get?_push_of_some _ e
 ·exact⟨_,Heap.get?_push_size _ rfl,rfl,0,rfl⟩
 ·have:=hS.le;simp;lia
 ·exact h s' t (fun b o e=>D.1 b o (Nat.ne_of_lt (Heap.lt_size e)) (Heap.get?_push_of_some _ e)) D.2.1 D.2.2
noncomputable def PatK (K:Frag)(a:Addr)(code:Array Nat):Prop:=∀h:Heap,K.In h→PatAt h a code
theorem GM.pat {a:Addr}{code:Array Nat}(P:PatK K a code)(hd:∀h:Heap,K.In h→∃ob,h.get? a=some ob∧ob.dict=none):GM pg w K Φ (.cst (.ref a)) "sub" H (.builtin "re.Pattern.sub"):=
 GM.builtin zjN zfO (by rfl) fun ρ s v R q=>by
  cases q;refine⟨?_,fun c e=> ?_⟩
  ·obtain⟨o,f0,f1,f2,f3,f4,f6,c,oc,ocs,n,e1,e2,_⟩:=P _ R.top;exact⟨o,e1,e2⟩
  ·(injection e with e;subst e);exact hd _ R.top
theorem SC.sub {a:Addr}{code:Array Nat}{tx rp:Str}{qs:List Str}(P:PatK K a code)(h92:rp.cps.contains 92=false)(hz:tx.cps.size≤100000)(hrp:rp.length≤100)(hS:Subs code tx rp 0 qs)
  (hj:JoinOk (Str.ofString "") qs=true):SC pg w K Φ d (.builtin "re.Pattern.sub") [.cst (.ref a),.str rp,.str tx] H (.str (Txt.join (Str.ofString "") qs)) H:=fun ρ s A vs ok R g p=>by
 refine VRs.bk p fun _ _ _ p q q'=> ?_;refine VR.cstE p ?_;refine VR.strE q fun _=> ?_;refine VR.strE q' fun _=> ?_
 refine zav (zm9 (P _ R.top) h92 hz hrp hS hj fun s' t hk hg ho hz'=> ?_);have mv:Moves [] s.heap s'.heap ρ ρ:=Moves.grow hk hz' (by exact zad);exact⟨ρ,mv,R.moves mv (fun b _ o e=>hk b o e) (by exact zad),by rw[hg];exact g,.str,ho⟩
end
end Mine
section
namespace Mine
noncomputable abbrev KK (w:World):Frag:=KW w.params
noncomputable def esAt (K:Frag)(a:Addr):Array DictEntry:=match K.lookup a with
 | some ⟨_,_,.dict es _,_⟩=>es
 | _=> #[]
noncomputable def gW (P:Params)(x:Str):Option Value:=nsFind (esAt (KW P) 3) x
noncomputable def bW (P:Params)(x:Str):Option Value:=nsFind (esAt (KW P) 0) x
variable {P:Params}
noncomputable def zeg (e:DictEntry):Bool:=match e.key with | .str _ _=>true | _=>false
set_option tactic.hygienic true in
theorem zjw {es:Array DictEntry}(h:es.toList.all zeg=true):StrKeys es:=fun e he=>by
 have:=List.all_eq_true.mp h e (Array.mem_toList_iff.mpr he);unfold zeg at this
 split at this
 ·rename_i n t hk;exact⟨n,t,hk⟩
 ·exact ftE this
theorem zot {h:Heap}{a:Addr}{o:Obj}{es:Array DictEntry}{ep:Nat}(hK:(KW P).In h)(e:(KW P).lookup a=some o)(d:o.data= .dict es ep)(k:es.toList.all zeg=true):h.Ns a (nsFind es):=
 ⟨o,es,ep,hK _ _ e,d,zjw k,fun _=>rfl⟩
noncomputable def obW (P:Params)(a:Addr):Obj:=((KW P).lookup a).getD default
noncomputable def epAt (K:Frag)(a:Addr):Nat:=match K.lookup a with
 | some ⟨_,_,.dict _ n,_⟩=>n
 | _=>0
theorem nsW {h:Heap}(hK:(KW P).In h)(a:Addr)(e:(KW P).lookup a=some (obW P a))(d:(obW P a).data= .dict (esAt (KW P) a) (epAt (KW P) a))(k:(esAt (KW P) a).toList.all zeg=true):h.Ns a (nsFind (esAt (KW P) a)):=zot hK e d k
theorem topW (hs:∃cH,(KW P).In cH∧cH.NoSeer):TopOk (KW P) (gW P) (bW P) where
 glob:=fun h hK=>nsW hK 3 rfl rfl rfl
 bltn:=fun h hK=>nsW hK 0 rfl rfl rfl
 stat:=fun h hK=>⟨_,nsW hK 2 rfl rfl rfl,by kernel_rfl⟩
 seer:=fun h hK=>by
  obtain⟨cH,hK0,S⟩:=hs
  have tr:∀{m} (a:Addr),(KW P).lookup a=some (obW P a)→cH.Ns a m→h.Ns a m:=fun {m} a e ⟨o',es,ep,ho,r⟩=>by
   rw[hK0 _ _ e] at ho;obtain rfl:=Option.some.inj ho
   exact⟨_,es,ep,hK _ _ e,r⟩
  refine⟨?_,?_,?_,?_⟩
  ·obtain⟨m,n,r⟩:=S.statics;exact⟨m,tr 2 rfl n,r⟩
  ·obtain⟨m,n,r⟩:=S.mods;exact⟨m,tr 1 rfl n,r⟩
  ·obtain⟨m,n,r⟩:=S.imp;exact⟨m,tr 0 rfl n,r⟩
  ·obtain⟨m,bm,ob,n,e,e',r⟩:=S.main
   have hb:nsFind (esAt (KW P) 3) (Str.ofString "__builtins__")=some (.ref 4):=by kernel_rfl
   have:m (Str.ofString "__builtins__")=some (.ref 4):=by
    obtain⟨o',es,ep,ho,hd,_,hf⟩:=n
    rw[show cH.get? mainGlobals=_ from hK0 3 (obW P 3) rfl] at ho;obtain rfl:=Option.some.inj ho
    rw[show(obW P 3).data= .dict (esAt (KW P) 3) (epAt (KW P) 3) from rfl] at hd;(injection hd with hd;subst hd)
    rw[←hf];exact hb
   rw[this] at e;cases e
   rw[hK0 4 (obW P 4) rfl] at e';obtain rfl:=Option.some.inj e'
   exact⟨m,4,_,tr 3 rfl n,this,hK 4 _ rfl,r⟩
 mods:=by intro z;exact snE z
noncomputable def zk9 (sc:Scope):Bool:= !sc.isCoroutine&& !sc.isGenerator&&sc.kind== .function&&sc.names.all fun p=>p.2 != .free
theorem zay {st:Stmt}{name qual md:Str}{mt:Tok}{code a:Addr}{dflt:Value}{o:Obj}{vs:Array Value}{t:Tok}(h1:(KW P).lookup a=some (fnO st name qual md mt code dflt))
  (h2:(KW P).lookup code=some o) (h3:o.data= .fields vs) (h4:vs[1]? =some (.str qual t)) (h5:zk9 (zan st)=true):FnOk (KW P) a (fnD st name qual md mt code dflt) (zaf st):=by
 unfold zk9 at h5;simp only[Bool.and_eq_true,Bool.not_eq_true',beq_iff_eq] at h5;obtain⟨⟨⟨c1,c2⟩,c3⟩,c4⟩:=h5;refine⟨⟨_,h1,rfl⟩,fun h hK=>⟨code,o,vs,t,rfl,hK _ _ h2,h3,h4⟩,rfl,rfl,rfl,rfl,c1,c2,c3,fun x hx=> ?_⟩;have:=List.all_eq_true.mp c4 _ (PySem.mem_of_lookup hx);simp at this
noncomputable abbrev ziq:FuncData:=fnD (topS 6) (q "quotedata") (q "quotedata") (q "cpy313.smtplib") 289 54 .none
theorem zik:FnOk (KW P) 55 ziq (zaf (topS 6)):=zay (P:=P) (o:=((KW P).lookup 54).getD default) rfl rfl rfl rfl rfl
theorem ziy:Callee (KW P) (.ref 55):=.fn (o:=fnO (topS 6) (q "quotedata") (q "quotedata") (q "cpy313.smtplib") 289 54 .none) rfl rfl
noncomputable abbrev zkk:FuncData:=fnD (inS (topS 10) 1) (q "__init__") (q "_NodeInfo.__init__") (q "cpy313.graphlib") 358 69 .none
theorem zkc:FnOk (KW P) 70 zkk (zaf (inS (topS 10) 1)):=zay (P:=P) (o:=((KW P).lookup 69).getD default) rfl rfl rfl rfl rfl
noncomputable abbrev zkj:FuncData:=fnD (inS (topS 12) 0) (q "__init__") (q "TopologicalSorter.__init__") (q "cpy313.graphlib") 358 106 (.ref 100)
theorem zkb:FnOk (KW P) 107 zkj (zaf (inS (topS 12) 0)):=zay (P:=P) (o:=((KW P).lookup 106).getD default) rfl rfl rfl rfl rfl
noncomputable abbrev zaP:FuncData:=fnD (inS (topS 12) 1) (q "_get_nodeinfo") (q "TopologicalSorter._get_nodeinfo") (q "cpy313.graphlib") 358 113 .none
theorem zb7:FnOk (KW P) 114 zaP (zaf (inS (topS 12) 1)):=zay (P:=P) (o:=((KW P).lookup 113).getD default) rfl rfl rfl rfl rfl
theorem zb8:Callee (KW P) (.ref 114):=.fn (o:=fnO (inS (topS 12) 1) (q "_get_nodeinfo") (q "TopologicalSorter._get_nodeinfo") (q "cpy313.graphlib") 358 113 .none) rfl rfl
noncomputable abbrev zm4:FuncData:=fnD (inS (topS 12) 2) (q "add") (q "TopologicalSorter.add") (q "cpy313.graphlib") 358 120 .none
theorem zjb:FnOk (KW P) 121 zm4 (zaf (inS (topS 12) 2)):=zay (P:=P) (o:=((KW P).lookup 120).getD default) rfl rfl rfl rfl rfl
theorem zji:Callee (KW P) (.ref 121):=.fn (o:=fnO (inS (topS 12) 2) (q "add") (q "TopologicalSorter.add") (q "cpy313.graphlib") 358 120 .none) rfl rfl
noncomputable abbrev zhp:FuncData:=fnD (inS (topS 12) 3) (q "prepare") (q "TopologicalSorter.prepare") (q "cpy313.graphlib") 358 125 .none
theorem zdZ:FnOk (KW P) 126 zhp (zaf (inS (topS 12) 3)):=zay (P:=P) (o:=((KW P).lookup 125).getD default) rfl rfl rfl rfl rfl
theorem zd2:Callee (KW P) (.ref 126):=.fn (o:=fnO (inS (topS 12) 3) (q "prepare") (q "TopologicalSorter.prepare") (q "cpy313.graphlib") 358 125 .none) rfl rfl
noncomputable abbrev zfi:FuncData:=fnD (inS (topS 12) 4) (q "get_ready") (q "TopologicalSorter.get_ready") (q "cpy313.graphlib") 358 132 .none
theorem zff:FnOk (KW P) 133 zfi (zaf (inS (topS 12) 4)):=zay (P:=P) (o:=((KW P).lookup 132).getD default) rfl rfl rfl rfl rfl
theorem zbZ:Callee (KW P) (.ref 133):=.fn (o:=fnO (inS (topS 12) 4) (q "get_ready") (q "TopologicalSorter.get_ready") (q "cpy313.graphlib") 358 132 .none) rfl rfl
noncomputable abbrev zfh:FuncData:=fnD (inS (topS 12) 5) (q "is_active") (q "TopologicalSorter.is_active") (q "cpy313.graphlib") 358 139 .none
theorem zfe:FnOk (KW P) 140 zfh (zaf (inS (topS 12) 5)):=zay (P:=P) (o:=((KW P).lookup 139).getD default) rfl rfl rfl rfl rfl
theorem zbY:Callee (KW P) (.ref 140):=.fn (o:=fnO (inS (topS 12) 5) (q "is_active") (q "TopologicalSorter.is_active") (q "cpy313.graphlib") 358 139 .none) rfl rfl
noncomputable abbrev zlT:FuncData:=fnD (inS (topS 12) 7) (q "done") (q "TopologicalSorter.done") (q "cpy313.graphlib") 358 153 .none
theorem zhf:FnOk (KW P) 154 zlT (zaf (inS (topS 12) 7)):=zay (P:=P) (o:=((KW P).lookup 153).getD default) rfl rfl rfl rfl rfl
theorem zl2:Callee (KW P) (.ref 154):=.fn (o:=fnO (inS (topS 12) 7) (q "done") (q "TopologicalSorter.done") (q "cpy313.graphlib") 358 153 .none) rfl rfl
noncomputable abbrev zeW:FuncData:=fnD (inS (topS 12) 8) (q "_find_cycle") (q "TopologicalSorter._find_cycle") (q "cpy313.graphlib") 358 160 .none
theorem zeR:FnOk (KW P) 161 zeW (zaf (inS (topS 12) 8)):=zay (P:=P) (o:=((KW P).lookup 160).getD default) rfl rfl rfl rfl rfl
theorem zeY:Callee (KW P) (.ref 161):=.fn (o:=fnO (inS (topS 12) 8) (q "_find_cycle") (q "TopologicalSorter._find_cycle") (q "cpy313.graphlib") 358 160 .none) rfl rfl
noncomputable abbrev zm3:FuncData:=fnD (topS 21) (q "fspath") (q "fspath") (q "os") 627 247 .none
theorem zmT:FnOk (KW P) 248 zm3 (zaf (topS 21)):=zay (P:=P) (o:=((KW P).lookup 247).getD default) rfl rfl rfl rfl rfl
theorem zdt:Callee (KW P) (.ref 248):=.fn (o:=fnO (topS 21) (q "fspath") (q "fspath") (q "os") 627 247 .none) rfl rfl
noncomputable abbrev zlS:FuncData:=fnD (topS 25) (q "_get_sep") (q "_get_sep") (q "cpy313.posixpath") 652 261 .none
theorem zlJ:FnOk (KW P) 262 zlS (zaf (topS 25)):=zay (P:=P) (o:=((KW P).lookup 261).getD default) rfl rfl rfl rfl rfl
theorem zl1:Callee (KW P) (.ref 262):=.fn (o:=fnO (topS 25) (q "_get_sep") (q "_get_sep") (q "cpy313.posixpath") 652 261 .none) rfl rfl
noncomputable abbrev zoO:FuncData:=fnD (topS 26) (q "join") (q "join") (q "cpy313.posixpath") 652 268 .none
theorem zoM:FnOk (KW P) 269 zoO (zaf (topS 26)):=zay (P:=P) (o:=((KW P).lookup 268).getD default) rfl rfl rfl rfl rfl
theorem zl0:Callee (KW P) (.ref 269):=.fn (o:=fnO (topS 26) (q "join") (q "join") (q "cpy313.posixpath") 652 268 .none) rfl rfl
noncomputable abbrev zio:FuncData:=fnD (topS 27) (q "splitroot") (q "splitroot") (q "cpy313.posixpath") 652 275 .none
theorem zij:FnOk (KW P) 276 zio (zaf (topS 27)):=zay (P:=P) (o:=((KW P).lookup 275).getD default) rfl rfl rfl rfl rfl
theorem zix:Callee (KW P) (.ref 276):=.fn (o:=fnO (topS 27) (q "splitroot") (q "splitroot") (q "cpy313.posixpath") 652 275 .none) rfl rfl
noncomputable abbrev zkf:FuncData:=fnD (topS 28) (q "normpath") (q "normpath") (q "cpy313.posixpath") 652 282 .none
theorem zj7:FnOk (KW P) 283 zkf (zaf (topS 28)):=zay (P:=P) (o:=((KW P).lookup 282).getD default) rfl rfl rfl rfl rfl
theorem zcD:Callee (KW P) (.ref 283):=.fn (o:=fnO (topS 28) (q "normpath") (q "normpath") (q "cpy313.posixpath") 652 282 .none) rfl rfl
noncomputable abbrev zir:FuncData:=fnD (topS 30) (q "_law_words") (q "_law_words") (q "law_ik0150_01") 696 289 .none
theorem zil:FnOk (KW P) 290 zir (zaf (topS 30)):=zay (P:=P) (o:=((KW P).lookup 289).getD default) rfl rfl rfl rfl rfl
theorem zc7:Callee (KW P) (.ref 290):=.fn (o:=fnO (topS 30) (q "_law_words") (q "_law_words") (q "law_ik0150_01") 696 289 .none) rfl rfl
noncomputable abbrev zki:FuncData:=fnD (topS 31) (q "_law_laid") (q "_law_laid") (q "law_ik0150_01") 696 296 .none
theorem zka:FnOk (KW P) 297 zki (zaf (topS 31)):=zay (P:=P) (o:=((KW P).lookup 296).getD default) rfl rfl rfl rfl rfl
theorem zkp:Callee (KW P) (.ref 297):=.fn (o:=fnO (topS 31) (q "_law_laid") (q "_law_laid") (q "law_ik0150_01") 696 296 .none) rfl rfl
noncomputable abbrev zho:FuncData:=fnD (topS 32) (q "_law_rounds") (q "_law_rounds") (q "law_ik0150_01") 696 301 .none
theorem zhe:FnOk (KW P) 302 zho (zaf (topS 32)):=zay (P:=P) (o:=((KW P).lookup 301).getD default) rfl rfl rfl rfl rfl
theorem zhu:Callee (KW P) (.ref 302):=.fn (o:=fnO (topS 32) (q "_law_rounds") (q "_law_rounds") (q "law_ik0150_01") 696 301 .none) rfl rfl
noncomputable abbrev zd9:FuncData:=fnD (topS 33) (q "_law_one_by_one") (q "_law_one_by_one") (q "law_ik0150_01") 696 306 .none
theorem zd8:FnOk (KW P) 307 zd9 (zaf (topS 33)):=zay (P:=P) (o:=((KW P).lookup 306).getD default) rfl rfl rfl rfl rfl
theorem zea:Callee (KW P) (.ref 307):=.fn (o:=fnO (topS 33) (q "_law_one_by_one") (q "_law_one_by_one") (q "law_ik0150_01") 696 306 .none) rfl rfl
noncomputable abbrev zfg:FuncData:=fnD (topS 34) (q "_law_prepared") (q "_law_prepared") (q "law_ik0150_01") 696 313 .none
theorem zfd:FnOk (KW P) 314 zfg (zaf (topS 34)):=zay (P:=P) (o:=((KW P).lookup 313).getD default) rfl rfl rfl rfl rfl
theorem zcM:Callee (KW P) (.ref 314):=.fn (o:=fnO (topS 34) (q "_law_prepared") (q "_law_prepared") (q "law_ik0150_01") 696 313 .none) rfl rfl
noncomputable abbrev zkg:FuncData:=fnD (topS 35) (q "_law_told") (q "_law_told") (q "law_ik0150_01") 696 320 .none
theorem zj8:FnOk (KW P) 321 zkg (zaf (topS 35)):=zay (P:=P) (o:=((KW P).lookup 320).getD default) rfl rfl rfl rfl rfl
theorem zkn:Callee (KW P) (.ref 321):=.fn (o:=fnO (topS 35) (q "_law_told") (q "_law_told") (q "law_ik0150_01") 696 320 .none) rfl rfl
noncomputable abbrev zis:FuncData:=fnD (topS 36) (q "_law_dealt") (q "_law_dealt") (q "law_ik0150_01") 696 327 .none
theorem zim:FnOk (KW P) 328 zis (zaf (topS 36)):=zay (P:=P) (o:=((KW P).lookup 327).getD default) rfl rfl rfl rfl rfl
theorem ziz:Callee (KW P) (.ref 328):=.fn (o:=fnO (topS 36) (q "_law_dealt") (q "_law_dealt") (q "law_ik0150_01") 696 327 .none) rfl rfl
noncomputable abbrev zkh:FuncData:=fnD (topS 37) (q "_law_left") (q "_law_left") (q "law_ik0150_01") 696 334 .none
theorem zj9:FnOk (KW P) 335 zkh (zaf (topS 37)):=zay (P:=P) (o:=((KW P).lookup 334).getD default) rfl rfl rfl rfl rfl
theorem zko:Callee (KW P) (.ref 335):=.fn (o:=fnO (topS 37) (q "_law_left") (q "_law_left") (q "law_ik0150_01") 696 334 .none) rfl rfl
noncomputable abbrev zpk:FuncData:=fnD (topS 38) (q "law") (q "law") (q "law_ik0150_01") 696 339 .none
theorem zph:FnOk (KW P) 340 zpk (zaf (topS 38)):=zay (P:=P) (o:=((KW P).lookup 339).getD default) rfl rfl rfl rfl rfl
theorem zig:gW P (Str.ofString "quotedata")=some (.ref 55):=by kernel_rfl
theorem zbG:gW P (Str.ofString "TopologicalSorter")=some (.ref 171):=by kernel_rfl
theorem zjZ:gW P (Str.ofString "_NodeInfo")=some (.ref 74):=by kernel_rfl
theorem zdY:gW P (Str.ofString "CycleError")=some (.ref 89):=by kernel_rfl
theorem zdn:gW P (Str.ofString "fspath")=some (.ref 248):=by kernel_rfl
theorem zlz:gW P (Str.ofString "_get_sep")=some (.ref 262):=by kernel_rfl
theorem zly:gW P (Str.ofString "join")=some (.ref 269):=by kernel_rfl
theorem zif:gW P (Str.ofString "splitroot")=some (.ref 276):=by kernel_rfl
theorem zcB:gW P (Str.ofString "normpath")=some (.ref 283):=by kernel_rfl
theorem zc1:gW P (Str.ofString "_law_words")=some (.ref 290):=by kernel_rfl
theorem zjY:gW P (Str.ofString "_law_laid")=some (.ref 297):=by kernel_rfl
theorem zg6:gW P (Str.ofString "_law_rounds")=some (.ref 302):=by kernel_rfl
theorem zd6:gW P (Str.ofString "_law_one_by_one")=some (.ref 307):=by kernel_rfl
theorem zcK:gW P (Str.ofString "_law_prepared")=some (.ref 314):=by kernel_rfl
theorem zjW:gW P (Str.ofString "_law_told")=some (.ref 321):=by kernel_rfl
theorem zih:gW P (Str.ofString "_law_dealt")=some (.ref 328):=by kernel_rfl
theorem zjX:gW P (Str.ofString "_law_left")=some (.ref 335):=by kernel_rfl
theorem zie:gW P (Str.ofString "_twin_re_1")=some (.ref 43):=by kernel_rfl
theorem zid:gW P (Str.ofString "_twin_re_2")=some (.ref 48):=by kernel_rfl
theorem zoI:gW P (Str.ofString "CRLF")=some (.str (q "\x0d\n") 349):=by kernel_rfl
theorem zfz:gW P (Str.ofString "_NODE_OUT")=some (.int (-1) 361):=by kernel_rfl
theorem zii:gW P (Str.ofString "_NODE_DONE")=some (.int (-2) 364):=by kernel_rfl
theorem zow:gW P (Str.ofString "type")=none:=by kernel_rfl
theorem zoT:bW P (Str.ofString "type")=some (.type "type"):=by kernel_rfl
theorem zgV:gW P (Str.ofString "issubclass")=none:=by kernel_rfl
theorem zhw:bW P (Str.ofString "issubclass")=some (.builtin "issubclass"):=by kernel_rfl
theorem zpd:gW P (Str.ofString "str")=none:=by kernel_rfl
theorem zpm:bW P (Str.ofString "str")=some (.type "str"):=by kernel_rfl
theorem zez:gW P (Str.ofString "bytes")=none:=by kernel_rfl
theorem ze0:bW P (Str.ofString "bytes")=some (.type "bytes"):=by kernel_rfl
theorem zbL:gW P (Str.ofString "isinstance")=none:=by kernel_rfl
theorem zbQ:bW P (Str.ofString "isinstance")=some (.builtin "isinstance"):=by kernel_rfl
theorem zjT:gW P (Str.ofString "len")=none:=by kernel_rfl
theorem zkt:bW P (Str.ofString "len")=some (.builtin "len"):=by kernel_rfl
theorem zoA:gW P (Str.ofString "iter")=none:=by kernel_rfl
theorem zoW:bW P (Str.ofString "iter")=some (.builtin "iter"):=by kernel_rfl
theorem zoy:gW P (Str.ofString "set")=none:=by kernel_rfl
theorem zoU:bW P (Str.ofString "set")=some (.type "set"):=by kernel_rfl
theorem zed:gW P (Str.ofString "sorted")=none:=by kernel_rfl
theorem zek:bW P (Str.ofString "sorted")=some (.builtin "sorted"):=by kernel_rfl
theorem zey:gW P (Str.ofString "range")=none:=by kernel_rfl
theorem zeZ:bW P (Str.ofString "range")=some (.type "range"):=by kernel_rfl
theorem zpe:gW P (Str.ofString "max")=none:=by kernel_rfl
theorem zpn:bW P (Str.ofString "max")=some (.builtin "max"):=by kernel_rfl
theorem znL:gW P (Str.ofString "tuple")=none:=by kernel_rfl
theorem zn8:bW P (Str.ofString "tuple")=some (.type "tuple"):=by kernel_rfl
theorem zoz:gW P (Str.ofString "list")=none:=by kernel_rfl
theorem zoV:bW P (Str.ofString "list")=some (.type "list"):=by kernel_rfl
theorem zoB:gW P (Str.ofString "bool")=none:=by kernel_rfl
theorem zoX:bW P (Str.ofString "bool")=some (.type "bool"):=by kernel_rfl
theorem zh5:gW P (Str.ofString "enumerate")=none:=by kernel_rfl
theorem ziB:bW P (Str.ofString "enumerate")=some (.type "enumerate"):=by kernel_rfl
theorem zeA:gW P (Str.ofString "StopIteration")=none:=by kernel_rfl
theorem ze1:bW P (Str.ofString "StopIteration")=some (.type "StopIteration"):=by kernel_rfl
theorem zaB:InstCls (KW P) 171:=⟨by kernel_rfl,by kernel_rfl,by kernel_rfl,by kernel_rfl,by kernel_rfl⟩
theorem zaE:findIn (KW P) (.ref 171) (Str.ofString "_node2info")=some none:=by kernel_rfl
theorem zao:findIn (KW P) (.ref 171) (Str.ofString "_ready_nodes")=some none:=by kernel_rfl
theorem zbw:findIn (KW P) (.ref 171) (Str.ofString "_npassedout")=some none:=by kernel_rfl
theorem zbK:findIn (KW P) (.ref 171) (Str.ofString "_nfinished")=some none:=by kernel_rfl
theorem zcJ:findIn (KW P) (.ref 171) (Str.ofString "_get_nodeinfo")=some (some (.ref 114)):=by kernel_rfl
theorem zcG:typeIn (KW P) (.ref 114)=some (.type "function"):=by kernel_rfl
theorem zmC:findIn (KW P) (.ref 171) (Str.ofString "add")=some (some (.ref 121)):=by kernel_rfl
theorem zml:typeIn (KW P) (.ref 121)=some (.type "function"):=by kernel_rfl
theorem zgW:findIn (KW P) (.ref 171) (Str.ofString "prepare")=some (some (.ref 126)):=by kernel_rfl
theorem zgz:typeIn (KW P) (.ref 126)=some (.type "function"):=by kernel_rfl
theorem zcY:findIn (KW P) (.ref 171) (Str.ofString "get_ready")=some (some (.ref 133)):=by kernel_rfl
theorem zcR:typeIn (KW P) (.ref 133)=some (.type "function"):=by kernel_rfl
theorem zcX:findIn (KW P) (.ref 171) (Str.ofString "is_active")=some (some (.ref 140)):=by kernel_rfl
theorem zcQ:typeIn (KW P) (.ref 140)=some (.type "function"):=by kernel_rfl
theorem znk:findIn (KW P) (.ref 171) (Str.ofString "done")=some (some (.ref 154)):=by kernel_rfl
theorem zng:typeIn (KW P) (.ref 154)=some (.type "function"):=by kernel_rfl
theorem zgX:findIn (KW P) (.ref 171) (Str.ofString "_find_cycle")=some (some (.ref 161)):=by kernel_rfl
theorem zgA:typeIn (KW P) (.ref 161)=some (.type "function"):=by kernel_rfl
theorem zlx:specialIn (KW P) (.ref 121) "__get__" =some (some (.builtin "function.__get__")):=by kernel_rfl
theorem zgx:takesIn (KW P) (.ref 121)=some false:=by kernel_rfl
theorem zmM:specialIn (KW P) (.ref 154) "__get__" =some (some (.builtin "function.__get__")):=by kernel_rfl
theorem zjt:takesIn (KW P) (.ref 154)=some false:=by kernel_rfl
theorem za7:InfoCls (KW P):=⟨by kernel_rfl,by kernel_rfl,by kernel_rfl,by kernel_rfl⟩
theorem zkP:SlotAttr (KW P) (Str.ofString "node") 75 0:=⟨by kernel_rfl,by kernel_rfl,by kernel_rfl,by kernel_rfl,by kernel_rfl,by kernel_rfl⟩
theorem zaq:SlotAttr (KW P) (Str.ofString "npredecessors") 76 1:=⟨by kernel_rfl,by kernel_rfl,by kernel_rfl,by kernel_rfl,by kernel_rfl,by kernel_rfl⟩
theorem zbu:SlotAttr (KW P) (Str.ofString "successors") 77 2:=⟨by kernel_rfl,by kernel_rfl,by kernel_rfl,by kernel_rfl,by kernel_rfl,by kernel_rfl⟩
theorem zlX:zgr (KW P) 171:=⟨⟨_,_,_,_,rfl⟩,by kernel_rfl⟩
theorem zmA:makesIn (KW P) 171=true:=by kernel_rfl
theorem znV:findIn (KW P) (.ref 171) "__init__" =some (some (.ref 107)):=by kernel_rfl
theorem zo5:typeIn (KW P) (.ref 107)=some (.type "function"):=by kernel_rfl
theorem zn6:zgr (KW P) 74:=⟨⟨_,_,_,_,rfl⟩,by kernel_rfl⟩
theorem zmB:makesIn (KW P) 74=true:=by kernel_rfl
theorem znW:findIn (KW P) (.ref 74) "__init__" =some (some (.ref 70)):=by kernel_rfl
theorem zo6:typeIn (KW P) (.ref 70)=some (.type "function"):=by kernel_rfl
theorem excW:ExcCls (KW P) 89:=
 ⟨_,_,88,_,_,_,_,_,_,_,_,_,_,_,_,_,rfl,fun h hK=>zot (P:=P) hK rfl rfl rfl,by kernel_rfl⟩
theorem patD:PatK (KW P) 43 zcE:=fun h hK=>⟨_,_,_,_,_,_,_,42,_,_,_,hK 43 _ rfl,rfl,rfl,rfl,rfl,hK 42 _ rfl,⟨rfl,rfl⟩,by kernel_rfl⟩
theorem patN:PatK (KW P) 48 zbs:=fun h hK=>⟨_,_,_,_,_,_,_,47,_,_,_,hK 48 _ rfl,rfl,rfl,rfl,rfl,hK 47 _ rfl,⟨rfl,rfl⟩,by kernel_rfl⟩
theorem zpj (h:Heap)(hK:(KW P).In h):∃ob,h.get? 43=some ob∧ob.dict=none:=⟨_,hK 43 _ rfl,rfl⟩
theorem zpi (h:Heap)(hK:(KW P).In h):∃ob,h.get? 48=some ob∧ob.dict=none:=⟨_,hK 48 _ rfl,rfl⟩
theorem znl {a:Addr}{o:Obj} :∀{K:List (Addr×Obj)},K.all (fun p=>decide (p.1≤za2))=true→K.lookup a=some o→a≤za2
 | [],_,e=>by exact nsE e
 | (b,u)::r,h,e=>by
  rw[List.all_cons,Bool.and_eq_true] at h;rw[List.lookup_cons] at e
  cases z:a==b with
  | true=>rw[beq_iff_eq.mp z];simpa using h.1
  | false=>rw[z] at e;exact znl h.2 e
theorem lowW {a:Addr}{o:Obj}(e:(KW P).lookup a=some o):a≤za2:=znl (K:=KW P) (by rfl) e
end Mine
end
section
namespace Mine
mutual
inductive Bd (n:Nat):AV→Prop
 | none:Bd n .none
 | bool {b} :Bd n (.bool b)
 | int {i} :Bd n (.int i)
 | str {i} :Bd n (.str i)
 | rng {i} :Bd n (.rng i)
 | cst {u} :Bd n (.cst u)
 | obj {i} :i < n→Bd n (.obj i)
 | nxt {i} :i < n→Bd n (.nxt i)
 | vals {i} :i < n→Bd n (.vals i)
 | lst {xs} :Bds n xs→Bd n (.lst xs)
 | tup {xs} :Bds n xs→Bd n (.tup xs)
inductive Bds (n:Nat):List AV→Prop
 | nil:Bds n []
 | cons {x xs} :Bd n x→Bds n xs→Bds n (x::xs)
end
inductive Bde (n:Nat):List (Str×AV)→Prop
 | nil:Bde n []
 | cons {k x es} :Bd n x→Bde n es→Bde n ((k,x)::es)
inductive Bdo (n:Nat):Option AV→Prop
 | none:Bdo n .none
 | some {x} :Bd n x→Bdo n (.some x)
inductive BdC (n:Nat):Cell→Prop
 | lst {xs} :Bds n xs→BdC n (.lst xs)
 | dct {es ep} :Bde n es→BdC n (.dct es ep)
 | set {zs} :BdC n (.set zs)
 | uset {zs} :BdC n (.uset zs)
 | ns {es} :(∀k,Bdo n (dget es k))→BdC n (.ns es)
 | inst {C i} :i < n→BdC n (.inst C i)
 | info {i nd np su} :i < n→Bdo n nd→Bdo n np→Bdo n su→BdC n (.info i nd np su)
 | iter {x p} :Bd n x→BdC n (.iter x p)
 | titer {xs p} :Bds n xs→BdC n (.titer xs p)
 | riter {m p} :BdC n (.riter m p)
 | kiter {i m ep p} :i < n→BdC n (.kiter i m ep p)
 | viter {i m ep p} :i < n→BdC n (.viter i m ep p)
 | enum {i p} :i < n→BdC n (.enum i p)
 | junk:BdC n .junk
inductive BdH (n:Nat):List Cell→Prop
 | nil:BdH n []
 | cons {c H} :BdC n c→BdH n H→BdH n (c::H)
inductive Frz (n:Nat)(H:List Cell):AV→AV→Prop
 | same {x} :Bd n x→Frz n H x x
 | list {j xs} :n≤j→H[j]? =some (.lst xs)→Bds n xs→Frz n H (.obj j) (.lst xs)
inductive FrzF (n:Nat)(H:List Cell):AFlow→AFlow→Prop
 | next:FrzF n H .next .next
 | brk:FrzF n H .brk .brk
 | cont:FrzF n H .cont .cont
 | ret {x y} :Frz n H x y→FrzF n H (.ret x) (.ret y)
variable {pg:Program}{w:World}{K:Frag}{Φ:Fm}{d:Nat}{sc:Scope}{σ σ' σ1 cp:List (Str×AV)}{H H' cn cq tl:List Cell}{v v1 v2 x y:AV}{A:Around}{s s':Shared}
 {env:Env} {O ρ ρ' l:List Addr} {e:Expr} {xs ys:List AV} {h:Heap}
theorem Bds.txts {n:Nat} :∀{ts:List Str},Bds n (txts ts)
 | []=>.nil
 | _::_=>.cons .str Bds.txts
theorem Bds.append {n:Nat} :∀{xs ys:List AV},Bds n xs→Bds n ys→Bds n (xs++ys)
 | [],_,_,q=>q
 | _::_,_,.cons a b,q=>.cons a (b.append q)
theorem Bds.of {n:Nat} :∀{xs:List AV},(∀x∈xs,Bd n x)→Bds n xs
 | [],_=>.nil
 | _::_,h=>.cons (h _ List.mem_cons_self) (Bds.of fun x hx=>h x (List.mem_cons_of_mem _ hx))
theorem BdH.append {n:Nat} :∀{H H':List Cell},BdH n H→BdH n H'→BdH n (H++H')
 | [],_,_,q=>q
 | _::_,_,.cons a b,q=>.cons a (b.append q)
theorem BdH.get {n:Nat} :∀{H:List Cell},BdH n H→∀{i:Nat} {c:Cell},H[i]? =some c→BdC n c
 | [],_,_,_,e=>by simp at e
 | _::_,.cons a b,0,_,e=>by simp at e;subst e;exact a
 | _::_,.cons a b,i+1,_,e=>by simp at e;exact b.get e
theorem Bd.objI {n i:Nat}(q:Bd n (.obj i)):i < n:=by cases q;assumption
theorem Bd.nxtI {n i:Nat}(q:Bd n (.nxt i)):i < n:=by cases q;assumption
theorem Bd.valsI {n i:Nat}(q:Bd n (.vals i)):i < n:=by cases q;assumption
theorem Bd.lstI {n:Nat}{xs}(q:Bd n (.lst xs)):Bds n xs:=by cases q;assumption
theorem Bd.tupI {n:Nat}{xs}(q:Bd n (.tup xs)):Bds n xs:=by cases q;assumption
theorem Bd.mono {n m:Nat}(hm:n≤m){x:AV}(q:Bd n x):Bd m x:=
 Bd.rec (motive_1:=fun x _=>Bd m x) (motive_2:=fun xs _=>Bds m xs) .none .bool .int .str .rng .cst (fun q=>.obj (Nat.lt_of_lt_of_le q hm)) (fun q=>.nxt (Nat.lt_of_lt_of_le q hm)) (fun q=>.vals (Nat.lt_of_lt_of_le q hm)) (fun _ q=>.lst q) (fun _ q=>.tup q) .nil (fun _ _ a b=>.cons a b) q
theorem Bds.mono {n m:Nat}(hm:n≤m){xs:List AV}(q:Bds n xs):Bds m xs:=(Bd.mono hm (.lst q)).lstI
theorem VR.cut {x:AV}{v:Value}(q:VR h (ρ++l) x v):Bd ρ.length x→VR h ρ x v:=by
 have nm:∀{a:Addr},a∉ρ++l→a∉ρ:=fun n z=>n (List.mem_append_left _ z)
 have gt:∀{i:Nat} {a:Addr},(ρ++l)[i]? =some a→i < ρ.length→ρ[i]? =some a:=fun e q=>by rw[List.getElem?_append_left q] at e;exact e
 refine VR.rec (motive_1:=fun x v _=>Bd ρ.length x→VR h ρ x v) (motive_2:=fun xs vs _=>Bds ρ.length xs→VRs h ρ xs vs) (fun _=>.none) (fun _=>.bool) (fun _=>.int) (fun _=>.str) (fun e q=>.obj (gt e q.objI)) (fun e g n q=>.nxt (gt e q.nxtI) g (nm n)) (fun e g n q=>.vals (gt e q.valsI) g (nm n)) (fun g n _=>.rng g (nm n))
  (fun g n _ r q=>.lst g (nm n) (r q.lstI)) (fun g n _ r q=>.tup g (nm n) (r q.tupI)) (fun _=>.cst) (fun _=>.nil) (fun _ _ a b q=> ?_) q
 cases q with | cons p q=>exact .cons (a p) (b q)
theorem VRs.cut {xs:List AV}{vs:List Value}(q:VRs h (ρ++l) xs vs):Bds ρ.length xs→VRs h ρ xs vs:=
 VRs.ind (C:=fun xs vs=>Bds ρ.length xs→VRs h ρ xs vs) (fun _=>.nil) (fun a _ b q=>by cases q with | cons p q=>exact .cons (a.cut p) (b q)) q
theorem ER.cut {es:List (Str×AV)}{fs:List (Str×Value)}(q:ER h (ρ++l) es fs):Bde ρ.length es→ER h ρ es fs:=by
 induction q with
 | nil=>exact fun _=>.nil
 | cons a _ b=>intro q;cases q with | cons p q=>exact .cons (a.cut p) (b q)
theorem OVR.cut {x:Option AV}{v:Option Value}(q:OVR h (ρ++l) x v):Bdo ρ.length x→OVR h ρ x v:=by
 cases q with
 | none=>exact fun _=>.none
 | some a=>intro p;cases p with | some p=>exact .some (a.cut p)
theorem Bde.lookup {n:Nat} :∀{es:List (Str×AV)},Bde n es→∀{k:Str} {x:AV},es.lookup k=some x→Bd n x
 | _,.nil,_,_,e=>by exact nsE e
 | _,.cons (k:=k') a b,k,x,e=>by
  rw[List.lookup_cons] at e
  cases z:k==k' with
  | true=>rw[z] at e;obtain rfl:=Option.some.inj e;exact a
  | false=>rw[z] at e;exact b.lookup e
theorem CellAt.cut {a:Addr}{c:Cell}(C:CellAt pg w h (ρ++l) a c)(q:BdC ρ.length c):CellAt pg w h ρ a c:=by
 cases q with
 | lst q=>refine CellAt.lstE C fun _ _ ho r=> ?_;exact .lst ho (r.cut q)
 | dct q=>refine CellAt.dctE C fun _ _ ho r z=> ?_;exact .dct ho (r.cut q) z
 | set=>refine CellAt.setE C fun _ ho z=> ?_;exact .set ho z
 | uset=>refine CellAt.ck C fun ho=> ?_;exact .uset ho
 | ns q=>refine CellAt.nsE C fun _ ho r=> ?_;exact .ns ho fun k=>(r k).cut (q k)
 | inst q=>refine CellAt.bU C fun _ e ho=> ?_;exact .inst (by rw[List.getElem?_append_left q] at e;exact e) ho
 | info q q1 q2 q3=>refine CellAt.bV C fun _ _ e ho r=> ?_;exact .info (by rw[List.getElem?_append_left q] at e;exact e) ho fun j=>(r j).cut (by
   rcases j with _ | _ | _ | j<;>first | exact q1 | exact q2 | exact q3 | exact .none)
 | iter q=>refine CellAt.al C fun _ r ho=> ?_;exact .iter (r.cut q) ho
 | titer q=>refine CellAt.aB C fun _ r ho=> ?_;exact .titer (r.cut (.tup q)) ho
 | riter=>refine CellAt.aD C fun p ho=> ?_;exact .riter p ho
 | kiter q=>refine CellAt.aE C fun _ e ho=> ?_;exact .kiter (by rw[List.getElem?_append_left q] at e;exact e) ho
 | viter q=>refine CellAt.az C fun _ e ho=> ?_;exact .viter (by rw[List.getElem?_append_left q] at e;exact e) ho
 | enum q=>refine CellAt.bb C fun _ _ e ho=> ?_;exact .enum (by rw[List.getElem?_append_left q] at e;exact e) ho
 | junk=>exact .junk
theorem Rel.cut (R:Rel pg w K Φ (ρ++l) (cn++tl) h)(hl:cn.length=ρ.length)(q:BdH ρ.length cn):Rel pg w K Φ ρ cn h:=
 ⟨R.top,hl.symm,(List.nodup_append.mp R.nd).1,fun i c a hc ha=>by
  have h1:=(List.getElem?_eq_some_iff.mp hc).1
  exact(R.cell i c a (by rw[List.getElem?_append_left h1];exact hc) (by rw[List.getElem?_append_left (by rw[←hl];exact h1)];exact ha)).cut (q.get hc),
  fun a ha=>R.apart a (List.mem_append_left _ ha),fun a ha=>R.live a (List.mem_append_left _ ha),R.low,R.big,fun L hL=>let⟨a,b,c⟩:=R.frames L hL;⟨a,fun z=>b (List.mem_append_left _ z),c⟩⟩
theorem EnvR.cut (X:EnvR K Φ env sc O σ (ρ++l) h)(q:Bde ρ.length σ):EnvR K Φ env sc O σ ρ h:=
 ⟨X.fn,X.gl,X.bl,X.glob,X.loc,X.cel,X.fre,let⟨m,hm,z⟩:=X.ns;⟨m,hm,fun x v e k=>let⟨v',a,b⟩:=z x v e k;⟨v',a,b.cut (q.lookup e)⟩⟩,
  fun x v e k=>let⟨a,c,v',b,g,z⟩:=X.cells x v e k;⟨a,c,v',b,g,z.cut (q.lookup e)⟩,X.apart,X.locO,fun a ha=>⟨fun z=>(X.off a ha).1 (List.mem_append_left _ z),(X.off a ha).2⟩,X.soft,
  fun x c e=>let⟨a,b,z⟩:=X.cellOff x c e;⟨fun z'=>a (List.mem_append_left _ z'),b,z⟩,X.cellLive,X.frame⟩
theorem Moves.cut (m:Moves O h s.heap ρ ρ'):Moves O h s.heap ρ ρ:=⟨m.keep,m.size,Ext.refl _ _,m.soft⟩
theorem St.cut (X:St pg w K Φ env sc O σ (cn++tl) (ρ++l) s)(hl:cn.length=ρ.length)(q:BdH ρ.length cn)(z:Bde ρ.length σ):St pg w K Φ env sc O σ cn ρ s:=⟨X.rel.cut hl q,X.env.cut z,X.gens⟩
theorem VR.frz {a:Value}{j:Nat}(R:Rel pg w K Φ (ρ++l) H h)(q:VR h (ρ++l) (.obj j) a)(hj:ρ.length≤j)(e:H[j]? =some (.lst xs))(b:Bds ρ.length xs):VR h ρ (.lst xs) a:=by
 cases q with
 | @obj _ a ha=>
  cases R.cell j _ _ e ha with
  | lst ho r=>
   refine .lst ⟨_,ho,rfl,_,rfl⟩ (fun z=> ?_) (r.cut b);rw[List.getElem?_append_right hj] at ha;exact(List.nodup_append.mp R.nd).2.2 a z a (zbC ha) rfl
theorem Frz.at {a:Value}(F:Frz ρ.length H x y)(R:Rel pg w K Φ (ρ++l) H h)(q:VR h (ρ++l) x a):VR h ρ y a:=by
 cases F with
 | same b=>exact q.cut b
 | list hj e b=>exact VR.frz R q hj e b
theorem SCc.drop {f:Value}(a:SCc pg w K Φ d f xs H v (cn++tl))(hl:cn.length=H.length)(q:BdH H.length cn)(F:Frz H.length (cn++tl) v y):SCc pg w K Φ d f xs H y cn:=fun ρ s A vs ok R g p=>
 codeAny_mono (a ρ s A vs ok R g p) fun r s' z=>by
  rcases r with e | (u | _ | _ | _)<;>try exact z
  obtain⟨ρ',m,R',g',z,o⟩:=z;obtain⟨l,rfl,_⟩:=id m.ext;have e:=R.len;exact⟨ρ,m.cut,R'.cut (hl.trans e.symm) (by rw[e];exact q),g',Frz.at (by rw[e];exact F) R' z,o⟩
theorem SE.drop (a:SE pg w K Φ d sc e σ H v σ' (cn++tl))(hl:cn.length=H.length)(q:BdH H.length cn)(b:Bde H.length σ')(F:Frz H.length (cn++tl) v y):SE pg w K Φ d sc e σ H y σ' cn:=.mk fun env O ρ s A ok X=>
 wpAny_mono (a.1 env O ρ s A ok X) (fun u s' ⟨ρ',m,X',z,o⟩=>by
  obtain⟨l,rfl,_⟩:=id m.ext;have e:=X.rel.len
  exact⟨ρ,m.cut,X'.cut (hl.trans e.symm) (by rw[e];exact q) (by rw[e];exact b),Frz.at (by rw[e];exact F) X'.rel z,o⟩) fun _ _ z=>z
set_option tactic.hygienic true in
theorem FrzF.at {f f':AFlow}{r:Flow}(F:FrzF ρ.length H f f')(R:Rel pg w K Φ (ρ++l) H h)(q:FR h (ρ++l) f r):FR h ρ f' r:=by
 cases F<;>cases r<;>first | trivial | exact q.elim | (rename_i F _;exact F.at R q)
theorem SSs.drop {cs:List Stmt}{f f':AFlow}(a:SSs pg w K Φ d sc cs σ H f σ' (cn++tl))(hl:cn.length=H.length)(q:BdH H.length cn)(b:Bde H.length σ')(F:FrzF H.length (cn++tl) f f'):SSs pg w K Φ d sc cs σ H f' σ' cn:=.mk fun env O ρ s A ok X=>
 wpAny_mono (a.1 env O ρ s A ok X) (fun u s' ⟨ρ',m,X',z,o⟩=>by
  obtain⟨l,rfl,_⟩:=id m.ext;have e:=X.rel.len
  exact⟨ρ,m.cut,X'.cut (hl.trans e.symm) (by rw[e];exact q) (by rw[e];exact b),FrzF.at (by rw[e];exact F) X'.rel z,o⟩) fun _ _ z=>z
theorem SS.drop {c:Stmt}{f f':AFlow}(a:SS pg w K Φ d sc c σ H f σ' (cn++tl))(hl:cn.length=H.length)(q:BdH H.length cn)(b:Bde H.length σ')(F:FrzF H.length (cn++tl) f f'):SS pg w K Φ d sc c σ H f' σ' cn:=.mk fun env O ρ s A ok X=>
 wpAny_mono (a.1 env O ρ s A ok X) (fun u s' ⟨ρ',m,X',z,o⟩=>by
  obtain⟨l,rfl,_⟩:=id m.ext;have e:=X.rel.len
  exact⟨ρ,m.cut,X'.cut (hl.trans e.symm) (by rw[e];exact q) (by rw[e];exact b),FrzF.at (by rw[e];exact F) X'.rel z,o⟩) fun _ _ z=>z
end Mine
end
section
namespace Mine
noncomputable def exNo:Expr:=.Constant .none 0 ⟨0,0,0,0⟩
set_option backward.match.sparseCases false in
noncomputable def stX:Stmt→Expr×List Stmt×List Stmt
 | .For t _ b e _=>(t,b,e)
 | .While t b e _=>(t,b,e)
 | .If t b e _=>(t,b,e)
 | .Assign _ v _=>(v,[],[])
 | .Return (some v) _=>(v,[],[])
 | _=>(exNo,[],[])
noncomputable def stT (s:Stmt):Expr:=(stX s).1
noncomputable def stB (s:Stmt):List Stmt:=(stX s).2.1
noncomputable def stE (s:Stmt):List Stmt:=(stX s).2.2
set_option backward.match.sparseCases false in
noncomputable def exX:Expr→Expr×List Comprehension×Scope×List Expr×Nat
 | .ListComp e g s _=>(e,g,s,[],0)
 | .IfExp t _ _ _=>(t,[],default,[],0)
 | .Compare l _ c _=>(l,[],default,c,0)
 | .Subscript v _ _=>(v,[],default,[],0)
 | .Tuple e k _=>(exNo,[],default,e,k)
 | _=>(exNo,[],default,[],0)
noncomputable def exE (e:Expr):Expr:=(exX e).1
noncomputable def exG (e:Expr):Comprehension:=(exX e).2.1.headD ⟨exNo,exNo,[],0⟩
noncomputable def exS (e:Expr):Scope:=(exX e).2.2.1
noncomputable def exL (e:Expr):List Expr:=(exX e).2.2.2.1
noncomputable def exK (e:Expr):Nat:=(exX e).2.2.2.2
theorem SE.a7 {pg:Program}{w:World}{K:Frag}{Φ:Fm}{d:Nat}{sc:Scope}{σ:List (Str×AV)}{H:List Cell}{v:AV}{x:Str}{pos:Pos}{g b:Str→Option Value}{u:Value}(T:TopOk K g b)(hn:zdw x)(k:sc.names.lookup x=some .globalImplicit)(e:g x=some u)(V:∀h ρ,VR h ρ v u):
  SE pg w K Φ d sc (.Name x pos) σ H v σ H:=.mk fun env O ρ s A ok X=>
 wpAny_mono ((SE.glob (Φ:=Φ) (d:=d) (σ:=σ) (H:=H) (pos:=pos) T hn k e).1 env O ρ s A ok X) (fun a s' ⟨ρ',m,X',q,o⟩=>by cases q;exact⟨ρ',m,X',V _ _,o⟩) fun _ _ z=>z
theorem small {n:Nat}(h:Nat.ble n 1000=true):n≤sizeLine:=by have:=Nat.le_of_ble_eq_true h;rw[sizeLine_eq];exact leK ‹_› rfl
variable {w:World}{Φ:Fm}{d:Nat}{H H':List Cell}{σ':List (Str×AV)}
theorem SCc.plain {K:Frag}{g cQ:Str→Option Value}{fd:FuncData}{body:List Stmt}{a:Addr}{f:AFlow}{ns:List Str}{xs:List AV}(T:TopOk K g cQ)(F:FnOk K a fd body)(hb:∀vs:List Value,vs.length=ns.length→bindArgs fd ⟨vs,[]⟩=pure (ns.zip vs))
  (hnd:ns.Nodup) (hl:∀x∈ns,fd.scope.names.lookup x=some .local∨fd.scope.names.lookup x=some .cell) (hx:xs.length=ns.length)
  (hB:∀L,SSs pW w K (Φ.deeper L) d fd.scope body (ns.zip xs) H f σ' H'):SCc pW w K Φ (d+1) (.ref a) xs H (zmt f) H':=
 SCc.gen (ds:= []) (dv:= []) T F (fun s vs _ h=>by rw[List.append_nil];exact BindsTo.of_eq (hb vs (h.trans hx))) (fun _ _=>.nil) hnd hl (by simpa using hx) (by rw[List.append_nil];exact hB)
noncomputable abbrev TW (w:World):=TopOk (KK w) (gW w.params) (bW w.params)
theorem zmh {i:Str}(T:TW w):SSs pW w (KK w) Φ d (zan (topS 21)) (zaf (topS 21)) [(q "path",.str i)] H (.ret (.str i)) [(q "path",.str i),(q "kind",.cst (.type "str"))] H:=
 SSs.cons (SS.assign (fun _ _ _=>rfl) (SE.call (SE.bltn T ⟨rfl,rfl⟩ rfl zow zoT) .type (SG.some (SL.cons (SE.name ⟨rfl,rfl⟩ rfl) SL.nil)) SC.bN) (SA.name (.inl rfl) (.there rfl .nil)))
  (SSs.stop (SS.ifT (ST.val (SE.call (SE.bltn T ⟨rfl,rfl⟩ rfl zgV zhw) .builtin (SG.some (SL.cons (SE.name ⟨rfl,rfl⟩ rfl) (SL.cons (SE.tuple (SL.cons (SE.bltn T ⟨rfl,rfl⟩ rfl zpd zpm) (SL.cons (SE.bltn T ⟨rfl,rfl⟩ rfl zez ze0) SL.nil)) (small rfl)) SL.nil))) SC.b8) STr.bool)
   (SSs.stop (SS.ret (SE.name ⟨rfl,rfl⟩ rfl)))))
theorem zct {i:Str}(T:TW w):SCc pW w (KK w) Φ (d+1) (.ref 248) [.str i] H (.str i) H:=
 SCc.plain (f:=.ret (.str i)) (ns:= [q "path"]) T zmT (len1 fun _=>rfl) (by exact List.nodup_cons.mpr ⟨List.not_mem_nil,List.nodup_nil⟩) (fun x hx=>by simp at hx;subst hx;exact .inl rfl) rfl fun L=>zmh T
theorem ST.eq {pg:Program}{K:Frag}{sc:Scope}{e:Expr}{σ:List (Str×AV)}{b b':Bool}(h:ST pg w K Φ d sc e σ H b σ' H')(q:b=b'):ST pg w K Φ d sc e σ H b' σ' H':=q▸h
theorem SE.eq {pg:Program}{K:Frag}{sc:Scope}{e:Expr}{σ:List (Str×AV)}{b b':AV}(h:SE pg w K Φ d sc e σ H b σ' H')(q:b=b'):SE pg w K Φ d sc e σ H b' σ' H':=q▸h
theorem SC.eq {pg:Program}{K:Frag}{f:Value}{xs:List AV}{b b':AV}(h:SC pg w K Φ d f xs H b H')(q:b=b'):SC pg w K Φ d f xs H b' H':=q▸h
theorem ze7 {i:Str}(h:i.length≤100000):i.length≤sizeLine:=by rw[sizeLine_eq];exact leK ‹_› rfl
theorem truthy_str {i:Str}(h:i.length≠0):((i.length:Int) !=0)=true:=by simp;assumption
theorem zhd {i:Str}(h:i.length=0):((i.length:Int) !=0)=false:=by simp[h]
theorem SC.splitS {pg:Program}{K:Frag}{i j:Str}(hj:(j.length==0)=false)(hi:i.length≤100000):SC pg w K Φ d (.builtin "str.split") [.str i,.str j] H (.lst (txts (Txt.split i j))) H:=
 SC.split hj (ze7 hi) (by
  have:=StrLaws.occ_length_le_len i j 0 i.length (i.length+1);unfold Builtin.Str.partsBetween;rw[List.length_map,List.length_zip,List.length_cons,List.length_map,sizeLine_eq]
  lia)
theorem zkE {i:Str}(T:TW w):SSs pW w (KK w) Φ d (zan (topS 25)) (zaf (topS 25)) [(q "path",.str i)] H (.ret (.str (q "/"))) [(q "path",.str i)] H:=
 SSs.stop (SS.ifF (ST.val (SE.call (SE.bltn T ⟨rfl,rfl⟩ rfl zbL zbQ) .builtin (SG.some (SL.cons (SE.name ⟨rfl,rfl⟩ rfl) (SL.cons (SE.bltn T ⟨rfl,rfl⟩ rfl zez ze0) SL.nil))) SC.aq) STr.bool) (SSs.stop (SS.ret SE.str)))
theorem zkq {i:Str}(T:TW w):SCc pW w (KK w) Φ (d+1) (.ref 262) [.str i] H (.str (q "/")) H:=
 SCc.plain (f:=.ret (.str (q "/"))) (ns:= [q "path"]) T zlJ (len1 fun _=>rfl) (by exact List.nodup_cons.mpr ⟨List.not_mem_nil,List.nodup_nil⟩) (fun x hx=>by simp at hx;subst hx;exact .inl rfl) rfl fun L=>zkE T
end Mine
end
section
namespace Mine
inductive Src (K:Frag)(H:List Cell):AV→List AV→(Nat→Cell)→Prop
 | list {x:AV} {xs:List AV} :LH H x xs→Src K H x xs fun p=>.iter x p
 | tup {xs:List AV} :Src K H (.tup xs) xs fun p=>.titer xs p
 | rng {n:Nat} :n≤1000→Src K H (.rng n) ((List.range n).map fun k:Nat=>.int k) fun p=>.riter n p
 | keys {g b:Str→Option Value} {i ep:Nat} {es:List (Str×AV)} :TopOk K g b→H[i]? =some (.dct es (some ep))→Src K H (.obj i) (es.map fun kv=>.str kv.1) fun p=>.kiter i es.length ep p
 | vals {i ep:Nat} {es:List (Str×AV)} :H[i]? =some (.dct es (some ep))→Src K H (.vals i) (es.map (·.2)) fun p=>.viter i es.length ep p
variable {pg:Program}{w:World}{K:Frag}{Φ:Fm}{d:Nat}{sc:Scope}{σ σ' σ1 cp σc:List (Str×AV)}{H H' cn cq cy tl:List Cell}{v v1 v2 x y:AV}{A:Around}{s s':Shared}
 {env:Env} {O ρ ρ' l:List Addr} {e elt target iter:Expr} {xs ys:List AV} {c:Nat→Cell} {i j p dep:Nat} {pos:Pos}
theorem LH.more (L:LH H x xs)(l:List Cell):LH (H++l) x xs:=by
 cases L with
 | lst=>exact .lst
 | obj e=>exact .obj (by rw[List.getElem?_append_left (List.getElem?_eq_some_iff.mp e).1];exact e)
theorem Src.more (S:Src K H x xs c)(l:List Cell):Src K (H++l) x xs c:=by
 cases S with
 | list L=>exact .list (L.more l)
 | tup=>exact .tup
 | rng h=>exact .rng h
 | keys T e=>exact .keys T (by rw[List.getElem?_append_left (List.getElem?_eq_some_iff.mp e).1];exact e)
 | vals e=>exact .vals (by rw[List.getElem?_append_left (List.getElem?_eq_some_iff.mp e).1];exact e)
theorem Src.it (S:Src K H x xs c):SIt pg w K Φ d x H H.length (H++ [c 0]):=by
 cases S with
 | list L=>exact SIt.list L
 | tup=>exact SIt.tuple
 | rng h=>exact SIt.range h
 | keys T e=>exact SIt.dict T e
 | vals e=>exact SIt.values e
theorem Src.calm (S:Src K H x xs c)(p:Nat):CalmIt (c p):=by
 cases S with
 | list L=>exact .iter
 | tup=>exact .titer
 | rng h=>exact .riter
 | keys T e=>exact .kiter
 | vals e=>exact .viter
theorem Src.bd {n:Nat}(S:Src K H x xs c)(b:Bd n x)(p:Nat):BdC n (c p):=by
 cases S with
 | list L=>exact .iter b
 | tup=>cases b with | tup b=>exact .titer b
 | rng h=>exact .riter
 | keys T e=>cases b with | obj b=>exact .kiter b
 | vals e=>cases b with | vals b=>exact .viter b
theorem Src.self (S:Src K H' x xs c)(e:H[i]? =some (c p)):SIt pg w K Φ d (.obj i) H i H:=by
 cases S with
 | list L=>exact SIt.bt e
 | tup=>exact SIt.be e
 | rng h=>exact SIt.bf e
 | keys T e'=>exact SIt.bg e
 | vals e'=>exact SIt.bc e
theorem Src.item (S:Src K H x xs c)(e:H[i]? =some (c p))(hv:xs[p]? =some v):SN pg w K Φ d i H (some v) (H.set i (c (p+1))):=by
 cases S with
 | list L=>exact SN.aP e L hv
 | tup=>exact SN.ao e hv
 | @rng n h=>
  rw[List.getElem?_map] at hv
  cases z:(List.range n)[p]? with
  | none=>rw[z] at hv;exact nsE hv
  | some k=>
   rw[z] at hv;obtain rfl:=Option.some.inj hv
   obtain⟨h1,h2⟩:=List.getElem?_eq_some_iff.mp z
   rw[List.getElem_range] at h2;subst h2
   rw[List.length_range] at h1;exact SN.a0 e h1
 | @keys g b i' ep es T e'=>
  rw[List.getElem?_map] at hv
  cases z:es[p]? with
  | none=>rw[z] at hv;exact nsE hv
  | some kv=>rw[z] at hv;obtain rfl:=Option.some.inj hv;exact SN.a6 e e' z
 | @vals i' ep es e'=>
  rw[List.getElem?_map] at hv
  cases z:es[p]? with
  | none=>rw[z] at hv;exact nsE hv
  | some kv=>rw[z] at hv;obtain rfl:=Option.some.inj hv;exact SN.bJ e e' z
theorem Src.stop (hc:Φ.calm=Bool.true)(S:Src K H x xs c)(e:H[i]? =some (c xs.length)):SN pg w K Φ d i H none (H.set i .junk):=by
 cases S with
 | list L=>exact SN.a5 hc e L (List.getElem?_eq_none (Nat.le_refl _))
 | tup=>exact SN.aI hc e (List.getElem?_eq_none (Nat.le_refl _))
 | @rng n h=>
  rw[List.length_map,List.length_range] at e;exact SN.bq hc e
 | keys T e'=>rw[List.length_map] at e;exact SN.br hc e e' (List.getElem?_eq_none (Nat.le_refl _))
 | vals e'=>rw[List.length_map] at e;exact SN.bY hc e e' (List.getElem?_eq_none (Nat.le_refl _))
theorem SEm.drop {emit:Value→Env→Sem Unit}(a:SEm pg w K Φ d sc emit j σ H σ' (cn++tl))(hl:cn.length=H.length)(q:BdH H.length cn)(b:Bde H.length σ'):SEm pg w K Φ d sc emit j σ H σ' cn:=.mk fun env O ρ s A u ok X f=>
 wpAny_mono (a.1 env O ρ s A u ok X f) (fun _ s' ⟨ρ',m,X',o⟩=>by
  obtain⟨l,rfl,_⟩:=id m.ext;have e:=X.rel.len
  exact⟨ρ,m.cut,X'.cut (hl.trans e.symm) (by rw[e];exact q) (by rw[e];exact b),o⟩) fun _ _ z=>z
structure Shp {α:Type}(K:Frag)(Hf:Cell→α→List Cell)(i:Nat)(x:AV)(xs:List AV)(c:Nat→Cell):Prop where
 at_:∀k a,(Hf k a)[i]? =some k
 set:∀k k' a,(Hf k a).set i k'=Hf k' a
 src:∀k a,Src K (Hf k a) x xs c
theorem zhX {α:Type}{Hf:Cell→α→List Cell}{emit:Value→Env→Sem Unit}{ifs:List Expr}{ps:Pos}(hc:Φ.calm=Bool.true)(ic:IsComp e)(hT:zbH e dep ps target ifs emit)(S:Shp K Hf i x xs c)
  (g:AV→α→α) (I:Nat→α→Prop)
  (step:∀p v a,xs[p]? =some v→I p a→I (p+1) (g v a)∧∃σ1 cp,SA pg w K Φ d sc target v σc (Hf (c (p+1)) a) σ1 (Hf (c (p+1)) a) ∧
   ((STs pg w K Φ d sc ifs σ1 (Hf (c (p+1)) a) Bool.true σ1 (Hf (c (p+1)) a)∧SEm pg w K Φ d sc emit j σ1 (Hf (c (p+1)) a) cp (Hf (c (p+1)) (g v a))) ∨
    (STs pg w K Φ d sc ifs σ1 (Hf (c (p+1)) a) Bool.false cp (Hf (c (p+1)) a)∧g v a=a))∧∀y u,σc.lookup y=some u→cp.lookup y=some u):
  ∀(n p:Nat) (a:α),p+n=xs.length→I p a→SCL pg w K Φ d sc e dep i j σc (Hf (c p) a) (Hf .junk ((xs.drop p).foldl (fun a v=>g v a) a)):=by
 intro n
 induction n with
 | zero=>
  rintro p a h hI
  have hp:p=xs.length:=h;subst hp;rw[List.drop_length];have:=Src.stop (pg:=pg) (w:=w) (K:=K) (d:=d) hc (S.src (c xs.length) a) (S.at_ _ _);rw[S.set] at this;exact SCL.out ic hT this
 | succ n ih=>
  rintro p a h hI
  have hv:xs[p]? =some xs[p]:=List.getElem?_eq_getElem (by lia);have hit:=Src.item (pg:=pg) (w:=w) (K:=K) (Φ:=Φ) (d:=d) (S.src (c p) a) (S.at_ _ _) hv;rw[S.set] at hit;obtain⟨hI',σ1,cp,sa,hem,hσ⟩:=step p xs[p] a hv hI
  have hd:xs.drop p=xs[p]::xs.drop (p+1):=by rw[List.drop_eq_getElem_cons (by lia)]
  rw[hd,List.foldl_cons];have z:=ih (p+1) (g xs[p] a) (by exact rot4 ‹_›) hI'
  rcases hem with ⟨ts,em⟩ | ⟨ts,hg⟩
  ·exact SCL.emit ic hT hit (S.at_ _ _) ((S.src (c p) a).calm _) sa ts em hσ z
  ·rw[hg] at z ⊢
   exact SCL.skip ic hT hit (S.at_ _ _) ((S.src (c p) a).calm _) sa ts hσ z
structure CompOk (sc scope:Scope)(σ σc:List (Str×AV)):Prop where
 cs:CompSc sc scope
 fr:∀x v,σc.lookup x=some v→scope.names.lookup x=some .free∧σ.lookup x=some v
theorem Bde.mono {n m:Nat}(hm:n≤m){es:List (Str×AV)}(z:Bde n es):Bde m es:=by
 induction z with
 | nil=>exact .nil
 | cons a _ ih=>exact .cons (a.mono hm) ih
theorem BdC.mono {n m:Nat}(hm:n≤m){k:Cell}(q:BdC n k):BdC m k:=by
 have eo:∀{x:Option AV},Bdo n x→Bdo m x:=fun z=>by cases z with | none=>exact .none | some b=>exact .some (b.mono hm)
 have ee:∀{es:List (Str×AV)},Bde n es→Bde m es:=fun z=>by induction z with | nil=>exact .nil | cons a _ ih=>exact .cons (a.mono hm) ih
 cases q with
 | lst q=>exact .lst (q.mono hm)
 | dct q=>exact .dct (ee q)
 | set=>exact .set
 | uset=>exact .uset
 | ns q=>exact .ns fun k=>eo (q k)
 | inst q=>exact .inst (Nat.lt_of_lt_of_le q hm)
 | info q a b z=>exact .info (Nat.lt_of_lt_of_le q hm) (eo a) (eo b) (eo z)
 | iter q=>exact .iter (q.mono hm)
 | titer q=>exact .titer (q.mono hm)
 | riter=>exact .riter
 | kiter q=>exact .kiter (Nat.lt_of_lt_of_le q hm)
 | viter q=>exact .viter (Nat.lt_of_lt_of_le q hm)
 | enum q=>exact .enum (Nat.lt_of_lt_of_le q hm)
 | junk=>exact .junk
theorem BdH.mono {n m:Nat}(hm:n≤m){H:List Cell}(q:BdH n H):BdH m H:=by
 induction q with
 | nil=>exact .nil
 | cons a _ ih=>exact .cons (a.mono hm) ih
theorem zeO {g:AV→Option AV} :∀(xs ys:List AV),xs.foldl (fun a v=>match g v with | some y=>a++ [y] | none=>a) ys=ys++xs.filterMap g:=by
 intro xs
 induction xs with
 | nil=>
  rintro ys
  exact(List.append_nil _).symm
 | cons v r ih=>
  rintro ys
  rw[List.foldl_cons,ih,List.filterMap_cons]
  cases g v<;>simp
noncomputable def putG (g:AV→Option AV)(v:AV)(a:List AV):List AV:=match g v with | some y=>a++ [y] | none=>a
theorem zmn (S:Src K H x xs c):Shp K (fun k ys=>H++ [k,Cell.lst ys]) H.length x xs c:=⟨fun k a=>by exact zeN,fun k k' a=>by exact zgF,fun k a=>S.more _⟩
noncomputable abbrev zh7 (elt:Expr):Value→Env→Sem Unit:=fun acc env=>do let _←call (.builtin "list.append") [acc,←eval elt env]
theorem zdy {elt target iter:Expr}{ifs:List Expr}{scope:Scope}{pos:Pos} :zbH (.ListComp elt [⟨target,iter,ifs,0⟩] scope pos) 0 iter.pos target ifs (zh7 elt):=fun _ _ _=>rfl
noncomputable def zlc (e:Expr)(dep:Nat)(it2:Expr)(it acc:Value)(env:Env):Sem Fin:=do
 let x←eval it2 env
 standAt it2.pos
 let x←foldedSetIterable it2 env x
 let _←runOwn (.compStart e (dep+1) (←holding [x] (pyIter x)) acc env) env
 again (.compLoop e dep it acc env)
theorem zgw {it2:Expr}{ps:Pos}(h:∀it acc env,compTurn e dep it acc env=(do
   standAt ps
   match←pyNext it with
   | none=>pure (.done .next)
   | some v=>
    letOwnedTupleGo target it v
    assign target env v
    zlc e dep it2 it acc env)):zbH e dep ps target [] (zaO e dep it2):=fun it acc env=>by
 have q:zlc e dep it2=fun it acc env=>(zaO e dep it2 acc env >>= fun _=>again (.compLoop e dep it acc env)):=by
  funext it acc env
  unfold zlc zaO;rw[bind_assoc];refine congrArg _ (funext fun x=> ?_);rw[bind_assoc];refine congrArg _ (funext fun _=> ?_);rw[bind_assoc];refine congrArg _ (funext fun x=> ?_);rw[bind_assoc];refine congrArg _ (funext fun x=> ?_);rw[bind_assoc];rfl
 rw[h,q];rfl
theorem zhJ {elt target iter target2 it2:Expr}{scope:Scope}{pos:Pos} :zbH (.ListComp elt [⟨target,iter,[],0⟩,⟨target2,it2,[],0⟩] scope pos) 0 iter.pos target [] (zaO (.ListComp elt [⟨target,iter,[],0⟩,⟨target2,it2,[],0⟩] scope pos) 0 it2):=zgw fun it acc env=>rfl
theorem zhI {elt target iter target2 it2:Expr}{scope:Scope}{pos:Pos} :zbH (.ListComp elt [⟨target,iter,[],0⟩,⟨target2,it2,[],0⟩] scope pos) 1 it2.pos target2 [] (zh7 elt):=fun _ _ _=>rfl
theorem zhL {k v target iter target2 it2:Expr}{scope:Scope}{pos:Pos} :zbH (.DictComp k v [⟨target,iter,[],0⟩,⟨target2,it2,[],0⟩] scope pos) 0 iter.pos target [] (zaO (.DictComp k v [⟨target,iter,[],0⟩,⟨target2,it2,[],0⟩] scope pos) 0 it2):=zgw fun it acc env=>rfl
theorem zhK {k v target iter target2 it2:Expr}{scope:Scope}{pos:Pos} :zbH (.DictComp k v [⟨target,iter,[],0⟩,⟨target2,it2,[],0⟩] scope pos) 1 it2.pos target2 [] (zej k v):=fun _ _ _=>rfl
theorem zaW (hc:Φ.calm=Bool.true){ifs:List Expr}{scope:Scope}(S:Src K H x xs c)(bx:Bd H.length x)(hH:BdH H.length H)(hσ:Bde H.length σ)(ok:CompOk sc scope σ σc)(hlen:xs.length≤1000)
  (g:AV→Option AV)
  (step:∀v∈xs,∀H',BdH H'.length H'→(∀(i:Nat) (k:Cell),H[i]? =some k→H'[i]? =some k)→∃σ1,SA pg w K Φ d scope target v σc H' σ1 H'∧(∀y u,σc.lookup y=some u→σ1.lookup y=some u) ∧
   ((∃y,g v=some y∧STs pg w K Φ d scope ifs σ1 H' Bool.true σ1 H'∧SE pg w K Φ d scope elt σ1 H' y σ1 H'∧Bd H.length y) ∨
    (g v=Option.none∧STs pg w K Φ d scope ifs σ1 H' Bool.false σ1 H'))):
  CompRun pg w K Φ d sc (.ListComp elt [⟨target,iter,ifs,0⟩] scope pos) scope σ (H++ [c 0]++ [.lst []]) H.length (H++ [c 0]).length (H++ [.junk,.lst (xs.filterMap g)])∧Bds H.length (xs.filterMap g):=by
 have bdg:∀v∈xs,∀y,g v=some y→Bd H.length y:=fun v hv y e=>by
  obtain⟨_,_,_,r⟩:=step v hv H hH fun _ _ z=>z
  rcases r with ⟨y',e',_,_,b⟩ | ⟨e',_⟩
  ·rw[e] at e';obtain rfl:=Option.some.inj e';exact b
  ·rw[e] at e';exact snE e'
 have lenH:∀k ys,(H++ [k,Cell.lst ys]).length=H.length+2:=fun k ys=>by exact zlm
 have loop:=zhX (pg:=pg) (w:=w) (K:=K) (Φ:=Φ) (d:=d) (sc:=scope) (σc:=σc) (j:=H.length+1) (dep:=0) hc .lst (zdy (iter:=iter) (scope:=scope) (pos:=pos)) (zmn S) (putG g) (fun p ys=>Bds H.length ys∧ys.length≤p) (fun p v ys hv hI=>by
  have hm:=List.mem_of_getElem? hv;have hp:p < xs.length:=(List.getElem?_eq_some_iff.mp hv).1
  have bd':BdH (H++ [c (p+1),Cell.lst ys]).length (H++ [c (p+1),Cell.lst ys]):=by
   rw[lenH];refine BdH.append (hH.mono (by exact Nat.le_add_right _ _)) (.cons ((S.bd (bx.mono (by exact Nat.le_add_right _ _)) _)) (.cons (.lst (hI.1.mono (by exact Nat.le_add_right _ _))) .nil))
  obtain⟨σ1,sa,hk,r⟩:=step v hm _ bd' fun i k e=>by rw[List.getElem?_append_left (List.getElem?_eq_some_iff.mp e).1];exact e
  rcases r with ⟨y,e,ts,se,b⟩ | ⟨e,ts⟩
  ·have hg:putG g v ys=ys++ [y]:=by unfold putG;rw[e]
   rw[hg];refine⟨⟨hI.1.append (.cons b .nil),by simp;lia⟩,σ1,σ1,sa,.inl ⟨ts,?_⟩,hk⟩;have:=SEm.list (j:=H.length+1) (ys:=ys) se (by exact zeM) (by rw[sizeLine_eq];lia)
   have hs':(H++ [c (p+1),Cell.lst ys]).set (H.length+1) (.lst (ys++ [y]))=H++ [c (p+1),Cell.lst (ys++ [y])]:=by exact zkQ
   rw[hs'] at this;exact this
  ·have hg:putG g v ys=ys:=by unfold putG;rw[e]
   rw[hg]
   exact⟨⟨hI.1,by lia⟩,σ1,σ1,sa,.inr ⟨ts,rfl⟩,hk⟩) xs.length 0 [] (by simp) ⟨.nil,by exact Nat.le_refl _⟩
 rw[List.drop_zero] at loop
 have hf:xs.foldl (fun a v=>putG g v a) []=xs.filterMap g:=by
  have:=zeO (g:=g) xs [];rw[List.nil_append] at this;exact this
 rw[hf] at loop
 have e2:H++ [c 0]++ [Cell.lst []]=H++ [c 0,Cell.lst []]:=by exact app2
 have e3:(H++ [c 0]).length=H.length+1:=by exact zcA
 refine⟨⟨ok.cs,.lst,rfl,σc,ok.fr,?_,?_⟩,?_⟩
 ·exact Src.self (p:=0) S (by rw[e2];simp)
 ·rw[e2,e3];exact loop
 ·refine Bds.of fun y hy=> ?_
  obtain⟨v,hv,e⟩:=List.mem_filterMap.mp hy;exact bdg v hv y e
inductive FrzE (n:Nat)(H:List Cell):List (Str×AV)→List (Str×AV)→Prop
 | nil:FrzE n H [] []
 | cons {k x y es fs} :Frz n H x y→FrzE n H es fs→FrzE n H ((k,x)::es) ((k,y)::fs)
theorem FrzE.get {n:Nat}{es fs:List (Str×AV)}(q:FrzE n H es fs){k:Str}{y:AV}(e:fs.lookup k=some y):∃x,es.lookup k=some x∧Frz n H x y:=by
 induction q with
 | nil=>exact nsE e
 | @cons k' _ _ _ _ f _ ih=>
  rw[List.lookup_cons] at e ⊢
  cases z:k==k' with
  | true=>rw[z] at e;obtain rfl:=Option.some.inj e;exact⟨_,rfl,f⟩
  | false=>rw[z] at e;exact ih e
theorem FrzE.same {n:Nat}{es:List (Str×AV)}(q:Bde n es):FrzE n H es es:=by
 induction q with
 | nil=>exact .nil
 | cons a _ ih=>exact .cons (.same a) ih
theorem Upd.atI {k a:Str}{v u:AV}{r σ':List (Str×AV)}(q:Upd ((a,u)::r) k v σ'):(a=k∧σ'=(a,v)::r)∨((k==a)=Bool.false∧∃r',σ'=(a,u)::r'∧Upd r k v r'):=by
 cases q with
 | here=>exact .inl ⟨rfl,rfl⟩
 | there h q=>exact .inr ⟨h,_,rfl,q⟩
theorem FrzE.upd {n:Nat}{k:Str}{x y:AV}{es es' fs:List (Str×AV)}(q:Bde n es)(f:Frz n H x y)(u:Upd es k x es')(u':Upd es k y fs):FrzE n H es' fs:=by
 induction q generalizing es' fs with
 | nil=>cases u;cases u';exact .cons f .nil
 | cons a b ih=>
  rcases u.atI with ⟨rfl,rfl⟩ | ⟨h,r,rfl,z⟩
  ·rcases u'.atI with ⟨_,rfl⟩ | ⟨h',_,rfl,_⟩
   ·exact .cons f (FrzE.same b)
   ·rw[beq_self_eq_true] at h';exact tfE h'
  ·rcases u'.atI with ⟨rfl,_⟩ | ⟨_,r',rfl,z'⟩
   ·rw[beq_self_eq_true] at h;exact tfE h
   ·exact .cons (.same a) (ih z z')
theorem EnvR.frz {h:Heap}(R:Rel pg w K Φ (ρ++l) H h)(X:EnvR K Φ env sc O σ (ρ++l) h)(q:FrzE ρ.length H σ σ'):EnvR K Φ env sc O σ' ρ h:=
 ⟨X.fn,X.gl,X.bl,X.glob,X.loc,X.cel,X.fre,let⟨m,hm,z⟩:=X.ns;⟨m,hm,fun x v e k=>let⟨u,eu,f⟩:=q.get e;let⟨v',a,b⟩:=z x u eu k;⟨v',a,f.at R b⟩⟩,
  fun x v e k=>let⟨u,eu,f⟩:=q.get e;let⟨a,c,v',b,g,z⟩:=X.cells x u eu k;⟨a,c,v',b,g,f.at R z⟩,X.apart,X.locO,fun a ha=>⟨fun z=>(X.off a ha).1 (List.mem_append_left _ z),(X.off a ha).2⟩,X.soft,
  fun x c e=>let⟨a,b,z⟩:=X.cellOff x c e;⟨fun z'=>a (List.mem_append_left _ z'),b,z⟩,X.cellLive,X.frame⟩
theorem SS.ce {st:Stmt}{f f':AFlow}(a:SS pg w K Φ d sc st σ H f σ' (cn++tl))(hl:cn.length=H.length)(q:BdH H.length cn)(b:FrzE H.length (cn++tl) σ' σ1)(F:FrzF H.length (cn++tl) f f'):SS pg w K Φ d sc st σ H f' σ1 cn:=.mk fun env O ρ s A ok X=>
 wpAny_mono (a.1 env O ρ s A ok X) (fun u s' ⟨ρ',m,X',z,o⟩=>by
  obtain⟨l,rfl,_⟩:=id m.ext;have e:=X.rel.len
  exact⟨ρ,m.cut,⟨X'.rel.cut (hl.trans e.symm) (by rw[e];exact q),EnvR.frz X'.rel X'.env (by rw[e];exact b),X'.gens⟩,FrzF.at (by rw[e];exact F) X'.rel z,o⟩) fun _ _ z=>z
theorem SE.ofRun {ifs:List Expr}{rest:List Comprehension}{scope:Scope}(a:SE pg w K Φ d sc iter σ H x σ H)(S:Src K H x xs c)(hH:BdH H.length H)(hσ:Bde H.length σ)
  (cr:CompRun pg w K Φ d sc (.ListComp elt (⟨target,iter,ifs,0⟩::rest) scope pos) scope σ (H++ [c 0]++ [.lst []]) H.length (H++ [c 0]).length (H++ [.junk,.lst ys])∧Bds H.length ys)
  (hs:∀env x,foldedSetIterable iter env x=pure x:=by intro _ _;rfl):SE pg w K Φ d sc (.ListComp elt (⟨target,iter,ifs,0⟩::rest) scope pos) σ H (.lst ys) σ H:=by
 have e3:(H++ [c 0]).length=H.length+1:=by exact zcA
 exact SE.drop (tl:= [.junk,.lst ys]) (SE.aw (cq:=H++ [c 0]) (i:=H.length) a S.it cr.1 hs) rfl hH hσ (.list (by rw[e3];exact Nat.le_add_right _ _) (by rw[e3];simp) cr.2)
theorem Upd.other {n:Str}{x y:AV}{σ σ':List (Str×AV)}(q:Upd σ n x σ'):∃cp,Upd σ n y cp:=by
 induction q with
 | nil=>exact⟨_,.nil⟩
 | here=>exact⟨_,.here⟩
 | there h _ ih=>exact ih.elim fun _ z=>⟨_,.there h z⟩
theorem SS.ofRun {ifs:List Expr}{rest:List Comprehension}{scope:Scope}{n:Str}{np':Pos}{pos':Pos}(a:SE pg w K Φ d sc iter σ H x σ H)(S:Src K H x xs c)(hH:BdH H.length H)(hσ:Bde H.length σ)
  (cr:CompRun pg w K Φ d sc (.ListComp elt (⟨target,iter,ifs,0⟩::rest) scope pos) scope σ (H++ [c 0]++ [.lst []]) H.length (H++ [c 0]).length (H++ [.junk,.lst ys])∧Bds H.length ys)
  (hx:sc.names.lookup n=some .local) (U:Upd σ n (.lst ys) σ') (hno:(scope.names.any fun(m,k)=>m==n&&(k== .local|| k== .cell))=Bool.false)
  (hs:∀env x,foldedSetIterable iter env x=pure x:=by intro _ _;rfl) (hl:(np'.line==pos'.line)=Bool.true:=by rfl) (hline:(np'.line==(Expr.ListComp elt (⟨target,iter,ifs,0⟩::rest) scope pos).pos.line)=Bool.true:=by rfl):
  SS pg w K Φ d sc (.Assign [.Name n np'] (.ListComp elt (⟨target,iter,ifs,0⟩::rest) scope pos) pos') σ H .next σ' H:=by
 have e3:(H++ [c 0]).length=H.length+1:=by exact zcA
 obtain⟨cp,U2⟩:∃cp,Upd σ n (.obj (H++ [c 0]).length) cp:=by
  exact U.other
 exact SS.ce (tl:= [.junk,.lst ys]) (SS.aW (cq:=H++ [c 0]) (i:=H.length) hx hl hno hline a S.it cr.1 U2 hs) rfl hH (FrzE.upd hσ (.list (by rw[e3];exact Nat.le_add_right _ _) (by rw[e3];simp) cr.2) U2 U) .next
theorem SS.ae {n:Str}{np':Pos}(hx:sc.names.lookup n=some .cell)(a:SE pg w K Φ d sc e σ H v σ1 cn)(U:Upd σ1 n v σ')
  (hw:∀env,swappedStores [.Name n np'] e env=pure .none:=by intro _;rfl):SS pg w K Φ d sc (.Assign [.Name n np'] e pos) σ H .next σ' cn:=.mk fun env O ρ s A ok X=>by
 have hk:=(X.env.cel n hx).1
 have hn:swapsWith e (some (.Name n np')) pos.line env=pure Bool.false:=by
  have:(env.kindOf n==some NameKind.local)=Bool.false:=by rw[hk];rfl
  cases e<;>first | rfl | (show pure (_&&(env.kindOf n==some NameKind.local)&&_&&_)=_;rw[this,Bool.and_false];rfl)
 refine wpAny_Assign_stores (a.into ok X fun a' cm ρ1 m X1 q o=> ?_) hn (hw env)
 exact zac ((SA.name (pos:=np') (.inr hx) U).1 env O ρ1 cm A a' ok X1 q) fun _ ct ⟨ρ2,cu,X2,cw⟩=>⟨ρ2,m.trans cu,X2,trivial,cw.trans o⟩
theorem znG {α:Type}{accC:α→Cell}(S:Src K H x xs c):Shp K (fun k a=>H++ [k,accC a]) H.length x xs c:=⟨fun k a=>by exact zeN,fun k k' a=>by exact zgF,fun k a=>S.more _⟩
theorem zkU {α:Type}{accC:α→Cell}{it2 target2:Expr}{emit:Value→Env→Sem Unit}{ps ps2:Pos}(hc:Φ.calm=Bool.true)(ic:IsComp e)(hT:zbH e 0 ps target [] (zaO e 0 it2))(hT2:zbH e 1 ps2 target2 [] emit)
  (hcl:((clausesOf e)[0+1]?).elim false (·.is_async !=0)=false) (S:Src K H x xs c) (bx:Bd H.length x) (hH:BdH H.length H) (dR:Bde H.length σc) (I:Nat→α→Prop) (hI:∀n a,I n a→BdC H.length (accC a)) (f:AV→List AV) (g:AV→AV→α→α) (hf:∀v∈xs,(f v).length=2)
  (step:∀p v a,xs[p]? =some v→I (2 * p) a→BdH (H.length+2) (H++ [c (p+1),accC a])→∃σ1 x' c',SA pg w K Φ d sc target v σc (H++ [c (p+1),accC a]) σ1 (H++ [c (p+1),accC a])∧Bde H.length σ1∧(∀y u,σc.lookup y=some u→σ1.lookup y=some u) ∧
   SE pg w K Φ d sc it2 σ1 (H++ [c (p+1),accC a]) x' σ1 (H++ [c (p+1),accC a])∧Bd H.length x'∧(∀a,Src K (H++ [c (p+1),accC a]) x' (f v) c') ∧
   (∀q u a,(f v)[q]? =some u→I (2 * p+q) a→BdH (H.length+3) (H++ [c (p+1),accC a,c' (q+1)])→I (2 * p+q+1) (g v u a)∧∃cp,SA pg w K Φ d sc target2 u σ1 (H++ [c (p+1),accC a,c' (q+1)]) cp (H++ [c (p+1),accC a,c' (q+1)])∧(∀y u,σ1.lookup y=some u→cp.lookup y=some u) ∧
    SEm pg w K Φ d sc emit (H.length+1) cp (H++ [c (p+1),accC a,c' (q+1)]) cp (H++ [c (p+1),accC (g v u a),c' (q+1)])))
  (hs:∀env x,foldedSetIterable it2 env x=pure x:=by intro _ _;rfl) {dF:α} (h0:I 0 dF):
  SCL pg w K Φ d sc e 0 H.length (H.length+1) σc (H++ [c 0,accC dF]) (H++ [.junk,accC (xs.foldl (fun a v=>(f v).foldl (fun a u=>g v u a) a) dF)]):=by
 have bdA:∀n p a,I n a→BdH (H.length+2) (H++ [c p,accC a]):=fun n p a h=>BdH.append (hH.mono (by exact Nat.le_add_right _ _)) (.cons ((S.bd bx p).mono (by exact Nat.le_add_right _ _)) (.cons ((hI n a h).mono (by exact Nat.le_add_right _ _)) .nil))
 have inner:∀p v a,xs[p]? =some v→I (2 * p) a→I (2 * (p+1)) ((f v).foldl (fun a u=>g v u a) a)∧∃σ1,SA pg w K Φ d sc target v σc (H++ [c (p+1),accC a]) σ1 (H++ [c (p+1),accC a])∧(∀y u,σc.lookup y=some u→σ1.lookup y=some u) ∧
   SEm pg w K Φ d sc (zaO e 0 it2) (H.length+1) σ1 (H++ [c (p+1),accC a]) σ1 (H++ [c (p+1),accC ((f v).foldl (fun a u=>g v u a) a)]):=by
  intro p v a hv ha;obtain⟨σ1,x',c',sa,cI,dl,se,bx',S',st⟩:=step p v a hv ha (bdA _ _ _ ha);have two:=hf v (List.mem_of_getElem? hv)
  have sh:Shp K (fun k a=>H++ [c (p+1),accC a,k]) (H.length+2) x' (f v) c':=⟨fun k a=>by simp,fun k k' a=>by simp,fun k a=>by
   have:=(S' a).more [k]
   simpa using this⟩
  have lenA:(H++ [c (p+1),accC a]).length=H.length+2:=by exact zlm
  have loop:=zhX (pg:=pg) (w:=w) (K:=K) (Φ:=Φ) (d:=d) (sc:=sc) (σc:=σ1) (j:=H.length+1) (dep:=1) hc ic hT2 sh (g v) (fun q a=>I (2 * p+q) a) (fun q u a hu ha'=>by
   obtain⟨hI',cp,sa2,dI,em⟩:=st q u a hu ha' (BdH.append (hH.mono (by exact Nat.le_add_right _ _)) (.cons ((S.bd bx _).mono (by exact Nat.le_add_right _ _)) (.cons ((hI _ _ ha').mono (by exact Nat.le_add_right _ _)) (.cons (((S' a).bd bx' _).mono (by exact Nat.le_add_right _ _)) .nil))))
   exact⟨hI',cp,cp,sa2,.inl ⟨STs.nil,em⟩,dI⟩) (f v).length 0 a (by simp) ha
  rw[List.drop_zero] at loop
  have fin:∀(l:List AV) (q:Nat) (a:α),(∀k u,l[k]? =some u→(f v)[q+k]? =some u)→I (2 * p+q) a→I (2 * p+q+l.length) (l.foldl (fun a u=>g v u a) a):=by
   intro l
   induction l with
   | nil=>intro q a _ h;exact h
   | cons u l ih=>
    intro q a hl h;have:=(st q u a (hl 0 u rfl) h (BdH.append (hH.mono (by exact Nat.le_add_right _ _)) (.cons ((S.bd bx _).mono (by exact Nat.le_add_right _ _)) (.cons ((hI _ _ h).mono (by exact Nat.le_add_right _ _)) (.cons (((S' a).bd bx' _).mono (by exact Nat.le_add_right _ _)) .nil))))).1;have z:=ih (q+1) (g v u a) (fun k u' e=>by rw[show q+1+k=q+(k+1) by exact Nat.add_right_comm _ _ _];exact hl (k+1) u' e) (by rw[←Nat.add_assoc];exact this);rw[List.foldl_cons,List.length_cons,show 2 * p+q+(l.length+1)=2 * p+(q+1)+l.length by lia];exact z
  have hfin:=fin (f v) 0 a (fun k u e=>by simpa using e) ha;rw[two,Nat.add_zero] at hfin;refine⟨by rw[show 2 * (p+1)=2 * p+2 by exact Nat.add_succ _ _];exact hfin,σ1,sa,dl,?_⟩
  have nx:=SEm.next (j:=H.length+1) (i':=H.length+2) (cq:=H++ [c (p+1),accC a,c' 0]) ic hcl se (by
   have:=(S' a).it (pg:=pg) (w:=w) (K:=K) (Φ:=Φ) (d:=d);simp only[List.append_assoc,List.cons_append,List.nil_append,List.length_append,List.length_cons,List.length_nil] at this
   exact this) (Src.self (p:=0) (S' a) (by simp)) loop hs
  refine SEm.drop (tl:= [.junk]) (cn:=H++ [c (p+1),accC ((f v).foldl (fun a u=>g v u a) a)]) (by simpa using nx) (by simp) ?_ (by simp only[List.length_append,List.length_cons,List.length_nil];exact cI.mono (by exact Nat.le_add_right _ _));rw[lenA];exact bdA _ _ _ hfin
 have loop:=zhX (pg:=pg) (w:=w) (K:=K) (Φ:=Φ) (d:=d) (sc:=sc) (σc:=σc) (j:=H.length+1) (dep:=0) hc ic hT (znG (accC:=accC) S) (fun v a=>(f v).foldl (fun a u=>g v u a) a) (fun p a=>I (2 * p) a) (fun p v a hv ha=>by
  obtain⟨h1,σ1,sa,dl,em⟩:=inner p v a hv ha
  exact⟨h1,σ1,σ1,sa,.inl ⟨STs.nil,em⟩,dl⟩) xs.length 0 dF (by simp) h0
 rw[List.drop_zero] at loop;exact loop
end Mine
end
namespace Mine
section
variable {pg:Program}{w:World}{K:Frag}{Φ:Fm}{d:Nat}{sc:Scope}{σ σ' σ1 cp σc:List (Str×AV)}{H H' cn cq cy tl:List Cell}{v v1 v2 x y:AV}{A:Around}{s s':Shared}
 {env:Env} {O ρ ρ' l:List Addr} {e elt target iter:Expr} {xs ys:List AV} {c:Nat→Cell} {i j p dep:Nat} {pos:Pos}
theorem zf4 {i:Nat}{k:Cell}(e:H[i]? =some k):H.set i k=H:=by
 obtain⟨h1,h2⟩:=List.getElem?_eq_some_iff.mp e
 rw[←h2];exact List.set_getElem_self h1
theorem zj1 {f:AV→List AV}{G:AV→AV→AV} :∀(xs a:List AV),xs.foldl (fun a v=>(f v).foldl (fun a u=>a++ [G v u]) a) a=a++xs.flatMap fun v=>(f v).map (G v):=by
 intro xs
 induction xs with
 | nil=>
  rintro a
  exact(List.append_nil _).symm
 | cons v r ih9=>
  rintro a
  have h:∀(l a:List AV),l.foldl (fun a u=>a++ [G v u]) a=a++l.map (G v):=fun l=>by
   induction l with
   | nil=>intro a;simp
   | cons u l ih=>intro a;rw[List.foldl_cons,ih];simp
  rw[List.foldl_cons,h,ih9]
  simp
theorem zgj (hc:Φ.calm=Bool.true){it2 target2:Expr}{scope:Scope}(S:Src K H x xs c)(bx:Bd H.length x)(hH:BdH H.length H)(hσ:Bde H.length σ)(dR:Bde H.length σc)(ok:CompOk sc scope σ σc)(hlen:xs.length≤1000)
  (f:AV→List AV) (G:AV→AV→AV) (hf:∀v∈xs,(f v).length=2)
  (step:∀v∈xs,∀H',BdH H'.length H'→(∀(i:Nat) (k:Cell),H[i]? =some k→H'[i]? =some k)→∃σ1,SA pg w K Φ d scope target v σc H' σ1 H'∧Bde H.length σ1∧(∀y u,σc.lookup y=some u→σ1.lookup y=some u) ∧
   SE pg w K Φ d scope it2 σ1 H' (.lst (f v)) σ1 H'∧Bd H.length (.lst (f v)) ∧
   (∀u∈f v,∀H',BdH H'.length H'→(∀(i:Nat) (k:Cell),H[i]? =some k→H'[i]? =some k)→∃cp,SA pg w K Φ d scope target2 u σ1 H' cp H'∧(∀y u,σ1.lookup y=some u→cp.lookup y=some u) ∧
    SE pg w K Φ d scope elt cp H' (G v u) cp H'∧Bd H.length (G v u)))
  (cV:∀env x,foldedSetIterable it2 env x=pure x:=by intro _ _;rfl):
  CompRun pg w K Φ d sc (.ListComp elt [⟨target,iter,[],0⟩,⟨target2,it2,[],0⟩] scope pos) scope σ (H++ [c 0]++ [.lst []]) H.length (H++ [c 0]).length (H++ [.junk,.lst (xs.flatMap fun v=>(f v).map (G v))])∧Bds H.length (xs.flatMap fun v=>(f v).map (G v)):=by
 have loop:=zkU (pg:=pg) (w:=w) (K:=K) (Φ:=Φ) (d:=d) (sc:=scope) (σc:=σc) (accC:=Cell.lst) (emit:=zh7 elt) hc .lst (zhJ (elt:=elt) (iter:=iter) (target2:=target2) (it2:=it2) (scope:=scope) (pos:=pos)) zhI rfl S bx hH dR (fun n ys=>Bds H.length ys∧ys.length≤n) (fun n ys h=>.lst h.1) f (fun v u a=>a++ [G v u]) hf
  (fun p v ys hv hI bd=>by
   have hp:p < xs.length:=(List.getElem?_eq_some_iff.mp hv).1
   obtain⟨σ1,sa,cI,dl,se,bx',st⟩:=step v (List.mem_of_getElem? hv) (H++ [c (p+1),Cell.lst ys]) (by simpa using bd) fun i k e=>by rw[List.getElem?_append_left (List.getElem?_eq_some_iff.mp e).1];exact e
   refine⟨σ1,.lst (f v),fun p=>.iter (.lst (f v)) p,sa,cI,dl,se,bx',fun _=>.list .lst,fun q u ys' hu hI' bd'=> ?_⟩
   obtain⟨cp,sa2,dI,se2,cK⟩:=st u (List.mem_of_getElem? hu) (H++ [c (p+1),Cell.lst ys',Cell.iter (.lst (f v)) (q+1)]) (by simpa using bd') fun i k e=>by rw[List.getElem?_append_left (List.getElem?_eq_some_iff.mp e).1];exact e
   have hq:q < 2:=by rw[←hf v (List.mem_of_getElem? hv)];exact(List.getElem?_eq_some_iff.mp hu).1
   refine⟨⟨hI'.1.append (.cons cK .nil),by simp;lia⟩,cp,sa2,dI,?_⟩;have:=SEm.list (j:=H.length+1) (ys:=ys') se2 (by simp) (by rw[sizeLine_eq];lia)
   have hs':(H++ [c (p+1),Cell.lst ys',Cell.iter (.lst (f v)) (q+1)]).set (H.length+1) (.lst (ys'++ [G v u]))=H++ [c (p+1),Cell.lst (ys'++ [G v u]),Cell.iter (.lst (f v)) (q+1)]:=by simp
   rw[hs'] at this
   exact this) cV (dF:= []) ⟨.nil,by exact Nat.le_refl _⟩
 rw[zj1,List.nil_append] at loop
 have e2:H++ [c 0]++ [Cell.lst []]=H++ [c 0,Cell.lst []]:=by exact app2
 have e3:(H++ [c 0]).length=H.length+1:=by exact zcA
 refine⟨⟨ok.cs,.lst,rfl,σc,ok.fr,?_,?_⟩,?_⟩
 ·exact Src.self (p:=0) S (by rw[e2];simp)
 ·rw[e2,e3];exact loop
 ·refine Bds.of fun y hy=> ?_
  obtain⟨v,hv,hy⟩:=List.mem_flatMap.mp hy;obtain⟨u,hu,rfl⟩:=List.mem_map.mp hy
  obtain⟨σ1,_,_,_,_,_,st⟩:=step v hv H hH fun _ _ z=>z
  obtain⟨_,_,_,_,b⟩:=st u hu H hH fun _ _ z=>z
  exact b
theorem SE.bZ {i:Nat}{es:List (Str×AV)}(h0:H[i]? =some (.dct es Option.none))(h:∀n,SE pg w K Φ d sc e σ (H.set i (.dct es (some n))) v σ' (H.set i (.dct es (some n)))):SE pg w K Φ d sc e σ H v σ' H:=by
 have hi:=(List.getElem?_eq_some_iff.mp h0).1
 refine SE.pin h0 fun n=> ?_
 have:=SE.free (h n) (i:=i) (es:=es) (ep:=some n) (by rw[List.getElem?_set_self hi]);rw[List.set_set,zf4 h0] at this;exact this
theorem zmo {body:List Stmt}(hc:Φ.calm=Bool.true){st:Nat→List (Str×AV)}{hp:Nat→List Cell}{N:Nat}(hN:∀k,k≤xs.length→(hp k).length=N)(hB:∀k,k≤xs.length→BdH N (hp k))(hS:∀k,k≤xs.length→Bde N (st k))(S:∀k,k≤xs.length→Src K (hp k) x xs c)(bx:Bd N x)
  (step:∀k v,xs[k]? =some v→BdH (N+1) (hp k++ [c (k+1)])→∃σ1 f tl,SA pg w K Φ d sc target v (st k) (hp k++ [c (k+1)]) σ1 (hp k++ [c (k+1)]) ∧
   SSs pg w K Φ d sc body σ1 (hp k++ [c (k+1)]) f (st (k+1)) (hp (k+1)++ [c (k+1)]++tl)∧(f= .next∨f= .cont)):
  ∀(n k:Nat),k+n=xs.length→SFor pg w K Φ d sc target N body [] (st k) (hp k++ [c k]) .next (st xs.length) (hp xs.length++ [.junk]):=by
 intro n
 induction n with
 | zero=>
  rintro k h
  have hk:k=xs.length:=h;subst hk;have e:=hN xs.length (Nat.le_refl _);have:=Src.stop (pg:=pg) (w:=w) (K:=K) (d:=d) (i:=N) hc ((S xs.length (Nat.le_refl _)).more [c xs.length]) (by rw[←e];simp)
  have hs:(hp xs.length++ [c xs.length]).set N .junk=hp xs.length++ [.junk]:=by rw[←e];simp
  rw[hs] at this;exact SFor.out this SSs.nil
 | succ n ih=>
  rintro k h
  have hv:xs[k]? =some xs[k]:=List.getElem?_eq_getElem (by lia);have e:=hN k (by lia);have e':=hN (k+1) (by lia)
  have bdk:∀m q,m≤xs.length→BdH (N+1) (hp m++ [c q]):=fun m q hm=>BdH.append ((hB m hm).mono (by exact Nat.le_add_right _ _)) (.cons ((((S m hm).bd bx q)).mono (by exact Nat.le_add_right _ _)) .nil)
  have hit:=Src.item (pg:=pg) (w:=w) (K:=K) (Φ:=Φ) (d:=d) (i:=N) (p:=k) ((S k (by lia)).more [c k]) (by rw[←e];simp) hv
  have hs:(hp k++ [c k]).set N (c (k+1))=hp k++ [c (k+1)]:=by rw[←e];simp
  rw[hs] at hit;obtain⟨σ1,f,tl,sa,bo,hf⟩:=step k xs[k] hv (bdk k (k+1) (by lia));have bo':=SSs.drop (f':=f) (cn:=hp (k+1)++ [c (k+1)]) bo (by simp[e,e']) (by rw[show(hp k++ [c (k+1)]).length=N+1 by simp[e]];exact bdk (k+1) (k+1) (by lia)) (by rw[show(hp k++ [c (k+1)]).length=N+1 by simp[e]];exact(hS (k+1) (by lia)).mono (by lia)) (by rcases hf with rfl | rfl;exact .next;exact .cont);exact SFor.turn (c':=c (k+1)) hit (by rw[←e];simp) ((S k (by lia)).calm _) sa bo' hf (ih (k+1) (by lia))
theorem SS.forL {body:List Stmt}(hc:Φ.calm=Bool.true)(a:SE pg w K Φ d sc iter σ H x σ H)(bx:Bd H.length x){st:Nat→List (Str×AV)}{hp:Nat→List Cell}(h0:st 0=σ)(h0':hp 0=H)(hN:∀k,k≤xs.length→(hp k).length=H.length)(hB:∀k,k≤xs.length→BdH H.length (hp k))
  (hS:∀k,k≤xs.length→Bde H.length (st k)) (S:∀k,k≤xs.length→Src K (hp k) x xs c)
  (step:∀k v,xs[k]? =some v→BdH (H.length+1) (hp k++ [c (k+1)])→∃σ1 f tl,SA pg w K Φ d sc target v (st k) (hp k++ [c (k+1)]) σ1 (hp k++ [c (k+1)]) ∧
   SSs pg w K Φ d sc body σ1 (hp k++ [c (k+1)]) f (st (k+1)) (hp (k+1)++ [c (k+1)]++tl)∧(f= .next∨f= .cont))
  (hs:∀env x,foldedSetIterable iter env x=pure x:=by intro _ _;rfl):
  SS pg w K Φ d sc (.For target iter body [] pos) σ H .next (st xs.length) (hp xs.length):=by
 have loop:=zmo hc hN hB hS S bx step xs.length 0 (by simp);rw[h0,h0'] at loop;have S0:=S 0 (by exact Nat.le_add_left _ _);rw[h0'] at S0;exact SS.drop (tl:= [.junk]) (SS.for a S0.it loop hs) (hN _ (Nat.le_refl _)) (hB _ (Nat.le_refl _)) (hS _ (Nat.le_refl _)) .next
end
section
variable {w:World}{Φ:Fm}{d:Nat}{H H':List Cell}{σ':List (Str×AV)}
noncomputable def za1 (i j:Str):Str:=if Txt.endswith i (q "/") then i++j else i++(q "/" ++j)
theorem zbD (a b:Str):(a++b).length=a.length+b.length:=by show(a.cps++b.cps).size=_;rw[Array.size_append];rfl
theorem zeF {i j:Str}{a b c:Nat}(hi:i.length≤a)(hj:j.length≤b)(h:a+(1+b)≤c):(za1 i j).length≤c:=by
 refine Nat.le_trans ?_ h;unfold za1
 split
 ·rw[zbD];exact Nat.add_le_add hi (Nat.le_trans hj (Nat.le_add_left _ _))
 ·rw[zbD,zbD];exact Nat.add_le_add hi (Nat.add_le_add (Nat.le_refl 1) hj)
theorem zoa {a b:Str}(ha:a.length≤2000)(hb:b.length≤2000):a.length+b.length≤sizeLine:=by rw[sizeLine_eq];lia
theorem zok {i j:Str}(T:TW w)(hc:Φ.calm=true)(hH:BdH H.length H)(hj:Txt.startswith j (q "/")=false)(h0:i.length≠0)(hi:i.length≤1000)(hjl:j.length≤1000):
  SSs pW w (KK w) Φ (d+1) (zan (topS 26)) (zaf (topS 26)) [(q "a",.str i),(q "p",.tup [.str j])] H (.ret (.str (za1 i j)))
   [(q "a",.str i),(q "p",.tup [.str j]),(q "sep",.str (q "/")),(q "path",.str (za1 i j)),(q "b",.str j)] H:=by
 refine SSs.cons (SS.assign (fun _ _ _=>rfl) (SE.call (SE.glob T ⟨rfl,rfl⟩ rfl zdn) zdt (SG.some (SL.cons (SE.name ⟨rfl,rfl⟩ rfl) SL.nil)) (zct T).sem) (SA.name (.inl rfl) .here)) ?_;refine SSs.cons (SS.assign (fun _ _ _=>rfl) (SE.call (SE.glob T ⟨rfl,rfl⟩ rfl zlz) zl1 (SG.some (SL.cons (SE.name ⟨rfl,rfl⟩ rfl) SL.nil)) (zkq T).sem) (SA.name (.inl rfl) (.there rfl (.there rfl .nil)))) ?_;refine SSs.cons (SS.assign (fun _ _ _=>rfl) (SE.name ⟨rfl,rfl⟩ rfl) (SA.name (.inl rfl) (.there rfl (.there rfl (.there rfl .nil))))) ?_
 refine SSs.cons (SS.bQ (SSs.cons (SS.forL (xs:= [.str j]) hc (SE.name ⟨rfl,rfl⟩ rfl) (.tup (.cons .str .nil))
  (st:=fun k=>if k=0 then [(q "a",.str i),(q "p",.tup [.str j]),(q "sep",.str (q "/")),(q "path",.str i)] else [(q "a",.str i),(q "p",.tup [.str j]),(q "sep",.str (q "/")),(q "path",.str (za1 i j)),(q "b",.str j)])
  (hp:=fun _=>H) rfl rfl (fun _ _=>rfl) (fun _ _=>hH) (fun k _=> ?bd) (fun _ _=>.tup) (fun k v hv bd=> ?step)) SSs.nil) SSs.nil) (SSs.stop (SS.ret (SE.name ⟨rfl,rfl⟩ rfl)))
 case bd=>split<;>repeat (first | assumption | constructor)
 case step=>
  rcases k with _ | k
  ·obtain rfl:=Option.some.inj hv
   refine⟨_,_,[],SA.name (.inl rfl) (.there rfl (.there rfl (.there rfl (.there rfl .nil)))),?_,.inl rfl⟩;rw[List.append_nil];refine SSs.cons (SS.assign (fun _ _ _=>rfl) (SE.call (SE.glob T ⟨rfl,rfl⟩ rfl zdn) zdt (SG.some (SL.cons (SE.name ⟨rfl,rfl⟩ rfl) SL.nil)) (zct T).sem) (SA.name (.inl rfl) (.there rfl (.there rfl (.there rfl (.there rfl .here)))))) ?_
   refine SSs.cons (SS.ifF (ST.bool (SAll.orGo ((ST.val (SE.meth (SE.name ⟨rfl,rfl⟩ rfl) (GM.str PySem.F.slot_str_startswith rfl) .builtin (SG.some (SL.cons (SE.name ⟨rfl,rfl⟩ rfl) SL.nil)) SC.startswith) STr.bool).eq hj)
    (SAll.orGo ((ST.not (ST.val (SE.name ⟨rfl,rfl⟩ rfl) (STr.str (ze7 (by exact leK ‹_› rfl))))).eq (by rw[truthy_str h0];rfl)) SAll.aV))) ?_) SSs.nil
   have he:SE pW w (KK w) Φ (d+1) (zan (topS 26)) (.Name (q "path") ⟨0,0,0,0⟩) [(q "a",.str i),(q "p",.tup [.str j]),(q "sep",.str (q "/")),(q "path",.str i),(q "b",.str j)] H (.str i) [(q "a",.str i),(q "p",.tup [.str j]),(q "sep",.str (q "/")),(q "path",.str i),(q "b",.str j)] H:=SE.name ⟨rfl,rfl⟩ rfl
   cases hb:Txt.endswith i (q "/") with
   | true=>
    have hJ:za1 i j=i++j:=by unfold za1;rw[if_pos hb]
    rw[hJ]
    exact SSs.cons (SS.ifT ((ST.val (SE.meth (SE.name ⟨rfl,rfl⟩ rfl) (GM.str PySem.F.slot_str_endswith rfl) .builtin (SG.some (SL.cons (SE.name ⟨rfl,rfl⟩ rfl) SL.nil)) SC.endswith) STr.bool).eq hb)
     (SSs.cons (SS.aY (.inl rfl) ⟨rfl,rfl⟩ rfl (SE.name ⟨rfl,rfl⟩ rfl) (SI.addStr (zoa (by exact leK ‹_› rfl) (by exact leK ‹_› rfl))) (.there rfl (.there rfl (.there rfl .here)))) SSs.nil)) SSs.nil
   | false=>
    have hJ:za1 i j=i++(q "/" ++j):=by unfold za1;rw[if_neg (by rw[hb];simp)]
    rw[hJ]
    exact SSs.cons (SS.ifF ((ST.val (SE.meth (SE.name ⟨rfl,rfl⟩ rfl) (GM.str PySem.F.slot_str_endswith rfl) .builtin (SG.some (SL.cons (SE.name ⟨rfl,rfl⟩ rfl) SL.nil)) SC.endswith) STr.bool).eq hb)
     (SSs.cons (SS.aY (.inl rfl) ⟨rfl,rfl⟩ rfl (SE.bin (SE.name ⟨rfl,rfl⟩ rfl) (SE.name ⟨rfl,rfl⟩ rfl) (SB.addStr (zoa (by decide) (by exact leK ‹_› rfl)))) (SI.addStr (zoa (by exact leK ‹_› rfl) (by rw[zbD];have:(q "/").length=1:=rfl;lia))) (.there rfl (.there rfl (.there rfl .here)))) SSs.nil)) SSs.nil
  ·exact nsE hv
theorem ziA {i j:Str}(T:TW w)(hc:Φ.calm=true)(hH:BdH H.length H)(hj:Txt.startswith j (q "/")=false)(h0:i.length≠0)(hi:i.length≤1000)(hjl:j.length≤1000):
  SCc pW w (KK w) Φ (d+2) (.ref 269) [.str i,.str j] H (.str (za1 i j)) H:=
 SCc.star (f:=.ret (.str (za1 i j))) (ns:= [q "a"]) (va:=q "p") (xs:= [.str i]) (ys:= [.str j]) T zoM (by decide) (fun vs ws h=>by refine znR h fun v=> ?_;cases ws<;>rfl) (by decide) (fun x hx=>by
  simp only[List.cons_append,List.nil_append,List.mem_cons,List.not_mem_nil,or_false] at hx
  rcases hx with rfl | rfl<;>rfl) rfl (small rfl) fun L=>zok T hc hH hj h0 hi hjl
noncomputable def splitS (i:Str):Str×Str:=
 if (Txt.slice i none (some 1) !=q "/")=true then (q "",i)
 else if (Txt.slice i (some 1) (some 2) !=q "/" || Txt.slice i (some 2) (some 3)==q "/")=true then (q "/",Txt.slice i (some 1) none)
 else (Txt.slice i none (some 2),Txt.slice i (some 2) none)
theorem ST.or2 {pg:Program}{K:Frag}{sc:Scope}{cz cG:Expr}{σ:List (Str×AV)}{cI cK:Bool}{pos:Pos}(a:ST pg w K Φ d sc cz σ H cI σ H)(c:cI=Bool.false→ST pg w K Φ d sc cG σ H cK σ H):ST pg w K Φ d sc (.BoolOp .Or [cz,cG] pos) σ H (cI|| cK) σ H:=by
 cases cI with
 | true=>exact ST.bool (SAll.ay a)
 | false=>
  cases cK with
  | true=>exact ST.bool (SAll.orGo a (SAll.ay (c rfl)))
  | false=>exact ST.bool (SAll.orGo a (SAll.orGo (c rfl) SAll.aV))
theorem ST.and2 {pg:Program}{K:Frag}{sc:Scope}{cz cG:Expr}{σ:List (Str×AV)}{cI cK:Bool}{pos:Pos}(a:ST pg w K Φ d sc cz σ H cI σ H)(c:cI=Bool.true→ST pg w K Φ d sc cG σ H cK σ H):ST pg w K Φ d sc (.BoolOp .And [cz,cG] pos) σ H (cI&&cK) σ H:=by
 cases cI with
 | false=>exact ST.bool (SAll.ba a)
 | true=>
  cases cK with
  | false=>exact ST.bool (SAll.bF a (SAll.ba (c rfl)))
  | true=>exact ST.bool (SAll.bF a (SAll.bF (c rfl) SAll.b9))
theorem ST.or3 {pg:Program}{K:Frag}{sc:Scope}{cz cG dA:Expr}{σ:List (Str×AV)}{cI cK dN:Bool}{pos:Pos}(a:ST pg w K Φ d sc cz σ H cI σ H)(c:cI=Bool.false→ST pg w K Φ d sc cG σ H cK σ H)(g:cI=Bool.false→cK=Bool.false→ST pg w K Φ d sc dA σ H dN σ H):ST pg w K Φ d sc (.BoolOp .Or [cz,cG,dA] pos) σ H (cI|| cK|| dN) σ H:=by
 cases cI with
 | true=>exact ST.bool (SAll.ay a)
 | false=>
  cases cK with
  | true=>exact ST.bool (SAll.orGo a (SAll.ay (c rfl)))
  | false=>
   cases dN with
   | true=>exact ST.bool (SAll.orGo a (SAll.orGo (c rfl) (SAll.ay (g rfl rfl))))
   | false=>exact ST.bool (SAll.orGo a (SAll.orGo (c rfl) (SAll.orGo (g rfl rfl) SAll.aV)))
theorem SS.ite {pg:Program}{K:Frag}{sc:Scope}{t:Expr}{body orelse:List Stmt}{σ σ1:List (Str×AV)}{b:Bool}{f:AFlow}{pos:Pos}(a:ST pg w K Φ d sc t σ H b σ H)(x:b=Bool.true→SSs pg w K Φ d sc body σ H f σ1 H')(y:b=Bool.false→SSs pg w K Φ d sc orelse σ H f σ1 H'):SS pg w K Φ d sc (.If t body orelse pos) σ H f σ1 H':=by
 cases b with
 | true=>exact SS.ifT a (x rfl)
 | false=>exact SS.ifF a (y rfl)
theorem zhD {i:Str}(T:TW w)(hi:i.length≤1000):
  SSs pW w (KK w) Φ (d+1) (zan (topS 27)) (zaf (topS 27)) [(q "p",.str i)] H (.ret (.tup [.str (q ""),.str (splitS i).1,.str (splitS i).2])) [(q "p",.str i),(q "sep",.str (q "/")),(q "empty",.str (q ""))] H:=by
 have hz:i.length≤sizeLine:=ze7 (by exact leK ‹_› rfl);refine SSs.cons (SS.assign (fun _ _ _=>rfl) (SE.call (SE.glob T ⟨rfl,rfl⟩ rfl zdn) zdt (SG.some (SL.cons (SE.name ⟨rfl,rfl⟩ rfl) SL.nil)) (zct T).sem) (SA.name (.inl rfl) .here)) ?_
 refine SSs.cons (SS.ifF (ST.val (SE.call (SE.bltn T ⟨rfl,rfl⟩ rfl zbL zbQ) .builtin (SG.some (SL.cons (SE.name ⟨rfl,rfl⟩ rfl) (SL.cons (SE.bltn T ⟨rfl,rfl⟩ rfl zez ze0) SL.nil))) SC.aq) STr.bool)
  (SSs.cons (SS.assign (fun _ _ _=>rfl) SE.str (SA.name (.inl rfl) (.there rfl .nil))) (SSs.cons (SS.assign (fun _ _ _=>rfl) SE.str (SA.name (.inl rfl) (.there rfl (.there rfl .nil)))) SSs.nil))) ?_
 refine SSs.stop (SS.ite (ST.cmp (SE.ac (SE.name ⟨rfl,rfl⟩ rfl) SPart.none (SPart.some SE.int) hz) (SE.name ⟨rfl,rfl⟩ rfl) SCmp.a8) (fun h=> ?_) fun h=> ?_)
 ·have e:splitS i=(q "",i):=by unfold splitS;rw[if_pos h]
  rw[e];exact SSs.stop (SS.ret (SE.tuple (SL.cons (SE.name ⟨rfl,rfl⟩ rfl) (SL.cons (SE.name ⟨rfl,rfl⟩ rfl) (SL.cons (SE.name ⟨rfl,rfl⟩ rfl) SL.nil))) (small rfl)))
 ·refine SSs.stop (SS.ite (ST.or2 (ST.cmp (SE.ac (SE.name ⟨rfl,rfl⟩ rfl) (SPart.some SE.int) (SPart.some SE.int) hz) (SE.name ⟨rfl,rfl⟩ rfl) SCmp.a8) fun _=>ST.cmp (SE.ac (SE.name ⟨rfl,rfl⟩ rfl) (SPart.some SE.int) (SPart.some SE.int) hz) (SE.name ⟨rfl,rfl⟩ rfl) SCmp.ak) (fun h'=> ?_) fun h'=> ?_)
  ·have e:splitS i=(q "/",Txt.slice i (some 1) none):=by unfold splitS;rw[if_neg (by rw[h];simp),if_pos h']
   rw[e];exact SSs.stop (SS.ret (SE.tuple (SL.cons (SE.name ⟨rfl,rfl⟩ rfl) (SL.cons (SE.name ⟨rfl,rfl⟩ rfl) (SL.cons (SE.ac (SE.name ⟨rfl,rfl⟩ rfl) (SPart.some SE.int) SPart.none hz) SL.nil))) (small rfl)))
  ·have e:splitS i=(Txt.slice i none (some 2),Txt.slice i (some 2) none):=by unfold splitS;rw[if_neg (by rw[h];simp),if_neg (by rw[h'];simp)]
   rw[e];exact SSs.stop (SS.ret (SE.tuple (SL.cons (SE.name ⟨rfl,rfl⟩ rfl) (SL.cons (SE.ac (SE.name ⟨rfl,rfl⟩ rfl) SPart.none (SPart.some SE.int) hz) (SL.cons (SE.ac (SE.name ⟨rfl,rfl⟩ rfl) (SPart.some SE.int) SPart.none hz) SL.nil))) (small rfl)))
theorem zht {i:Str}(T:TW w)(hi:i.length≤1000):SCc pW w (KK w) Φ (d+2) (.ref 276) [.str i] H (.tup [.str (q ""),.str (splitS i).1,.str (splitS i).2]) H:=
 SCc.plain (f:=.ret _) (ns:= [q "p"]) T zij (len1 fun _=>rfl) (by exact List.nodup_cons.mpr ⟨List.not_mem_nil,List.nodup_nil⟩) (fun x hx=>by simp at hx;subst hx;exact .inl rfl) rfl fun L=>zhD T hi
noncomputable def zbk (ini:Str)(acc:List Str)(c:Str):List Str:=
 if (!((c.length:Int) !=0)|| c==q ".")=true then acc
 else if (c !=q ".." || (!((ini.length:Int) !=0)&& !(!(txts acc).isEmpty))|| (!(txts acc).isEmpty&&acc.getLastD (q "")==q ".."))=true then acc++ [c]
 else acc.dropLast
noncomputable def zb4 (ini:Str)(cs:List Str):List Str:=cs.foldl (zbk ini) []
noncomputable def zaZ (i:Str):Str:=
 if i.length=0 then q "."
 else
  let p:=(splitS i).1++Txt.join (q "/") (zb4 (splitS i).1 (Txt.split (splitS i).2 (q "/")))
  if p.length=0 then q "." else p
theorem zaa (ts:List Str):(txts ts).length=ts.length:=List.length_map ..
theorem zgv (ts:List Str)(t:Str):txts (ts++ [t])=txts ts++ [.str t]:=by unfold txts;simp
theorem zbf (ts:List Str)(k:Nat):(txts ts)[k]? =ts[k]?.map .str:=by unfold txts;simp
theorem zjP (ini:Str)(acc:List Str)(c:Str):(zbk ini acc c).length≤acc.length+1:=by
 unfold zbk;split
 ·exact Nat.le_add_right _ _
 ·split<;>simp;solve_by_elim (maxDepth:=4) [leK,ltK,slK,llK,kL]
theorem zjR (ini:Str):∀(cs acc:List Str),(cs.foldl (zbk ini) acc).length≤acc.length+cs.length:=by
 intro cs
 induction cs with
 | nil=>
  rintro acc
  exact Nat.le_refl _
 | cons c r ih=>
  rintro acc
  rw[List.foldl_cons,List.length_cons];have:=ih (zbk ini acc c);have:=zjP ini acc c
  lia
theorem zkM {ini:Str}{cs:List Str}{k:Nat}{c:Str}(h:cs[k]? =some c):zb4 ini (cs.take (k+1))=zbk ini (zb4 ini (cs.take k)) c:=by
 unfold zb4
 have:cs.take (k+1)=cs.take k++ [c]:=by
  rw[List.take_add_one,h];rfl
 rw[this,List.foldl_append];rfl
noncomputable def zfv (i ini r:Str)(cs:List Str)(o:Nat):List (Str×AV):=
 [(q "path",.str r),(q "sep",.str (q "/")),(q "dot",.str (q ".")),(q "dotdot",.str (q "..")),(q "_",.str (q "")),(q "initial_slashes",.str ini),(q "comps",.lst (txts cs)),(q "new_comps",.obj o)]
theorem zof {sc:Scope}{i ini r c:Str}{cs acc:List Str}{C:Cell}(T:TW w)(hsc:sc=zan (topS 28))(hini:ini.length≤1000)(hc:c.length≤1000)(hacc:acc.length≤1000):
  SSs pW w (KK w) Φ d sc (stB (nthS 6 (zaf (topS 28)))) (zfv i ini r cs H.length++ [(q "comp",.str c)]) (H++ [.lst (txts acc)]++ [C])
   (if (!((c.length:Int) !=0)|| c==q ".")=true then .cont else .next) (zfv i ini r cs H.length++ [(q "comp",.str c)]) (H++ [.lst (txts (zbk ini acc c))]++ [C]):=by
 subst hsc
 have e0:(H++ [Cell.lst (txts acc)]++ [C])[H.length]? =some (.lst (txts acc)):=by exact zib
 have hz:(txts acc).length≤sizeLine:=by rw[zaa,sizeLine_eq];exact leK ‹_› rfl
 have tA:∀{p:Pos},ST pW w (KK w) Φ d (zan (topS 28)) (.Name (q "new_comps") p) (zfv i ini r cs H.length++ [(q "comp",.str c)]) (H++ [.lst (txts acc)]++ [C]) (!(txts acc).isEmpty) (zfv i ini r cs H.length++ [(q "comp",.str c)]) (H++ [.lst (txts acc)]++ [C]):=ST.val (SE.name ⟨rfl,rfl⟩ rfl) (STr.list (.obj e0) hz)
 by_cases h1:(!((c.length:Int) !=0)|| c==q ".")=true
 ·rw[if_pos h1]
  have e:zbk ini acc c=acc:=by unfold zbk;rw[if_pos h1]
  rw[e];exact SSs.stop (SS.ifT ((ST.or2 (ST.not (ST.val (SE.name ⟨rfl,rfl⟩ rfl) (STr.str (ze7 (by exact leK ‹_› rfl))))) fun _=>ST.cmp (SE.name ⟨rfl,rfl⟩ rfl) (SE.name ⟨rfl,rfl⟩ rfl) SCmp.ak).eq h1) (SSs.stop SS.cont))
 ·rw[if_neg h1]
  refine SSs.cons (SS.ifF ((ST.or2 (ST.not (ST.val (SE.name ⟨rfl,rfl⟩ rfl) (STr.str (ze7 (by exact leK ‹_› rfl))))) fun _=>ST.cmp (SE.name ⟨rfl,rfl⟩ rfl) (SE.name ⟨rfl,rfl⟩ rfl) SCmp.ak).eq (eq_false_of_ne_true h1)) SSs.nil) ?_;refine SSs.cons (SS.ite (ST.or3 (ST.cmp (SE.name ⟨rfl,rfl⟩ rfl) (SE.name ⟨rfl,rfl⟩ rfl) SCmp.a8) (fun _=>ST.and2 (ST.not (ST.val (SE.name ⟨rfl,rfl⟩ rfl) (STr.str (ze7 (by exact leK ‹_› rfl))))) fun _=>ST.not tA) fun _ _=>ST.and2 (cK:=acc.getLastD (q "")==q "..") tA fun hne=> ?last) (fun h2=> ?app) fun h2=> ?pop) SSs.nil
  case last=>
   have hl:acc≠ []:=by rintro rfl;exact ftE hne
   obtain⟨ys,y,rfl⟩:∃ys y,acc=ys++ [y]:=⟨acc.dropLast,acc.getLast hl,(List.dropLast_concat_getLast hl).symm⟩
   rw[List.getLastD_concat];exact ST.cmp (SE.aJ (SE.name ⟨rfl,rfl⟩ rfl) (SE.neg SE.int) (.obj e0) (by decide) (by rw[zaa];simp;lia) (by decide) (by rw[zaa,zbf,List.length_append,show((-1:Int)+((ys.length+ [y].length:Nat):Int)).toNat=ys.length by simp;lia];simp)) (SE.name ⟨rfl,rfl⟩ rfl) SCmp.ak
  case app=>
   have e:zbk ini acc c=acc++ [c]:=by unfold zbk;rw[if_neg h1,if_pos h2]
   rw[e,zgv]
   have hs:(H++ [Cell.lst (txts acc)]++ [C]).set H.length (.lst (txts acc++ [.str c]))=H++ [Cell.lst (txts acc++ [.str c])]++ [C]:=by simp
   rw[←hs];exact SSs.cons (SS.expr (fun _ _ _=>rfl) (SE.meth (SE.name ⟨rfl,rfl⟩ rfl) (GM.listO e0 PySem.F.slot_list_append rfl) .builtin (SG.some (SL.cons (SE.name ⟨rfl,rfl⟩ rfl) SL.nil)) (SC.append e0 hz))) SSs.nil
  case pop=>
   have e:zbk ini acc c=acc.dropLast:=by unfold zbk;rw[if_neg h1,if_neg (by rw[h2];simp)]
   rw[e];refine SSs.cons (SS.ite tA (fun hne=> ?_) fun hne=> ?_) SSs.nil
   ·have hl:acc≠ []:=by rintro rfl;exact ftE hne
    obtain⟨ys,y,rfl⟩:∃ys y,acc=ys++ [y]:=⟨acc.dropLast,acc.getLast hl,(List.dropLast_concat_getLast hl).symm⟩
    rw[List.dropLast_concat]
    have e1:(H++ [Cell.lst (txts (ys++ [y]))]++ [C])[H.length]? =some (.lst (txts ys++ [.str y])):=by rw[e0,zgv]
    have hs:(H++ [Cell.lst (txts (ys++ [y]))]++ [C]).set H.length (.lst (txts ys))=H++ [Cell.lst (txts ys)]++ [C]:=by simp
    rw[←hs];exact SSs.cons (SS.expr (fun _ _ _=>rfl) (SE.meth (SE.name ⟨rfl,rfl⟩ rfl) (GM.listO e0 PySem.F.slot_list_pop rfl) .builtin SG.nil (SC.pop e1 (by rw[zaa,sizeLine_eq];simp at hacc;exact slK ‹_› rfl)))) SSs.nil
   ·have hl:acc= []:=by
     have hne':(txts acc).isEmpty=true:=by simpa using hne
     have:=List.isEmpty_iff.mp hne';unfold txts at this
     simpa using this
    subst hl;exact SSs.nil
theorem Upd.new {n:Str}{v:AV} :∀{σ:List (Str×AV)},σ.lookup n=none→Upd σ n v (σ++ [(n,v)])
 | [],_=>.nil
 | (k,u)::r,h=>by
  rw[List.lookup_cons] at h
  cases z:n==k with
  | true=>rw[z] at h;exact snE h
  | false=>rw[z] at h;exact .there z (Upd.new h)
theorem zah {σ τ:List (Str×AV)}{y:Str}{v:AV}(e:σ.lookup y=some v):(σ++τ).lookup y=some v:=by rw[List.lookup_append,e];rfl
theorem zjQ (ini:Str):∀(cs acc:List Str),((cs.foldl (zbk ini) acc).map (·.length)).sum≤(acc.map (·.length)).sum+(cs.map (·.length)).sum:=by
 intro cs
 induction cs with
 | nil=>
  rintro acc
  exact Nat.le_refl _
 | cons c r ih=>
  rintro acc
  have h:((zbk ini acc c).map (·.length)).sum≤(acc.map (·.length)).sum+c.length:=by
   unfold zbk;split
   ·exact Nat.le_add_right _ _
   ·split
    ·simp
    ·rcases List.eq_nil_or_concat acc with rfl | ⟨ys,y,rfl⟩
     ·simp
     ·simp;lia
  have:=ih (zbk ini acc c);rw[List.foldl_cons,List.map_cons,List.sum_cons]
  lia
theorem zjy (i:Str):(splitS i).1.length≤i.length+1∧(splitS i).2.length≤i.length:=by
 have one:(q "/").length=1:=rfl;have zero:(q "").length=0:=rfl;have sl:=PyProof.Txt.length_slice_le i;unfold splitS
 split
 ·exact⟨by rw[zero];exact Nat.le_add_left _ _,Nat.le_refl _⟩
 ·split
  ·exact⟨by rw[one];exact Nat.succ_pos _,sl _ _⟩
  ·exact⟨Nat.le_trans (sl _ _) (Nat.le_succ _),sl _ _⟩
theorem zjo {i:Str}(T:TW w)(hH:BdH H.length H)(hi:i.length≤900):∃σ' tl,∀Φ:Fm,Φ.calm=true→SSs pW w (KK w) Φ (d+2) (zan (topS 28)) (zaf (topS 28)) [(q "path",.str i)] H (.ret (.str (zaZ i))) σ' (H++tl):=by
 obtain⟨l1,l2⟩:=zjy i;have one:(q "/").length=1:=rfl;generalize hini:(splitS i).1=ini at l1;generalize hr:(splitS i).2=r at l2;generalize hcs:Txt.split r (q "/")=cs;have sw:=split_weight r (q "/") (by rw[one];exact Nat.le_refl _);rw[hcs] at sw;have rl:r.length≤900:=Nat.le_trans l2 hi;have sw':=Nat.le_trans sw (Nat.succ_le_succ rl)
 have clen:∀c∈cs,c.length≤1000:=fun c hc=>leK (Nat.le_trans (short_of_weight sw hc) rl) rfl
 have acL:∀xs:List Str,xs.length≤901→(zb4 ini xs).length≤1000:=fun xs h=>Nat.le_trans (zjR ini xs []) (by rw[List.length_nil,Nat.zero_add];exact leK h rfl)
 have alen:∀k,(zb4 ini (cs.take k)).length≤1000:=fun k=>acL _ (Nat.le_trans (List.length_take_le' k cs) (adL1 sw'))
 by_cases h0:i.length=0
 ·have en:zaZ i=q "." :=by unfold zaZ;rw[if_pos h0]
  rw[en];refine⟨[(q "path",.str i),(q "sep",.str (q "/")),(q "dot",.str (q ".")),(q "dotdot",.str (q ".."))],[],fun Φ hc=> ?_⟩;rw[List.append_nil];refine SSs.cons (SS.assign (fun _ _ _=>rfl) (SE.call (SE.glob T ⟨rfl,rfl⟩ rfl zdn) zdt (SG.some (SL.cons (SE.name ⟨rfl,rfl⟩ rfl) SL.nil)) (zct T).sem) (SA.name (.inl rfl) .here)) ?_
  refine SSs.cons (SS.ifF (ST.val (SE.call (SE.bltn T ⟨rfl,rfl⟩ rfl zbL zbQ) .builtin (SG.some (SL.cons (SE.name ⟨rfl,rfl⟩ rfl) (SL.cons (SE.bltn T ⟨rfl,rfl⟩ rfl zez ze0) SL.nil))) SC.aq) STr.bool)
   (SSs.cons (SS.assign (fun _ _ _=>rfl) SE.str (SA.name (.inl rfl) (.there rfl .nil))) (SSs.cons (SS.assign (fun _ _ _=>rfl) SE.str (SA.name (.inl rfl) (.there rfl (.there rfl .nil)))) (SSs.cons (SS.assign (fun _ _ _=>rfl) SE.str (SA.name (.inl rfl) (.there rfl (.there rfl (.there rfl .nil))))) SSs.nil)))) ?_
  exact SSs.stop (SS.ifT ((ST.not (ST.val (SE.name ⟨rfl,rfl⟩ rfl) (STr.str (ze7 (by exact leK ‹_› rfl))))).eq (by rw[zhd h0];rfl)) (SSs.stop (SS.ret (SE.name ⟨rfl,rfl⟩ rfl))))
 ·have en:zaZ i=(if (ini++Txt.join (q "/") (zb4 ini cs)).length=0 then q "." else ini++Txt.join (q "/") (zb4 ini cs)):=by unfold zaZ;rw[if_neg h0,hini,hr,hcs]
  have hcount:(zb4 ini cs).length≤1000:=acL cs (adL1 sw');have hsum:((zb4 ini cs).map (·.length)).sum≤1000:=Nat.le_trans (zjQ ini cs []) (by show 0+_≤_;rw[Nat.zero_add];exact leK (adR1 sw') rfl);have jok:JoinOk (q "/") (zb4 ini cs)=true:=joinOk_of (by rw[one];lia)
  have jl:(Txt.join (q "/") (zb4 ini cs)).length≤2000:=by
   show(Builtin.Str.glued _ _).length≤_;rw[StrLaws.glued_eq_join];have:=StrLaws.join_length_le (q "/") (zb4 ini cs)
   rw[one] at this;lia
  have pl:(ini++Txt.join (q "/") (zb4 ini cs)).length≤4000:=by rw[zbD];lia
  have nd:(H++ [Cell.lst (txts (zb4 ini cs))])[H.length]? =some (.lst (txts (zb4 ini cs))):=by exact zbN
  refine⟨[(q "path",.str (ini++Txt.join (q "/") (zb4 ini cs))),(q "sep",.str (q "/")),(q "dot",.str (q ".")),(q "dotdot",.str (q "..")),(q "_",.str (q "")),(q "initial_slashes",.str ini),(q "comps",.obj H.length),(q "new_comps",.obj H.length)],[.lst (txts (zb4 ini cs))],fun Φ hc=> ?_⟩;refine SSs.cons (SS.assign (fun _ _ _=>rfl) (SE.call (SE.glob T ⟨rfl,rfl⟩ rfl zdn) zdt (SG.some (SL.cons (SE.name ⟨rfl,rfl⟩ rfl) SL.nil)) (zct T).sem) (SA.name (.inl rfl) .here)) ?_
  refine SSs.cons (SS.ifF (ST.val (SE.call (SE.bltn T ⟨rfl,rfl⟩ rfl zbL zbQ) .builtin (SG.some (SL.cons (SE.name ⟨rfl,rfl⟩ rfl) (SL.cons (SE.bltn T ⟨rfl,rfl⟩ rfl zez ze0) SL.nil))) SC.aq) STr.bool)
   (SSs.cons (SS.assign (fun _ _ _=>rfl) SE.str (SA.name (.inl rfl) (.there rfl .nil))) (SSs.cons (SS.assign (fun _ _ _=>rfl) SE.str (SA.name (.inl rfl) (.there rfl (.there rfl .nil)))) (SSs.cons (SS.assign (fun _ _ _=>rfl) SE.str (SA.name (.inl rfl) (.there rfl (.there rfl (.there rfl .nil))))) SSs.nil)))) ?_
  refine SSs.cons (SS.ifF ((ST.not (ST.val (SE.name ⟨rfl,rfl⟩ rfl) (STr.str (ze7 (leK hi rfl))))).eq (by rw[truthy_str h0];rfl)) SSs.nil) ?_;have sp:=zht (Φ:=Φ) (d:=d) (H:=H) T (i:=i) (leK hi rfl);rw[hini,hr] at sp
  refine SSs.cons (SS.assign (fun _ _ _=>rfl) (SE.call (SE.glob T ⟨rfl,rfl⟩ rfl zif) zix (SG.some (SL.cons (SE.name ⟨rfl,rfl⟩ rfl) SL.nil)) sp.sem)
   (SA.tuple hc .tup (SAs.cons (SA.name (.inl rfl) (.there rfl (.there rfl (.there rfl (.there rfl .nil))))) (SAs.cons (SA.name (.inl rfl) (.there rfl (.there rfl (.there rfl (.there rfl (.there rfl .nil)))))) (SAs.cons (SA.name (.inl rfl) .here) SAs.nil))))) ?_
  have spl:=SC.splitS (pg:=pW) (w:=w) (K:=KK w) (Φ:=Φ) (d:=d+2) (H:=H) (i:=r) (j:=q "/") rfl (leK rl rfl);rw[hcs] at spl;refine SSs.cons (SS.assign (fun _ _ _=>rfl) (SE.meth (SE.name ⟨rfl,rfl⟩ rfl) (GM.str PySem.F.slot_str_split rfl) .builtin (SG.some (SL.cons (SE.name ⟨rfl,rfl⟩ rfl) SL.nil)) spl) (SA.name (.inl rfl) (.there rfl (.there rfl (.there rfl (.there rfl (.there rfl (.there rfl .nil)))))))) ?_;refine SSs.cons (SS.assign (fun _ _ _=>rfl) (SE.listO SL.nil (small rfl)) (SA.name (.inl rfl) (.there rfl (.there rfl (.there rfl (.there rfl (.there rfl (.there rfl (.there rfl .nil))))))))) ?_
  have hlen1:(H++ [Cell.lst []]).length=H.length+1:=by exact zcA
  have tk:cs.take (txts cs).length=cs:=by rw[zaa,List.take_length]
  refine SSs.cons (SS.forL (xs:=txts cs) (x:=.lst (txts cs)) (c:=fun p=>.iter (.lst (txts cs)) p) hc (SE.name ⟨rfl,rfl⟩ rfl) (.lst Bds.txts)
   (st:=fun _=>zfv i ini r cs H.length) (hp:=fun k=>H++ [.lst (txts (zb4 ini (cs.take k)))]) rfl rfl (fun _ _=>by simp) (fun _ _=>by rw[hlen1];exact BdH.append (hH.mono (Nat.le_succ _)) (.cons (.lst Bds.txts) .nil))
   (fun _ _=>by rw[hlen1];unfold zfv;exact .cons .str (.cons .str (.cons .str (.cons .str (.cons .str (.cons .str (.cons (.lst Bds.txts) (.cons (.obj (Nat.lt_succ_self _)) .nil)))))))) (fun _ _=>.list .lst) (fun k v hv bd=> ?step)) ?_
  case step=>
   rw[zbf] at hv
   cases hk:cs[k]? with
   | none=>rw[hk] at hv;exact nsE hv
   | some c=>
    rw[hk] at hv;obtain rfl:=Option.some.inj hv
    have tf:=zkM (ini:=ini) hk;refine⟨_,if (!((c.length:Int) !=0)|| c==q ".")=true then .cont else .next,[],SA.name (.inl rfl) (Upd.new rfl),?_,?_⟩
    ·rw[List.append_nil]
     rw[tf]
     exact SSs.weaken (zof (i:=i) (ini:=ini) (r:=r) (cs:=cs) (H:=H) T rfl (by lia) (clen c (List.mem_of_getElem? hk)) (alen k)) fun y v e=>zah e
    ·split
     ·exact .inr rfl
     ·exact .inl rfl
  rw[tk];refine SSs.cons (SS.assign (fun _ _ _=>rfl) (SE.name ⟨rfl,rfl⟩ rfl) (SA.name (.inl rfl) (.there rfl (.there rfl (.there rfl (.there rfl (.there rfl (.there rfl .here)))))))) ?_;refine SSs.cons (SS.assign (fun _ _ _=>rfl) (SE.bin (SE.name ⟨rfl,rfl⟩ rfl) (SE.meth (SE.name ⟨rfl,rfl⟩ rfl) (GM.str PySem.F.slot_str_join rfl) .builtin (SG.some (SL.cons (SE.name ⟨rfl,rfl⟩ rfl) SL.nil)) (SC.join (.obj nd) jok)) (SB.addStr (by rw[sizeLine_eq];lia))) (SA.name (.inl rfl) .here)) ?_;rw[en]
  by_cases hz:(ini++Txt.join (q "/") (zb4 ini cs)).length=0
  ·rw[if_pos hz]
   exact SSs.stop (SS.ret (SE.orR (SE.name ⟨rfl,rfl⟩ rfl) (zhd hz▸STr.str (ze7 (leK pl rfl))) (SE.name ⟨rfl,rfl⟩ rfl)))
  ·rw[if_neg hz]
   exact SSs.stop (SS.ret (SE.orL (SE.name ⟨rfl,rfl⟩ rfl) (truthy_str hz▸STr.str (ze7 (leK pl rfl)))))
theorem zce {i:Str}(T:TW w)(hc:Φ.calm=true)(hH:BdH H.length H)(hi:i.length≤900):SCc pW w (KK w) Φ (d+3) (.ref 283) [.str i] H (.str (zaZ i)) H:=by
 obtain⟨σ',tl,h⟩:=zjo (d:=d) T hH hi;exact SCc.drop (SCc.plain (f:=.ret (.str (zaZ i))) (ns:= [q "path"]) T zj7 (len1 fun _=>rfl) (by exact List.nodup_cons.mpr ⟨List.not_mem_nil,List.nodup_nil⟩) (fun x hx=>by simp at hx;subst hx;exact .inl rfl) rfl fun L=>h _ hc) rfl hH (.same .str)
noncomputable def ways:List (List Str):= [[q "a",q "./a"],[q ".b",q "./.b"],[q "c",q "../s/c"],[q "d/e",q "./d//e"],[q "../t",q "../../../t"]]
noncomputable def zaT (a b:Nat):Str:=(ways.getD a []).getD b (q "")
noncomputable def zbM (x:Int):List Str:= [zaT (x.fmod 5).toNat ((x.fdiv 5).fmod 2).toNat,zaT ((x.fdiv 10).fmod 5).toNat ((x.fdiv 50).fmod 2).toNat]
theorem zaK (x:Int){n:Int}(h:0 < n):0≤x.fmod n∧x.fmod n < n:=by
 rw[Int.fmod_eq_emod_of_nonneg _ (Int.le_of_lt h)];exact⟨Int.emod_nonneg _ (Int.ne_of_gt h),Int.emod_lt_of_pos _ h⟩
theorem zei (x:Int)(n:Nat)(h:0 < n):(x.fmod n).toNat < n:=have r:=zaK x (n:=n) (Int.natCast_pos.mpr h);(Int.toNat_lt r.1).mpr r.2
theorem zg9 (k n:Nat):((k:Int).fmod (n:Int)).toNat=k % n:=by
 rw[Int.fmod_eq_emod_of_nonneg _ (Int.natCast_nonneg n)];rfl
theorem zkx:∀{a:Nat},a < 5→ [AV.lst [.str (q "a"),.str (q "./a")],.lst [.str (q ".b"),.str (q "./.b")],.lst [.str (q "c"),.str (q "../s/c")],.lst [.str (q "d/e"),.str (q "./d//e")],.lst [.str (q "../t"),.str (q "../../../t")]][a]? =some (.lst (txts (ways.getD a [])))
 | 0,_=>rfl
 | 1,_=>rfl
 | 2,_=>rfl
 | 3,_=>rfl
 | 4,_=>rfl
 | n+5,h=>absurd h (Nat.not_lt.mpr (Nat.le_add_left _ _))
theorem zky:∀{a b:Nat},a < 5→b < 2→(txts (ways.getD a []))[b]? =some (.str (zaT a b))
 | 0,0,_,_=>rfl
 | 1,0,_,_=>rfl
 | 2,0,_,_=>rfl
 | 3,0,_,_=>rfl
 | 4,0,_,_=>rfl
 | 0,1,_,_=>rfl
 | 1,1,_,_=>rfl
 | 2,1,_,_=>rfl
 | 3,1,_,_=>rfl
 | 4,1,_,_=>rfl
 | n+5,_,h,_=>absurd h (Nat.not_lt.mpr (Nat.le_add_left _ _))
 | _,n+2,_,h=>absurd h (Nat.not_lt.mpr (Nat.le_add_left _ _))
theorem znw {x:Int}(T:TW w):SSs pW w (KK w) Φ (d+30) (zan (topS 30)) (zaf (topS 30)) [(q "x",.int x)] H (.ret (.lst (txts (zbM x))))
  [(q "x",.int x),(q "ways",.lst [.lst [.str (q "a"),.str (q "./a")],.lst [.str (q ".b"),.str (q "./.b")],.lst [.str (q "c"),.str (q "../s/c")],.lst [.str (q "d/e"),.str (q "./d//e")],.lst [.str (q "../t"),.str (q "../../../t")]])] H:=by
 refine SSs.cons (SS.assign (fun _ _ _=>rfl) (SE.list (SL.cons (SE.list (SL.cons SE.str (SL.cons SE.str SL.nil)) (small rfl)) (SL.cons (SE.list (SL.cons SE.str (SL.cons SE.str SL.nil)) (small rfl)) (SL.cons (SE.list (SL.cons SE.str (SL.cons SE.str SL.nil)) (small rfl)) (SL.cons (SE.list (SL.cons SE.str (SL.cons SE.str SL.nil)) (small rfl)) (SL.cons (SE.list (SL.cons SE.str (SL.cons SE.str SL.nil)) (small rfl)) SL.nil))))) (small rfl)) (SA.name (.inl rfl) (.there rfl .nil))) ?_;have r5:=zaK x (n:=5) (by decide);have r2:=zaK (x.fdiv 5) (n:=2) (by decide);have r5':=zaK (x.fdiv 10) (n:=5) (by decide);have r2':=zaK (x.fdiv 50) (n:=2) (by decide)
 refine SSs.stop (SS.ret (SE.list (SL.cons (SE.item (SE.item (SE.name ⟨rfl,rfl⟩ rfl) (SE.bin (SE.name ⟨rfl,rfl⟩ rfl) SE.int (SB.ah (by decide))) .lst r5.1 (Int.lt_trans r5.2 (by decide)) (zkx ((Int.toNat_lt r5.1).mpr r5.2))) (SE.bin (SE.bin (SE.name ⟨rfl,rfl⟩ rfl) SE.int (SB.aL T rfl (by exact Nat.le_add_left _ _) (by decide))) SE.int (SB.ah (by decide))) .lst r2.1 (by omega) (zky (by omega) (by omega)))
  (SL.cons (SE.item (SE.item (SE.name ⟨rfl,rfl⟩ rfl) (SE.bin (SE.bin (SE.name ⟨rfl,rfl⟩ rfl) SE.int (SB.aL T rfl (by exact Nat.le_add_left _ _) (by decide))) SE.int (SB.ah (by decide))) .lst r5'.1 (Int.lt_trans r5'.2 (by decide)) (zkx ((Int.toNat_lt r5'.1).mpr r5'.2))) (SE.bin (SE.bin (SE.name ⟨rfl,rfl⟩ rfl) SE.int (SB.aL T rfl (by exact Nat.le_add_left _ _) (by decide))) SE.int (SB.ah (by decide))) .lst r2'.1 (by omega) (zky (by omega) (by omega))) SL.nil)) (small rfl)))
theorem ziw {x:Int}(T:TW w):SCc pW w (KK w) Φ (d+31) (.ref 290) [.int x] H (.lst (txts (zbM x))) H:=
 SCc.plain (f:=.ret (.lst (txts (zbM x)))) (ns:= [q "x"]) T zil (len1 fun _=>rfl) (by exact List.nodup_cons.mpr ⟨List.not_mem_nil,List.nodup_nil⟩) (fun x hx=>by simp at hx;subst hx;exact .inl rfl) rfl fun L=>znw T
noncomputable def zeS (k:Nat):List Str:= [[],[q ""],[q "."]].getD (k % 3) []
noncomputable def zca (ts:List Str)(acc:List Str)(k:Nat):List Str:=acc++ [ts.getD k (q "")]++zeS k
noncomputable def zaG (ts:List Str)(n:Nat):List Str:=(List.range n).foldl (zca ts) []
noncomputable def zeE (ts:List Str):List Str:=zaG ts ts.length++ [q ""]
theorem zbm (ts:List Str)(n:Nat):zaG ts (n+1)=zca ts (zaG ts n) n:=by unfold zaG;rw[List.range_succ,List.foldl_append];rfl
theorem zlK:∀{a:Nat},a < 3→ [AV.lst [],.lst [.str (q "")],.lst [.str (q ".")]][a]? =some (.lst (txts ([[],[q ""],[q "."]].getD a [])))
 | 0,_=>rfl
 | 1,_=>rfl
 | 2,_=>rfl
 | n+3,h=>absurd h (Nat.not_lt.mpr (Nat.le_add_left _ _))
theorem zf6 (ts:List Str):∀n,(zaG ts n).length≤2 * n:=by
 intro n
 induction n with
 | zero=>
  exact Nat.le_refl _
 | succ n ih=>
  rw[zbm];have:=ih;unfold zca zeS
  have h:([[],[q ""],[q "."]].getD (n % 3) []).length≤1:=by
   have:n % 3 < 3:=Nat.mod_lt _ (by decide)
   match n % 3,this with
   | 0,_=>decide
   | 1,_=>decide
   | 2,_=>decide
  simp only[List.length_append,List.length_cons,List.length_nil]
  omega
theorem zap (a b:List Str):txts (a++b)=txts a++txts b:=by unfold txts;simp
theorem zoj {ts:List Str}(T:TW w)(hc:Φ.calm=true)(hH:BdH H.length H)(hl:ts.length≤100):SSs pW w (KK w) Φ (d+1) (zan (topS 31)) (zaf (topS 31)) [(q "texts",.lst (txts ts))] H (.ret (.lst (txts (zeE ts))))
  [(q "texts",.lst (txts ts)),(q "rows",.lst (txts (zaG ts ts.length)))] H:=by
 have ok:∀{l:List AV},l.length≤1000→l.length≤sizeLine:=fun h=>by rw[sizeLine_eq];exact leK ‹_› rfl
 have e0:((List.range (txts ts).length).map fun k:Nat=>AV.int k).length=ts.length:=by rw[List.length_map,List.length_range,zaa]
 refine SSs.cons (SS.assign (fun _ _ _=>rfl) (SE.list SL.nil (small rfl)) (SA.name (.inl rfl) (.there rfl .nil))) ?_
 refine SSs.cons (SS.forL (xs:=(List.range (txts ts).length).map fun k:Nat=>AV.int k) hc (SE.call (SE.bltn T ⟨rfl,rfl⟩ rfl zey zeZ) .type (SG.some (SL.cons (SE.call (SE.bltn T ⟨rfl,rfl⟩ rfl zjT zkt) .builtin (SG.some (SL.cons (SE.name ⟨rfl,rfl⟩ rfl) SL.nil)) (SC.ap .lst (ok (by rw[zaa];exact leK ‹_› rfl)))) SL.nil)) SC.range) .rng
  (st:=fun k=> [(q "texts",.lst (txts ts)),(q "rows",.lst (txts (zaG ts k)))]) (hp:=fun _=>H) rfl rfl (fun _ _=>rfl) (fun _ _=>hH) (fun _ _=>.cons (.lst Bds.txts) (.cons (.lst Bds.txts) .nil)) (fun _ _=>.rng (by rw[zaa];exact leK ‹_› rfl)) (fun k v hv bd=> ?step)) ?_
 case step=>
  rw[List.getElem?_map] at hv
  cases z:(List.range (txts ts).length)[k]? with
  | none=>rw[z] at hv;exact nsE hv
  | some k'=>
   rw[z] at hv;obtain rfl:=Option.some.inj hv
   obtain⟨h1,h2⟩:=List.getElem?_eq_some_iff.mp z
   rw[List.getElem_range] at h2;subst h2
   rw[List.length_range,zaa] at h1
   have hg:(txts ts)[((k:Nat):Int).toNat]? =some (.str (ts.getD k (q ""))):=by rw[Int.toNat_natCast,zbf,List.getElem?_eq_getElem h1,List.getD_eq_getElem?_getD,List.getElem?_eq_getElem h1];rfl
   have hm:((k:Int).fmod 3).toNat=k % 3:=zg9 k 3;have r3:=zaK (k:Int) (n:=3) (by decide);have hle:(zaG ts k).length≤200:=Nat.le_trans (zf6 ts k) (Nat.mul_le_mul_left 2 (Nat.le_of_lt (Nat.lt_of_lt_of_le h1 hl)))
   have hex:(txts (zeS k)).length≤1:=by
    rw[zaa];unfold zeS
    have h3:k % 3 < 3:=Nat.mod_lt _ (by decide)
    match k % 3,h3 with
    | 0,_=>decide
    | 1,_=>decide
    | 2,_=>decide
   refine⟨[(q "texts",.lst (txts ts)),(q "rows",.lst (txts (zaG ts k))),(q "k",.int k)],.next,[],SA.name (.inl rfl) (.there rfl (.there rfl .nil)),?_,.inl rfl⟩;rw[List.append_nil]
   have e:txts (zaG ts (k+1))=(txts (zaG ts k)++ [AV.str (ts.getD k (q ""))])++txts (zeS k):=by rw[zbm];unfold zca;rw[zap,zap];rfl
   rw[e]
   refine SSs.weaken (σ1:= [(q "texts",.lst (txts ts)),(q "rows",.lst ((txts (zaG ts k)++ [AV.str (ts.getD k (q ""))])++txts (zeS k))),(q "k",.int k)]) (SSs.cons (SS.assign (fun _ _ _=>rfl) (SE.bin (SE.bin (SE.name ⟨rfl,rfl⟩ rfl) (SE.list (SL.cons (SE.item (SE.name ⟨rfl,rfl⟩ rfl) (SE.name ⟨rfl,rfl⟩ rfl) .lst (by exact Int.natCast_nonneg _) (znU (Nat.lt_of_lt_of_le h1 (leK hl rfl))) hg) SL.nil) (small rfl)) (SB.ai .lst .lst (by rw[zaa,sizeLine_eq];exact leK (Nat.succ_le_succ hle) rfl)))
    (SE.item (SE.list (SL.cons (SE.list SL.nil (small rfl)) (SL.cons (SE.list (SL.cons SE.str SL.nil) (small rfl)) (SL.cons (SE.list (SL.cons SE.str SL.nil) (small rfl)) SL.nil))) (small rfl)) (SE.bin (SE.name ⟨rfl,rfl⟩ rfl) SE.int (SB.ah (by decide))) .lst r3.1 (Int.lt_trans r3.2 (by decide)) (by rw[hm];exact zlK (Nat.mod_lt _ (by decide)))) (SB.ai .lst .lst ?sz)) (SA.name (.inl rfl) (.there rfl .here))) SSs.nil) ?_
   case sz=>
    have:(txts (zeS k)).length≤1:=hex;show(txts (zaG ts k)++ [AV.str (ts.getD k (q ""))]).length+(txts (zeS k)).length≤sizeLine;rw[List.length_append,zaa,sizeLine_eq,List.length_singleton];exact leK (Nat.add_le_add (Nat.succ_le_succ hle) this) rfl
   ·exact fun y v e=>zah (τ:= [(q "k",AV.int k)]) e
 rw[e0];have hfin:=zf6 ts ts.length;unfold zeE;rw[zap];exact SSs.stop (SS.ret (SE.bin (SE.name ⟨rfl,rfl⟩ rfl) (SE.list (SL.cons SE.str SL.nil) (small rfl)) (SB.ai .lst .lst (by have h1:(txts [q ""]).length=1:=rfl;rw[zaa,sizeLine_eq,h1];exact leK (Nat.succ_le_succ (Nat.le_trans hfin (Nat.mul_le_mul_left 2 hl))) rfl))))
theorem zoR {ts:List Str}(T:TW w)(hc:Φ.calm=true)(hH:BdH H.length H)(hl:ts.length≤100):SCc pW w (KK w) Φ (d+2) (.ref 297) [.lst (txts ts)] H (.lst (txts (zeE ts))) H:=
 SCc.plain (f:=.ret (.lst (txts (zeE ts)))) (ns:= [q "texts"]) T zka (len1 fun _=>rfl) (by exact List.nodup_cons.mpr ⟨List.not_mem_nil,List.nodup_nil⟩) (fun x hx=>by simp at hx;subst hx;exact .inl rfl) rfl fun L=>zoj T hc hH hl
noncomputable def zln:List (Str×Str):= [(q "./a",q "/a"),(q ".b",q "/s/..b"),(q "./.b",q "/.b"),(q "../s/c",q "/s/.../s/c"),(q "./d//e",q "/d/e"),(q "../t",q "/s/.../t"),(q "../../../t",q "/t")]
noncomputable def zdE (i:Str):Str:=((zln.find? fun kv=>kv.1=i).map (·.2)).getD (q "")
theorem zmY (kvs:List (Str×Str))(i:Str):dget (zax kvs) i=((kvs.find? fun kv=>kv.1=i).map fun kv=>AV.str kv.2):=by
 unfold dget zax;rw[List.find?_map,Option.map_map];rfl
theorem zi5 (kvs:List (Str×Str))(i j:Str):(dget (zax kvs) i).getD (.str j)= .str (((kvs.find? fun kv=>kv.1=i).map (·.2)).getD j):=by
 rw[zmY]
 cases kvs.find? fun kv=>kv.1=i<;>rfl
theorem zoi {i:Str}(T:TW w):SSs pW w (KK w) Φ d (zan (topS 37)) (zaf (topS 37)) [(q "word",.str i)] H (.ret (.str (zdE i))) [(q "word",.str i),(q "names",.obj H.length)] (H++ [.dct (zax zln) none]):=by
 have e:(H++ [Cell.dct (zax zln) none])[H.length]? =some (.dct (zax zln) none):=by exact zbN
 refine SSs.cons (SS.assign (fun _ _ _=>rfl) (SE.aH (kvs:=zln) (.cons (.cons (.cons (.cons (.cons (.cons (.cons .nil))))))) (by exact List.cons_ne_nil _ _) (by decide) (by decide)) (SA.name (.inl rfl) (.there rfl .nil))) ?_;exact SSs.stop (SS.ret (SE.meth (SE.name ⟨rfl,rfl⟩ rfl) (GM.dict e PySem.F.slot_dict_get rfl) .builtin (SG.some (SL.cons (SE.name ⟨rfl,rfl⟩ rfl) (SL.cons SE.str SL.nil))) ((SC.bS T e).eq (zi5 _ _ _))))
theorem zoQ {i:Str}(T:TW w)(hH:BdH H.length H):SCc pW w (KK w) Φ (d+1) (.ref 335) [.str i] H (.str (zdE i)) H:=
 SCc.drop (SCc.plain (f:=.ret (.str (zdE i))) (ns:= [q "word"]) T zj9 (len1 fun _=>rfl) (by exact List.nodup_cons.mpr ⟨List.not_mem_nil,List.nodup_nil⟩) (fun x hx=>by simp at hx;subst hx;exact .inl rfl) rfl fun L=>zoi T) rfl hH (.same .str)
theorem znx {tx:Str}{qs1 qs2:List Str}(T:TW w)(cB:Subs zbs tx (q "\r\n") 0 qs1)(cF:Subs zcE (Txt.join (q "") qs1) (q "..") 0 qs2)(dB:tx.cps.size≤100000)(dH:(Txt.join (q "") qs1).cps.size≤100000)(dK:JoinOk (q "") qs1=true)(dJ:JoinOk (q "") qs2=true):
  SSs pW w (KK w) Φ d (zan (topS 6)) (zaf (topS 6)) [(q "data",.str tx)] H (.ret (.str (Txt.join (q "") qs2))) [(q "data",.str tx)] H:=by
 refine SSs.stop (SS.ret (SE.meth (SE.glob T ⟨rfl,rfl⟩ rfl zie) (GM.pat patD zpj) .builtin (SG.some (SL.cons SE.str (SL.cons ?_ SL.nil))) (SC.sub patD (by decide+kernel) dH (by decide) cF dJ)));exact SE.meth (SE.glob T ⟨rfl,rfl⟩ rfl zid) (GM.pat patN zpi) .builtin (SG.some (SL.cons (SE.a7 T ⟨rfl,rfl⟩ rfl zoI fun _ _=>.str) (SL.cons (SE.name ⟨rfl,rfl⟩ rfl) SL.nil))) (SC.sub patN (by decide+kernel) dB (by decide) cB dK)
theorem znb {tx:Str}{qs1 qs2:List Str}(T:TW w)(cB:Subs zbs tx (q "\r\n") 0 qs1)(cF:Subs zcE (Txt.join (q "") qs1) (q "..") 0 qs2)(dB:tx.cps.size≤100000)(dH:(Txt.join (q "") qs1).cps.size≤100000)(dK:JoinOk (q "") qs1=true)(dJ:JoinOk (q "") qs2=true):
  SCc pW w (KK w) Φ (d+1) (.ref 55) [.str tx] H (.str (Txt.join (q "") qs2)) H:=
 SCc.plain (f:=.ret _) (ns:= [q "data"]) T zik (len1 fun _=>rfl) (by exact List.nodup_cons.mpr ⟨List.not_mem_nil,List.nodup_nil⟩) (fun x hx=>by simp at hx;subst hx;exact .inl rfl) rfl fun L=>znx T cB cF dB dH dK dJ
end
section
noncomputable def cat (qs:List Str):List Nat:=qs.flatMap fun s=>s.cps.toList
theorem zgm:cat []= []:=rfl
theorem zbi (s:Str)(qs:List Str):cat (s::qs)=s.cps.toList++cat qs:=by unfold cat;simp
theorem zfE (a b:List Str):cat (a++b)=cat a++cat b:=by unfold cat;simp
theorem zn5:∀qs:List Str,(qs.map (·.length)).sum=(cat qs).length:=by
 intro qs
 induction qs with
 | nil=>
  exact rfl
 | cons s r ih=>
  rw[List.map_cons,List.sum_cons,ih,zbi,List.length_append];rfl
theorem zfM {a b:Str}(h:a.cps.toList=b.cps.toList):a=b:=by
 cases a;cases b;simp only[Str.mk.injEq];exact Array.toList_inj.mp h
theorem ze2 (a b:Str):(a++b).cps.toList=a.cps.toList++b.cps.toList:=by show(a.cps++b.cps).toList=_;rw[Array.toList_append]
theorem zfy:∀qs:List Str,Str.join (q "") qs=⟨(cat qs).toArray⟩
 | []=>rfl
 | [x]=>by refine zfM ?_;show x.cps.toList=_;rw[zbi];simp[zgm]
 | x::y::r=>by
  refine zfM ?_;show(x++q "" ++Str.join (q "") (y::r)).cps.toList=_;rw[zfy (y::r),ze2,ze2,zbi];show x.cps.toList++ []++(cat (y::r))=_;rw[List.append_nil,zbi x]
theorem zdj (qs:List Str):Txt.join (q "") qs=⟨(cat qs).toArray⟩:=by
 show Builtin.Str.glued _ _=_;rw[StrLaws.glued_eq_join,zfy]
theorem zdG {qs:List Str}(h:(cat qs).length≤100000):JoinOk (q "") qs=true:=joinOk_of (by rw[zn5];have:(q "").length=0:=rfl;rw[this];exact leK ‹_› rfl)
theorem zdm (l:List Nat)(j:Nat):(l.toArray).getD j 0=l.getD j 0:=by simp[Array.getD_eq_getD_getElem?]
theorem zdC (l:List Nat)(b e:Nat):(zd5 ⟨l.toArray⟩ b e).cps.toList=(l.drop b).take (e - b):=by
 unfold zd5;show(l.toArray.extract b e).toList=_;rw[Array.toList_extract]
 first | done | rfl
noncomputable def zcg:List (List Nat×Bool)→List Nat
 | []=> []
 | (r,b)::rest=>r++(if b then [13,10] else [10])++zcg rest
noncomputable def outN:List (List Nat×Bool)→List Nat
 | []=> []
 | (r,b)::rest=>r++ [13,10]++outN rest
theorem zgJ:zcg []= []:=rfl
theorem zo8:∀(rows:List (List Nat×Bool)) (P:List Nat),(∀rb∈rows,10∉rb.1∧13∉rb.1)→(P++zcg rows).length≤100000 →
  ∃qs,Subs zbs ⟨(P++zcg rows).toArray⟩ (q "\r\n") P.length qs∧cat qs=outN rows:=by
 intro rows
 induction rows with
 | nil=>
  rintro P _ hz
  refine⟨_,.stop ?_,?_⟩
  ·have:=zj2 (text:=(P++zcg []).toArray) (k:=P.length) (by simp) (fun j a b=>by simp[zgJ] at b;exact noL ‹_› ‹_›)
   exact this.mono (by simp at hz ⊢;lia)
  ·rw[if_neg (by simp[zgJ])];rfl
 | cons x9 rest ih=>
  rintro P hf hz
  obtain⟨r,b⟩:=x9;obtain⟨h10,h13⟩:=hf (r,b) (by exact List.mem_cons_self)
  have hrest:=fun x hx=>hf x (List.mem_cons_of_mem _ hx)
  generalize hsep:(if b=true then [13,10] else [10]:List Nat)=sep
  have hL:P++zcg ((r,b)::rest)=P++r++sep++zcg rest:=by show P++(r++(if b=true then [13,10] else [10])++zcg rest)=_;rw[hsep];simp
  have hL':P++zcg ((r,b)::rest)=(P++r++sep)++zcg rest:=hL;obtain⟨qs,hq,hc⟩:=ih (P++r++sep) hrest (by rw[←hL'];exact hz);rw[←hL'] at hq;generalize P++zcg ((r,b)::rest)=T at hL hz hq ⊢;generalize zcg rest=R at hL
  have hno:∀j,P.length≤j→j < P.length+r.length→nlN T.toArray j=false:=fun j a c=>by
   have e:T.toArray.getD j 0=r[j - P.length]'(by lia):=by
    rw[zdm,hL,List.append_assoc,List.append_assoc,List.getD_eq_getElem?_getD,List.getElem?_append_right a,List.getElem?_append_left (by lia),List.getElem?_eq_getElem (by lia)];rfl
   unfold nlN;rw[e];have hm:r[j - P.length]'(by lia)∈r:=List.getElem_mem _
   have n1:r[j - P.length]'(by lia)≠10:=fun z=>h10 (z▸hm)
   have n2:r[j - P.length]'(by lia)≠13:=fun z=>h13 (z▸hm)
   simp[n1,n2]
  have at_:∀i,T.toArray.getD (P.length+r.length+i) 0=(sep++R).getD i 0:=fun i=>by
   rw[zdm,hL,List.append_assoc,List.getD_eq_getElem?_getD,List.getElem?_append_right (by simp),List.getD_eq_getElem?_getD]
   congr 2;simp
   try lia
  have sz:T.toArray.size=P.length+r.length+sep.length+R.length:=by rw[hL];simp;try lia
  have hz':P.length+r.length+sep.length+R.length≤100000:=by rw[hL] at hz;simpa [Nat.add_assoc] using hz
  refine⟨_,.hit (b:=P.length+r.length) (e:=(P++r++sep).length) ?_ (by exact Nat.le_add_right _ _) ?_ ?_ hq,?_⟩
  ·have z:=at_ 0
   cases b with
   | true=>
    simp at hsep;subst hsep
    have:=zj3 (text:=T.toArray) (k:=P.length) (b:=P.length+r.length) (by exact Nat.le_add_right _ _) (by rw[sz];simp;exact Nat.le_add_right _ _) z (at_ 1) hno
    have e2:(P++r++ [13,10]).length=P.length+r.length+2:=by simp;try (exact(Nat.add_assoc _ _ _).symm)
    rw[e2];exact this.mono (by rw[sz];simp;simp at hz';lia)
   | false=>
    simp at hsep;subst hsep
    have:=zmP (text:=T.toArray) (k:=P.length) (b:=P.length+r.length) (by exact Nat.le_add_right _ _) (by rw[sz];simp;exact Nat.le_add_right _ _) z hno
    have e2:(P++r++ [10]).length=P.length+r.length+1:=by simp;try (exact(Nat.add_assoc _ _ _).symm)
    rw[e2];exact this.mono (by rw[sz];simp;simp at hz';lia)
  ·cases b<;>simp at hsep<;>subst hsep<;>simp<;>lia
  ·rw[show(⟨T.toArray⟩:Str).cps.size=_ from sz];simp;lia
  ·rw[zfE,zbi,hc]
   have hp:cat (if P.length < P.length+r.length then [zd5 ⟨T.toArray⟩ P.length (P.length+r.length)] else [])=r:=by
    split
    ·rw[zbi,zdC,hL]
     simp[zgm]
    ·rename_i h
     have:r= []:=List.length_eq_zero_iff.mp (by lia)
     rw[this];rfl
   rw[hp];show r++([13,10]++outN rest)=r++ [13,10]++outN rest
   simp
noncomputable def zb2:List (List Nat)→List Nat
 | []=> []
 | r::rest=>r++ [13,10]++zb2 rest
noncomputable def zcq (r:List Nat):List Nat:=if r.head? =some 46 then 46::r else r
noncomputable def outD:List (List Nat)→List Nat
 | []=> []
 | r::rest=>zcq r++ [13,10]++outD rest
theorem zeq:zb2 []= []:=rfl
theorem zmw:outD []= []:=rfl
theorem zo9:∀(rows:List (List Nat)) (P:List Nat) (k:Nat),k≤P.length→(P= []∨P.getLast? =some 10)→(∀r∈rows,10∉r)→(P++zb2 rows).length≤100000 →
  (∀j,k≤j→j < P.length→hitD (P++zb2 rows).toArray j=false)→∃qs,Subs zcE ⟨(P++zb2 rows).toArray⟩ (q "..") k qs∧cat qs=P.drop k++outD rows:=by
 intro rows
 induction rows with
 | nil=>
  rintro P k hk hl hf hz hno
  refine⟨_,.stop ?_,?_⟩
  ·have:=zj5 (text:=(P++zb2 []).toArray) (k:=k) (by simp;assumption) (fun j a b=>hno j a (by simpa [zeq] using b))
   exact this.mono (by simp at hz ⊢;lia)
  ·have hs:(P++zb2 []).toArray.size=P.length:=by simp[zeq]
   show cat (if k < (P++zb2 []).toArray.size then [zd5 ⟨(P++zb2 []).toArray⟩ k (P++zb2 []).toArray.size] else [])=_;rw[hs]
   split
   ·rw[zbi,zdC]
    simp[zgm,zeq,zmw];rw[List.take_of_length_le (by simp)]
   ·have:P.drop k= []:=List.drop_eq_nil_of_le (by exact Nat.not_lt.mp ‹_›)
    rw[this];rfl
 | cons r rest ih9=>
  rintro P k hk hl hf hz hno
  have h10:=hf r (by exact List.mem_cons_self)
  have hrest:=fun x hx=>hf x (List.mem_cons_of_mem _ hx)
  have hL:P++zb2 (r::rest)=(P++r++ [13,10])++zb2 rest:=by show P++(r++ [13,10]++zb2 rest)=_;simp
  have ih:=ih9 (P++r++ [13,10]);rw[←hL] at ih;generalize P++zb2 (r::rest)=T at hL hz hno ih ⊢;generalize zb2 rest=R at hL
  have hat:∀i,T.toArray.getD (P.length+i) 0=(r++([13,10]++R)).getD i 0:=fun i=>by
   rw[zdm,hL,List.append_assoc,List.append_assoc,List.getD_eq_getElem?_getD,List.getElem?_append_right (by exact Nat.le_add_right _ _),List.getD_eq_getElem?_getD];rw[Nat.add_sub_cancel_left]
  have sz:T.toArray.size=P.length+r.length+2+R.length:=by rw[hL];show(P++r++ [13,10]++R).length=_;rw[List.length_append,List.length_append,List.length_append];rfl
  have hb:bol T.toArray P.length=true:=by
   unfold bol
   rcases hl with rfl | hl
   ·simp
   ·have hne:P≠ []:=by rintro rfl;exact nsE hl
    have hpos:=List.length_pos_iff.mpr hne
    have:T.toArray.getD (P.length - 1) 0=10:=by
     rw[zdm,List.getD_eq_getElem?_getD,hL,List.append_assoc,List.append_assoc,List.getElem?_append_left (by lia),←List.getLast?_eq_getElem?,hl];rfl
    rw[this];simp
  have hj:(P++r++ [13,10]).length=P.length+r.length+2:=by rw[List.length_append,List.length_append];rfl
  have hmid:∀j,P.length < j→j < (P++r++ [13,10]).length→hitD T.toArray j=false:=fun j a b=>by
   rw[hj] at b;obtain⟨i,rfl⟩:=Nat.exists_eq_add_of_lt a;have hi:i≤r.length:=Nat.le_of_add_le_add_left (a:=P.length) (Nat.le_of_lt_succ (Nat.lt_of_succ_lt_succ b))
   have hc:T.toArray.getD (P.length+i) 0≠10:=by
    rw[hat i,List.getD_eq_getElem?_getD]
    by_cases h:i < r.length
    ·rw[List.getElem?_append_left h,List.getElem?_eq_getElem h]
     exact fun z=>h10 (by have hm:r[i]∈r:=List.getElem_mem h;rw[show r[i]=10 from z] at hm;exact hm)
    ·rw[Nat.le_antisymm hi (Nat.not_lt.mp h),List.getElem?_append_right (Nat.le_refl _),Nat.sub_self]
     exact fun z=>absurd (show(13:Nat)=10 from z) (by decide)
   unfold hitD bol;have h0:(P.length+i+1==0)=false:=rfl;have hc':(T.toArray.getD (P.length+i+1 - 1) 0==10)=false:=beq_eq_false_iff_ne.mpr hc
   rw[h0,hc'];rfl
  by_cases hd:r.head? =some 46
  ·obtain⟨r',rfl⟩:∃r',r=46::r':=by cases r with | nil=>exact nsE hd | cons a t=>obtain rfl:=Option.some.inj hd;exact⟨t,rfl⟩
   have hh:hitD T.toArray P.length=true:=by
    unfold hitD;rw[hb];have:=hat 0;rw[Nat.add_zero] at this
    rw[this,sz];simp;lia
   obtain⟨qs,hq,hc⟩:=ih (P.length+1) (by simp;try lia) (.inr (by rw[show P++(46::r')++ [13,10]=(P++(46::r')++ [13])++ [10] by exact app2.symm,List.getLast?_concat])) hrest hz (fun j a b=>hmid j ‹_› b);refine⟨_,.hit (b:=P.length) (e:=P.length+1) ?_ hk (by exact Nat.le_refl _) ?_ hq,?_⟩
   ·have:=zj4 (text:=T.toArray) hk hh hno
    refine this.mono ?_
    have hz2:T.toArray.size≤100000:=by simpa using hz
    have:(2:Nat) ^ 60=1152921504606846976:=by decide
    rw[this];lia
   ·rw[sz];exact Nat.lt_of_lt_of_le (Nat.lt_succ_self _) (Nat.le_trans (Nat.succ_le_succ (Nat.le_add_right _ _)) (Nat.le_trans (Nat.le_succ _) (Nat.le_add_right _ _)))
   ·rw[zfE,zbi,hc]
    have hp:cat (if k < P.length then [zd5 ⟨T.toArray⟩ k P.length] else [])=P.drop k:=by
     split
     ·rw[zbi,zdC,hL,List.append_assoc,List.append_assoc,List.drop_append_of_le_length hk,List.take_append_of_le_length (by simp),List.take_of_length_le (by simp)]
      simp[zgm]
     ·have:P.drop k= []:=List.drop_eq_nil_of_le (by exact Nat.not_lt.mp ‹_›)
      rw[this];rfl
    rw[hp]
    have hdr:(P++(46::r')++ [13,10]).drop (P.length+1)=r'++ [13,10]:=by
     rw[List.append_assoc,List.drop_append];simp
    rw[hdr];show P.drop k++([46,46]++_)=P.drop k++(zcq (46::r')++ [13,10]++outD rest);simp[zcq]
  ·have hh:hitD T.toArray P.length=false:=by
    unfold hitD;have:=hat 0;rw[Nat.add_zero] at this;rw[this]
    cases r with
    | nil=>simp
    | cons a t=>
     have:a≠46:=fun z=>hd (by rw[z];rfl)
     simp[this]
   obtain⟨qs,hq,hc⟩:=ih k (by simp;try (exact Nat.le_trans ‹_› (Nat.le_add_right _ _))) (.inr (by rw[show P++r++ [13,10]=(P++r++ [13])++ [10] by exact app2.symm,List.getLast?_concat])) hrest hz (fun j a b=>by
    by_cases h1:j < P.length
    ·exact hno j a h1
    ·by_cases h2:j=P.length
     ·rw[h2];exact hh
     ·exact hmid j (by lia) b)
   refine⟨qs,hq,?_⟩;rw[hc,List.append_assoc P,List.drop_append_of_le_length hk];show _=P.drop k++(zcq r++ [13,10]++outD rest);unfold zcq;rw[if_neg hd]
   simp
end
section
variable {w:World}{Φ:Fm}{d:Nat}{H H':List Cell}{σ':List (Str×AV)}
inductive FreeOf (scope:Scope)(σ:List (Str×AV)):List (Str×AV)→Prop
 | nil:FreeOf scope σ []
 | cons {k v r} :scope.names.lookup k=some .free→σ.lookup k=some v→FreeOf scope σ r→FreeOf scope σ ((k,v)::r)
theorem FreeOf.get {scope:Scope}{σ:List (Str×AV)} :∀{σc:List (Str×AV)},FreeOf scope σ σc→∀x v,σc.lookup x=some v→scope.names.lookup x=some .free∧σ.lookup x=some v
 | _,.nil,_,_,e=>by exact nsE e
 | _,.cons (k:=k) a b c,x,v,e=>by
  rw[List.lookup_cons] at e
  cases z:x==k with
  | true=>rw[z] at e;obtain rfl:=Option.some.inj e;rw[beq_iff_eq.mp z];exact⟨a,b⟩
  | false=>rw[z] at e;exact c.get x v e
theorem zaS {sc scope:Scope}{σ σc:List (Str×AV)}(h1:scope.kind= .function)(h2:(scope.names.map (·.1)).Nodup)(h3:(scope.names.all fun x=>x.2 != .free|| (sc.names.lookup x.1==some .cell|| sc.names.lookup x.1==some .free))=true)(h4:FreeOf scope σ σc):CompOk sc scope σ σc:=
 ⟨⟨h1,h2,fun x hx hf=>by
  have:=List.all_eq_true.mp h3 x hx;rw[hf] at this
  simpa using this⟩,h4.get⟩
noncomputable def lset (l:List (Str×Int))(k:Str)(v:Int):List (Str×Int):=if l.any (fun kv=>kv.1=k) then l.map (fun kv=>if kv.1=k then (kv.1,v) else kv) else l++ [(k,v)]
noncomputable def lget (l:List (Str×Int))(k:Str):Option Int:=(l.find? fun kv=>kv.1=k).map (·.2)
noncomputable def lev (l:List (Str×Int)):List (Str×AV):=l.map fun kv=>(kv.1,.int kv.2)
theorem zdp (l:List (Str×Int))(k:Str)(v:Int):dset (lev l) k (.int v)=lev (lset l k v):=by
 unfold dset lset lev;rw[List.any_map];have:(l.any ((fun kv:Str×AV=>decide (kv.1=k)) ∘ fun kv=>(kv.1,AV.int kv.2)))=l.any (fun kv=>decide (kv.1=k)):=rfl;rw[this]
 split
 ·rw[List.map_map,List.map_map]
  congr 1;funext kv
  simp only[Function.comp]
  split<;>rfl
 ·simp
theorem zcC (l:List (Str×Int))(k:Str):dget (lev l) k=(lget l k).map .int:=by
 unfold dget lget lev;rw[List.find?_map,Option.map_map,Option.map_map];rfl
theorem zbl (l:List (Str×Int))(k:Str)(v:Int)(j:Str):lget (lset l k v) j=if j=k then some v else lget l j:=by
 have h:=zhk (lev l) k (.int v) j;rw[zdp,zcC,zcC] at h
 split
 ·rename_i z;rw[if_pos z] at h
  cases q:lget (lset l k v) j with
  | none=>rw[q] at h;exact nsE h
  | some u=>rw[q] at h;cases h;rfl
 ·rename_i z;rw[if_neg z] at h
  cases q:lget (lset l k v) j<;>cases q':lget l j<;>rw[q,q'] at h<;>first | rfl | (cases h;rfl) | cases h
theorem zf3 (l:List (Str×Int))(k:Str)(v:Int):(lset l k v).length≤l.length+1:=by unfold lset;split<;>simp
theorem ze5 {n:Nat} :∀{l:List (Str×Int)},Bde n (lev l)
 | []=>.nil
 | _::_=>.cons .int ze5
noncomputable def zaX (e:Str×Str):AV:=.lst [.str e.1,.str e.2]
noncomputable def zab (E:List (Str×Str)):List AV:=E.map zaX
noncomputable def zdo (v:AV):List AV:=match v with | .lst xs=>xs | _=> []
theorem zf0 {e:Str×Str}{u:AV}(h:u∈zdo (zaX e)):u= .str e.1∨u= .str e.2:=by
 rcases List.mem_cons.mp h with z | z
 ·exact .inl z
 ·exact .inr (List.mem_singleton.mp z)
noncomputable def zam:AV→Str | .str s=>s | _=>q ""
noncomputable def zeI (E:List (Str×Str)):List (Str×Int):=E.foldl (fun a e=>lset (lset a e.1 0) e.2 0) []
noncomputable def relax (l:List (Str×Int))(e:Str×Str):List (Str×Int):=
 let a:=(lget l e.1).getD 0
 let b:=(lget l e.2).getD 0+1
 lset l e.1 (if b > a then b else a)
noncomputable def zcV (E:List (Str×Str))(l:List (Str×Int)):List (Str×Int):=E.foldl relax l
noncomputable def runL (E:List (Str×Str))(n:Nat):List (Str×Int):=(List.range n).foldl (fun l _=>zcV E l) (zeI E)
noncomputable def zaI (l:List (Str×Int))(k:Int):List Str:=srt ((l.map (·.1)).filter fun s=>lget l s==some k)
noncomputable def zbT (E:List (Str×Str)):List (List Str):=((List.range 5).map fun k:Nat=>zaI (runL E 5) k).filter fun r=> !r.isEmpty
noncomputable def zdB (E:List (Str×Str)):Bool:= !(((runL E 5).map (·.1)).filter fun s=>decide (4 < (lget (runL E 5) s).getD 0)).isEmpty
noncomputable def Has (E:List (Str×Str))(l:List (Str×Int)):Prop:=∀e∈E,(∃a,lget l e.1=some a)∧∃b,lget l e.2=some b
theorem Has.lset {E:List (Str×Str)}{l:List (Str×Int)}(h:Has E l)(k:Str)(v:Int):Has E (lset l k v):=fun e he=>by
 obtain⟨⟨a,ha⟩,b,hb⟩:=h e he;refine⟨?_,?_⟩
 ·rw[zbl];split<;>exact⟨_,by first | rfl | assumption⟩
 ·rw[zbl];split<;>exact⟨_,by first | rfl | assumption⟩
theorem Has.relax {E:List (Str×Str)}{l:List (Str×Int)}(h:Has E l)(e:Str×Str):Has E (relax l e):=h.lset _ _
theorem Has.pass {E F:List (Str×Str)} :∀{l:List (Str×Int)},Has E l→Has E (zcV F l):=by
 unfold zcV
 induction F with
 | nil=>intro l h;exact h
 | cons e r ih=>intro l h;exact ih (h.relax e)
theorem zmK (E:List (Str×Str)):Has E (zeI E):=by
 have mono:∀(F:List (Str×Str)) (l:List (Str×Int)) (k:Str) (a:Int),lget l k=some a→∃b,lget (F.foldl (fun a e=>lset (lset a e.1 0) e.2 0) l) k=some b:=by
  intro F
  induction F with
  | nil=>intro l k a h;exact⟨a,h⟩
  | cons e r ih=>
   intro l k a h
   have:∃b,lget (lset (lset l e.1 0) e.2 0) k=some b:=by
    rw[zbl,zbl]
    split
    ·exact⟨_,rfl⟩
    ·split
     ·exact⟨_,rfl⟩
     ·exact⟨a,h⟩
   obtain⟨b,hb⟩:=this;exact ih _ k b hb
 have all:∀(F:List (Str×Str)) (l:List (Str×Int)),Has F (F.foldl (fun a e=>lset (lset a e.1 0) e.2 0) l):=by
  intro F
  induction F with
  | nil=>intro l e he;exact mnE he
  | cons e r ih=>
   intro l f hf
   rcases List.mem_cons.mp hf with rfl | hf
   ·refine⟨mono r _ _ 0 ?_,mono r _ _ 0 ?_⟩
    ·rw[zbl,zbl];split<;>simp
    ·rw[zbl,if_pos rfl]
   ·exact ih _ f hf
 exact all E []
theorem zlv (E:List (Str×Str)):∀n,Has E (runL E n):=by
 intro n
 induction n with
 | zero=>
  exact zmK E
 | succ n ih=>
  unfold runL;rw[List.range_succ,List.foldl_append];exact(ih).pass
theorem zda (E:List (Str×Str))(n:Nat):runL E (n+1)=zcV E (runL E n):=by unfold runL;rw[List.range_succ,List.foldl_append];rfl
theorem zgY {l:List (Str×Int)}{k:Str}{v a:Int}(h:lget l k=some a):(lset l k v).length=l.length:=by
 unfold lset;rw[if_pos,List.length_map];unfold lget at h
 cases z:l.find? (fun kv=>decide (kv.1=k)) with
 | none=>rw[z] at h;exact nsE h
 | some kv=>exact List.any_eq_true.mpr ⟨kv,List.mem_of_find?_eq_some z,by have:=List.find?_some z;simpa using this⟩
theorem ziQ {E:List (Str×Str)} :∀(F:List (Str×Str)) {l:List (Str×Int)},(∀e∈F,e∈E)→Has E l→(zcV F l).length=l.length:=by
 intro F
 induction F with
 | nil=>
  rintro _ _ _
  exact rfl
 | cons e r ih=>
  rintro l hs h
  show(zcV r (relax l e)).length=_;rw[ih (fun f hf=>hs f (List.mem_cons_of_mem _ hf)) (h.relax e)];obtain⟨⟨a,ha⟩,_⟩:=h e (hs e List.mem_cons_self);exact zgY ha
theorem zmI (E:List (Str×Str)):(zeI E).length≤2 * E.length:=by
 have:∀(F:List (Str×Str)) (l:List (Str×Int)),(F.foldl (fun a e=>lset (lset a e.1 0) e.2 0) l).length≤l.length+2 * F.length:=by
  intro F
  induction F with
  | nil=>intro l;simp
  | cons e r ih=>
   intro l;rw[List.foldl_cons,List.length_cons];have h1:=ih (lset (lset l e.1 0) e.2 0);have h2:=zf3 (lset l e.1 0) e.2 0;have h3:=zf3 l e.1 0
   lia
 have:=this E []
 rw[List.length_nil,Nat.zero_add] at this;exact this
theorem zkX (E:List (Str×Str)):∀n,(runL E n).length≤2 * E.length:=by
 intro n
 induction n with
 | zero=>
  exact zmI E
 | succ n ih=>
  rw[zda,ziQ E (fun _ h=>h) (zlv E n)];exact ih
theorem SE.bL {w:World}{pg:Program}{K:Frag}{sc scope:Scope}{σ:List (Str×AV)}{E:List (Str×Str)}{k v target iter it2 target2:Expr}{pos:Pos}{c6 dk:Str}(hc:Φ.calm=Bool.true)(hE:E.length≤20)(hH:BdH H.length H)(hσ:Bde H.length σ)
  (a:SE pg w K Φ d sc iter σ H (.lst (zab E)) σ H) (ok:CompOk sc scope σ [])
  (step1:∀v H',SA pg w K Φ d scope target v [] H' [(c6,v)] H') (step2:∀x H',SE pg w K Φ d scope it2 [(c6,x)] H' x [(c6,x)] H') (step3:∀x y H',SA pg w K Φ d scope target2 y [(c6,x)] H' [(c6,x),(dk,y)] H')
  (step4:∀x y H',SE pg w K Φ d scope k [(c6,x),(dk,y)] H' y [(c6,x),(dk,y)] H') (step5:∀x y H',SE pg w K Φ d scope v [(c6,x),(dk,y)] H' (.int 0) [(c6,x),(dk,y)] H')
  (hs:∀env x,foldedSetIterable iter env x=pure x:=by intro _ _;rfl) (cV:∀env x,foldedSetIterable it2 env x=pure x:=by intro _ _;rfl):
  SE pg w K Φ d sc (.DictComp k v [⟨target,iter,[],0⟩,⟨target2,it2,[],0⟩] scope pos) σ H (.obj (H.length+1)) σ (H++ [.junk,.dct (lev (zeI E)) Option.none]):=by
 have bdr:Bd H.length (.lst (zab E)):=.lst (Bds.of fun x hx=>by
  obtain⟨e,_,rfl⟩:=List.mem_map.mp hx;exact .lst (.cons .str (.cons .str .nil)))
 have S:Src K H (.lst (zab E)) (zab E) (fun p=>.iter (.lst (zab E)) p):=.list .lst;have loop:=zkU (pg:=pg) (w:=w) (K:=K) (Φ:=Φ) (d:=d) (sc:=scope) (σc:= []) (accC:=fun es=>Cell.dct es Option.none) (emit:=zej k v) hc .dct (zhL (k:=k) (v:=v) (iter:=iter) (target2:=target2) (it2:=it2) (scope:=scope) (pos:=pos)) zhK rfl S bdr hH .nil (fun n es=>(∃l,es=lev l∧l.length≤n)) (fun n es h=>by obtain⟨l,rfl,_⟩:=h;exact .dct ze5) zdo (fun v u a=>dset a (zam u) (.int 0))
  (fun v hv=>by obtain⟨e,_,rfl⟩:=List.mem_map.mp hv;rfl)
  (fun p v es hv hI bd=>by
   have hp:p < (zab E).length:=(List.getElem?_eq_some_iff.mp hv).1
   have hp':p < E.length:=by simpa [zab] using hp
   obtain⟨e,_,rfl⟩:=List.mem_map.mp (List.mem_of_getElem? hv);refine⟨[(c6,zaX e)],zaX e,fun p=>.iter (zaX e) p,step1 _ _,.cons (.lst (.cons .str (.cons .str .nil))) .nil,fun y u z=>(nomatch z),step2 _ _,.lst (.cons .str (.cons .str .nil)),fun _=>.list .lst,fun qq u es' hu hI' bd'=> ?_⟩
   obtain⟨s,rfl⟩:∃s,u= .str s:=by
    rcases zf0 (List.mem_of_getElem? hu) with rfl | rfl<;>exact⟨_,rfl⟩
   have hq:qq < 2:=(List.getElem?_eq_some_iff.mp hu).1;obtain⟨l,rfl,hl⟩:=hI';refine⟨⟨lset l s 0,zdp l s 0,by have:=zf3 l s 0;solve_by_elim (maxDepth:=5) [leK,slK,Nat.le_trans,Nat.lt_of_lt_of_le,Nat.lt_of_le_of_lt,Nat.le_of_lt,Nat.le_add_right,Nat.succ_le_succ,Nat.le_succ]⟩,[(c6,zaX e),(dk,.str s)],step3 _ _ _,fun y u z=>zah (τ:= [(dk,AV.str s)]) z,?_⟩;have:=SEm.dict (j:=H.length+1) (es:=lev l) (ep:=Option.none) (step4 (zaX e) (.str s) (H++ [Cell.iter (.lst (zab E)) (p+1),Cell.dct (lev l) Option.none,Cell.iter (zaX e) (qq+1)])) (step5 (zaX e) (.str s) _) (by simp) (by rw[lev,List.length_map,sizeLine_eq];lia)
   have hs':(H++ [Cell.iter (.lst (zab E)) (p+1),Cell.dct (lev l) Option.none,Cell.iter (zaX e) (qq+1)]).set (H.length+1) (.dct (dset (lev l) s (.int 0)) Option.none)=H++ [Cell.iter (.lst (zab E)) (p+1),Cell.dct (dset (lev l) s (.int 0)) Option.none,Cell.iter (zaX e) (qq+1)]:=by simp
   rw[hs'] at this
   exact this) cV (dF:= []) ⟨[],rfl,by exact Nat.le_refl _⟩
 have fold:∀(F:List (Str×Str)) (l:List (Str×Int)),(zab F).foldl (fun a v=>(zdo v).foldl (fun a u=>dset a (zam u) (.int 0)) a) (lev l)=lev (F.foldl (fun a e=>lset (lset a e.1 0) e.2 0) l):=by
  intro F
  induction F with
  | nil=>intro l;rfl
  | cons e r ih=>
   intro l;show(zab r).foldl _ (dset (dset (lev l) e.1 (.int 0)) e.2 (.int 0))=_;rw[zdp,zdp];exact ih _
 rw[show([]:List (Str×AV))=lev [] from rfl,fold] at loop
 have e2:H++ [Cell.iter (.lst (zab E)) 0]++ [Cell.dct [] Option.none]=H++ [Cell.iter (.lst (zab E)) 0,Cell.dct (lev []) Option.none]:=by exact app2
 have e3:(H++ [Cell.iter (.lst (zab E)) 0]).length=H.length+1:=by exact zcA
 have:=SE.bz (pg:=pg) (w:=w) (K:=K) (Φ:=Φ) (d:=d) (cq:=H++ [Cell.iter (.lst (zab E)) 0]) (i:=H.length) (k:=k) (v':=v) a S.it ⟨ok.cs,.dct,rfl,[],ok.fr,Src.self (p:=0) S (by rw[e2];simp),by rw[e2,e3];exact loop⟩ hs;rw[e3] at this;exact this
theorem zeQ (p:Str→Bool):∀ss:List Str,(txts ss).filterMap (fun v=>if p (zam v)=true then some v else none)=txts (ss.filter p):=by
 intro ss
 induction ss with
 | nil=>
  exact rfl
 | cons s r ih9=>
  have ih:=ih9;show List.filterMap _ (AV.str s::txts r)=_;rw[List.filterMap_cons,List.filter_cons]
  by_cases h:p s=true
  ·rw[if_pos (show p (zam (AV.str s))=true from h),if_pos h];exact congrArg (AV.str s:: ·) ih
  ·rw[if_neg (show ¬ p (zam (AV.str s))=true from h),if_neg h];exact ih
theorem zmG (l:List (Str×Int)):(lev l).map (fun kv=>AV.str kv.1)=txts (l.map (·.1)):=by unfold lev txts;rw[List.map_map,List.map_map];rfl
theorem zi1 {l:List (Str×Int)}{s:Str}(h:s∈l.map (·.1)):∃a,lget l s=some a:=by
 obtain⟨kv,hkv,rfl⟩:=List.mem_map.mp h;unfold lget
 cases z:l.find? (fun k=>decide (k.1=kv.1)) with
 | none=>have:=List.find?_eq_none.mp z kv hkv;simp at this
 | some u=>exact⟨_,rfl⟩
theorem zas {n:Nat}(E:List (Str×Str)):Bds n (zab E):=Bds.of fun x hx=>by
 obtain⟨e,_,rfl⟩:=List.mem_map.mp hx;exact .lst (.cons .str (.cons .str .nil))
theorem zoh {E:List (Str×Str)}{l:List (Str×Int)}{C:Cell}{k:Int}{o:Nat}{H0:List Cell}(T:TW w)(hc:Φ.calm=true)(hE:E.length≤20)(hl:Has E l)(hz:l.length≤100)(ho:o=H0.length)(hH:BdH (H0.length+2) (H0++ [.dct (lev l) none]++ [C])):
  SSs pW w (KK w) Φ d (zan (topS 32)) (stB (nthS 1 (zaf (topS 32)))) [(q "rows",.lst (zab E)),(q "levels",.obj o),(q "turn",.int k)] (H0++ [.dct (lev l) none]++ [C]) .next
   [(q "rows",.lst (zab E)),(q "levels",.obj o),(q "turn",.int k)] (H0++ [.dct (lev (zcV E l)) none]++ [C]):=by
 subst ho;have lenR:(zab E).length=E.length:=List.length_map ..
 have hlen:(H0++ [Cell.dct (lev l) none]++ [C]).length=H0.length+2:=by exact zb5
 have bdAll:∀l':List (Str×Int),BdH (H0.length+2) (H0++ [.dct (lev l') none]++ [C]):=fun l'=>by
  have a:BdH (H0.length+2) H0:=by
   have:∀{n:Nat} {A B:List Cell},BdH n (A++B)→BdH n A:=fun {n A B} =>by
    induction A with
    | nil=>intro _;exact .nil
    | cons c A ih=>intro h;cases h with | cons x y=>exact .cons x (ih y)
   exact this (by rw[List.append_assoc] at hH;exact hH)
  have cC:BdC (H0.length+2) C:=hH.get (i:=H0.length+1) (by exact zg5);rw[List.append_assoc];exact a.append (.cons (.dct ze5) (.cons cC .nil))
 have all:∀m,Has E ((E.take m).foldl relax l)∧((E.take m).foldl relax l).length=l.length:=fun m=>⟨Has.pass hl (F:=E.take m),ziQ (E.take m) (fun e he=>List.mem_of_mem_take he) hl⟩
 have fin:(E.take (zab E).length).foldl relax l=zcV E l:=by rw[lenR,List.take_length];rfl
 rw[←fin]
 refine SSs.cons (SS.forL (xs:=zab E) (x:=.lst (zab E)) (c:=fun p=>.iter (.lst (zab E)) p) hc (SE.name ⟨rfl,rfl⟩ rfl) (.lst (zas E))
   (st:=fun _=> [(q "rows",.lst (zab E)),(q "levels",.obj H0.length),(q "turn",.int k)]) (hp:=fun m=>H0++ [.dct (lev ((E.take m).foldl relax l)) none]++ [C]) rfl rfl (fun m _=>by simp) (fun m _=>by rw[hlen];exact bdAll _) (fun m _=>.cons (.lst (zas E)) (.cons (.obj (by rw[hlen];exact Nat.le_succ _)) (.cons .int .nil))) (fun m _=>.list .lst) (fun m v hv bd=> ?step)) SSs.nil
 case step=>
  unfold zab at hv;rw[List.getElem?_map] at hv
  cases he:E[m]? with
  | none=>rw[he] at hv;exact nsE hv
  | some e=>
   rw[he] at hv;obtain rfl:=Option.some.inj hv
   obtain⟨hA,hLen⟩:=all m;have hem:=List.mem_of_getElem? he;obtain⟨⟨a,ha⟩,b,hb⟩:=hA e hem;generalize hl':(E.take m).foldl relax l=l' at hA hLen ha hb
   have hstep:(E.take (m+1)).foldl relax l=relax l' e:=by rw[List.take_add_one,he,List.foldl_append,hl'];rfl
   have e0:∀C',(H0++ [Cell.dct (lev l') none]++ [C]++ [C'])[H0.length]? =some (.dct (lev l') none):=fun C'=>by simp
   refine⟨[(q "rows",.lst (zab E)),(q "levels",.obj H0.length),(q "turn",.int k),(q "file",.str e.1),(q "need",.str e.2)],.next,[],SA.tuple hc (.lst .lst) (SAs.cons (SA.name (.inl rfl) (.there rfl (.there rfl (.there rfl .nil)))) (SAs.cons (SA.name (.inl rfl) (.there rfl (.there rfl (.there rfl (.there rfl .nil))))) SAs.nil)),?_,.inl rfl⟩;simp only[List.append_nil,hl',hstep]
   have hr:relax l' e=lset l' e.1 (if b+1 > a then b+1 else a):=by unfold relax;rw[ha,hb];rfl
   rw[hr]
   refine SSs.weaken (σ1:= [(q "rows",.lst (zab E)),(q "levels",.obj H0.length),(q "turn",.int k),(q "file",.str e.1),(q "need",.str e.2)]) (SSs.cons (cn:=H0++ [Cell.dct (lev (lset l' e.1 (if b+1 > a then b+1 else a))) none]++ [C]++ [Cell.iter (.lst (zab E)) (m+1)]) ?_ SSs.nil) fun y v e'=>zah (τ:= [(q "file",AV.str e.1),(q "need",AV.str e.2)]) e'
   have hs:(H0++ [Cell.dct (lev l') none]++ [C]++ [Cell.iter (.lst (zab E)) (m+1)]).set H0.length (.dct (dset (lev l') e.1 (.int (if b+1 > a then b+1 else a))) none)=H0++ [Cell.dct (lev (lset l' e.1 (if b+1 > a then b+1 else a))) none]++ [C]++ [Cell.iter (.lst (zab E)) (m+1)]:=by rw[zdp];simp
   rw[←hs];exact SS.assign (fun _ _ _=>rfl) (SE.call (SE.bltn T ⟨rfl,rfl⟩ rfl zpe zpn) .builtin (SG.some (SL.cons (SE.dictItem (SE.name ⟨rfl,rfl⟩ rfl) (SE.name ⟨rfl,rfl⟩ rfl) (e0 _) (by rw[zcC,ha];rfl)) (SL.cons (SE.bin (SE.dictItem (SE.name ⟨rfl,rfl⟩ rfl) (SE.name ⟨rfl,rfl⟩ rfl) (e0 _) (by rw[zcC,hb];rfl)) SE.int SB.addInt) SL.nil))) (SC.max hc))
    (SA.dictItem (SE.name ⟨rfl,rfl⟩ rfl) (SE.name ⟨rfl,rfl⟩ rfl) (e0 _) (by rw[lev,List.length_map,sizeLine_eq];exact leK (eLe ‹_› ‹_›) rfl))
theorem BdH.set {n:Nat}{c:Cell} :∀{H:List Cell} {i:Nat},BdH n H→BdC n c→BdH n (H.set i c)
 | [],_,h,_=>by rw[List.set_nil];exact h
 | _::_,0,.cons _ b,q=>.cons q b
 | _::_,i+1,.cons a b,q=>.cons a (BdH.set b q)
theorem SE.aT {pg:Program}{K:Frag}{g b:Str→Option Value}{sc scope:Scope}{σ σc:List (Str×AV)}{l:List (Str×Int)}{i:Nat}{elt target iter t:Expr}{pos:Pos}(T:TopOk K g b)(hc:Φ.calm=Bool.true)(h0:H[i]? =some (.dct (lev l) Option.none))(hH:BdH H.length H)(hσ:Bde H.length σ)
  (a:∀H',SE pg w K Φ d sc iter σ H' (.obj i) σ H') (ok:CompOk sc scope σ σc) (hl:l.length≤100) (f:AV→List (Str×AV)) (p:Str→Bool)
  (tgt:∀v H',SA pg w K Φ d scope target v σc H' (f v) H') (keep:∀v y u,σc.lookup y=some u→(f v).lookup y=some u)
  (test:∀s a H' ep,lget l s=some a→H'[i]? =some (.dct (lev l) ep)→ST pg w K Φ d scope t (f (.str s)) H' (p s) (f (.str s)) H')
  (el:∀v H',SE pg w K Φ d scope elt (f v) H' v (f v) H')
  (hs:∀env x,foldedSetIterable iter env x=pure x:=by intro _ _;rfl):SE pg w K Φ d sc (.ListComp elt [⟨target,iter,[t],0⟩] scope pos) σ H (.lst (txts ((l.map (·.1)).filter p))) σ H:=by
 have hi:=(List.getElem?_eq_some_iff.mp h0).1
 refine SE.bZ h0 fun n=> ?_
 have hHn:BdH (H.set i (.dct (lev l) (some n))).length (H.set i (.dct (lev l) (some n))):=by rw[List.length_set];exact hH.set (.dct ze5)
 have e:(H.set i (.dct (lev l) (some n)))[i]? =some (.dct (lev l) (some n)):=List.getElem?_set_self hi;have S:Src K (H.set i (.dct (lev l) (some n))) (.obj i) ((lev l).map fun kv=>.str kv.1) (fun p=>.kiter i (lev l).length n p):=.keys T e;have bdi:Bd (H.set i (.dct (lev l) (some n))).length (.obj i):=.obj (by rw[List.length_set];exact hi)
 have dQ:Bde (H.set i (.dct (lev l) (some n))).length σ:=by rw[List.length_set];exact hσ
 have cr:=zaW (pg:=pg) (w:=w) (K:=K) (Φ:=Φ) (d:=d) (sc:=sc) (σ:=σ) (σc:=σc) (elt:=elt) (target:=target) (iter:=iter) (ifs:= [t]) (scope:=scope) (pos:=pos) hc S bdi hHn dQ ok (by rw[List.length_map,lev,List.length_map];exact leK ‹_› rfl)
  (fun v=>if p (zam v)=Bool.true then some v else Option.none) (fun v hv H' hH' ext=>by
   obtain⟨kv,hkv,rfl⟩:=List.mem_map.mp hv;obtain⟨x,hx,rfl⟩:=List.mem_map.mp hkv;obtain⟨a',ha'⟩:=zi1 (List.mem_map_of_mem (f:=(·.1)) hx);refine⟨f (.str x.1),tgt _ _,keep _,?_⟩;have ts:=test x.1 a' H' (some n) ha' (ext _ _ e)
   cases hp:p x.1 with
   | true=>rw[hp] at ts;exact .inl ⟨_,if_pos hp,STs.one ts,el _ _,.str⟩
   | false=>rw[hp] at ts;exact .inr ⟨if_neg (by show ¬ p x.1=_;rw[hp];simp),STs.one ts⟩)
 rw[zmG,zeQ] at cr;exact SE.ofRun (a _) S hHn dQ cr hs
noncomputable def neAV:AV→Bool
 | .lst ys=> !ys.isEmpty
 | _=>false
theorem zlG:∀R:List (List Str),(R.map fun r=>AV.lst (txts r)).filterMap (fun v=>if neAV v=true then some v else none)=(R.filter fun r=> !r.isEmpty).map fun r=>AV.lst (txts r):=by
 intro R
 induction R with
 | nil=>
  exact rfl
 | cons r R ih9=>
  have ih:=ih9;rw[List.map_cons,List.filterMap_cons,List.filter_cons]
  cases r with
  | nil=>exact ih
  | cons a t=>exact congrArg (AV.lst (txts (a::t)):: ·) ih
theorem zjG (E:List (Str×Str))(l:List (Str×Int))(k:Int):(zaI l k).length≤l.length:=by
 unfold zaI;rw[(zaC _).length_eq];refine Nat.le_trans (List.length_filter_le _ _) ?_
 rw[List.length_map];exact Nat.le_refl _
theorem zmf {E:List (Str×Str)}(T:TW w)(hc:Φ.calm=true)(hH:BdH H.length H)(hE:E.length≤20):SSs pW w (KK w) Φ (d+1) (zan (topS 32)) (zaf (topS 32)) [(q "rows",.lst (zab E))] H
  (.ret (.tup [.lst ((zbT E).map fun r=>.lst (txts r)),.bool (zdB E)])) [(q "rows",.lst (zab E)),(q "levels",.obj (H.length+1)),(q "rounds",.lst ((List.range 5).map fun k:Nat=>.lst (txts (zaI (runL E 5) k))))] (H++ [.junk,.dct (lev (runL E 5)) none]):=by
 have hz:∀n,(runL E n).length≤100:=fun n=>by have:=zkX E n;lia
 have jH:BdH (H.length+1) (H++ [Cell.junk]):=(hH.mono (by exact Nat.le_add_right _ _)).append (.cons .junk .nil)
 have lenH:∀l:List (Str×Int),(H++ [Cell.junk]++ [Cell.dct (lev l) none]).length=H.length+2:=fun l=>by exact zb5
 have bdH:∀(l:List (Str×Int)) (ep:Option Nat),BdH (H.length+2) (H++ [Cell.junk]++ [Cell.dct (lev l) ep]):=fun l ep=>(jH.mono (by exact Nat.le_succ _)).append (.cons (.dct ze5) .nil)
 have e5:((List.range 5).map fun k:Nat=>AV.int k).length=5:=rfl;refine SSs.cons (σ1:= [(q "rows",.lst (zab E)),(q "levels",.obj (H.length+1))]) (cn:=H++ [Cell.junk]++ [Cell.dct (lev (zeI E)) none]) ?init ?_
 case init=>
  have e:H++ [Cell.junk]++ [Cell.dct (lev (zeI E)) none]=H++ [.junk,.dct (lev (zeI E)) none]:=by exact app2
  rw[e];exact SS.ae rfl (SE.bL (c6:=q "row") (dk:=q "end") hc hE hH (.cons (.lst (zas E)) .nil) (SE.name ⟨rfl,rfl⟩ rfl) (zaS rfl (by decide+kernel) rfl .nil) (fun v H'=>SA.name (.inl rfl) .nil) (fun x H'=>SE.name ⟨rfl,rfl⟩ rfl) (fun x y H'=>SA.name (.inl rfl) (.there rfl .nil)) (fun x y H'=>SE.name ⟨rfl,rfl⟩ rfl) (fun x y H'=>SE.int)) (.there rfl .nil)
 refine SSs.cons (SS.forL (xs:=(List.range 5).map fun k:Nat=>AV.int k) (x:=.rng 5) (c:=fun p=>.riter 5 p) hc (SE.call (SE.bltn T ⟨rfl,rfl⟩ rfl zey zeZ) .type (SG.some (SL.cons SE.int SL.nil)) (SC.range (n:=5))) .rng
  (st:=fun _=> [(q "rows",.lst (zab E)),(q "levels",.obj (H.length+1))]) (hp:=fun k=>H++ [Cell.junk]++ [Cell.dct (lev (runL E k)) none]) rfl rfl (fun k _=>by rw[lenH,lenH]) (fun k _=>by rw[lenH];exact bdH _ _) (fun k _=>.cons (.lst (zas E)) (.cons (.obj (by rw[lenH];exact Nat.le_refl _)) .nil)) (fun k _=>.rng (by exact Nat.le_add_left _ _)) (fun k v hv bd=> ?step)) ?_
 case step=>
  have hk:k < 5:=by have:=(List.getElem?_eq_some_iff.mp hv).1;simpa using this
  have hv':v= .int k:=by
   rw[List.getElem?_map,List.getElem?_range hk] at hv;obtain rfl:=Option.some.inj hv;rfl
  subst hv';refine⟨[(q "rows",.lst (zab E)),(q "levels",.obj (H.length+1)),(q "turn",.int k)],.next,[],SA.name (.inl rfl) (.there rfl (.there rfl .nil)),?_,.inl rfl⟩;simp only[List.append_nil,zda]
  refine SSs.weaken (zoh T hc hE (zlv E k) (hz k) (by simp) ?_) fun y v e=>zah (τ:= [(q "turn",AV.int k)]) e
  rw[lenH] at bd
  have e1:(H++ [Cell.junk]).length+2=H.length+2+1:=by simp
  rw[e1];exact bd
 rw[e5]
 have h0:(H++ [Cell.junk]++ [Cell.dct (lev (runL E 5)) none])[H.length+1]? =some (.dct (lev (runL E 5)) none):=by exact zg5
 generalize hl:runL E 5=l at h0
 have hzl:l.length≤40:=by rw[←hl];have:=zkX E 5;lia
 have hset:∀ep:Option Nat,(H++ [Cell.junk]++ [Cell.dct (lev l) none]).set (H.length+1) (.dct (lev l) ep)=H++ [Cell.junk]++ [Cell.dct (lev l) ep]:=fun ep=>by simp
 have bd2:=bdH l none;have len2:(H++ [Cell.junk]++ [Cell.dct (lev l) none]).length=H.length+2:=lenH l
 have bd2':BdH (H++ [Cell.junk]++ [Cell.dct (lev l) none]).length (H++ [Cell.junk]++ [Cell.dct (lev l) none]):=by rw[len2];exact bd2
 have lenk:∀k,(zaI l k).length≤40:=fun k=>Nat.le_trans (zjG E l k) hzl
 refine SSs.cons (σ1:= [(q "rows",.lst (zab E)),(q "levels",.obj (H.length+1)),(q "rounds",.lst ((List.range 5).map fun k:Nat=>.lst (txts (zaI l k))))]) (SS.ofRun (xs:=(List.range 5).map fun k:Nat=>AV.int k) (x:=.rng 5) (c:=fun p=>.riter 5 p) (SE.call (SE.bltn T ⟨rfl,rfl⟩ rfl zey zeZ) .type (SG.some (SL.cons SE.int SL.nil)) (SC.range (n:=5))) (.rng (by exact Nat.le_add_left _ _)) bd2' (.cons (.lst (zas E)) (.cons (.obj (by rw[len2];exact Nat.le_refl _)) .nil))
  (zaW (σc:= [(q "levels",.obj (H.length+1))]) (xs:=(List.range 5).map fun k:Nat=>AV.int k) (x:=.rng 5) (c:=fun p=>.riter 5 p) hc (.rng (by exact Nat.le_add_left _ _)) .rng bd2' (.cons (.lst (zas E)) (.cons (.obj (by rw[len2];exact Nat.le_refl _)) .nil)) (zaS rfl (by decide+kernel) rfl (.cons rfl rfl .nil)) (by exact Nat.le_of_ble_eq_true rfl) (fun v=>some (.lst (txts (zaI l (match v with | .int k=>k | _=>0))))) (fun v hv H' hH' ext=> ?st)) rfl ?up rfl) ?_
 case st=>
  obtain⟨k,hk,rfl⟩:=List.mem_map.mp hv;refine⟨[(q "levels",.obj (H.length+1)),(q "k",.int k)],SA.name (.inr rfl) (.there rfl .nil),fun y u e=>zah (τ:= [(q "k",AV.int k)]) e,.inl ⟨_,rfl,STs.nil,?_,.lst Bds.txts⟩⟩;refine SE.call (SE.bltn T ⟨rfl,rfl⟩ rfl zed zek) .builtin (SG.some (SL.cons ?_ SL.nil)) (SC.sorted (ss:=(l.map (·.1)).filter fun s=>lget l s==some (k:Int)) (.lst .lst) (by have:=lenk k;unfold zaI at this;rw[(zaC _).length_eq] at this;exact slK ‹_› rfl));have e:=ext _ _ h0;have hlt:=(List.getElem?_eq_some_iff.mp e).1;exact SE.aT T hc e hH' (.cons (.obj hlt) (.cons .int .nil)) (fun H'=>SE.name ⟨rfl,rfl⟩ rfl) (zaS rfl (by decide+kernel) rfl (.cons rfl rfl (.cons rfl rfl .nil))) (by exact leK ‹_› rfl) (fun v=> [(q "k",.int k),(q "levels",.obj (H.length+1)),(q "file",v)]) (fun s=>lget l s==some (k:Int))
   (fun v H'=>SA.name (.inl rfl) (.there rfl (.there rfl .nil))) (fun v y u e=>zah (τ:= [(q "file",v)]) e)
   (fun s a H' ep ha he=>(ST.cmp (SE.dictItem (SE.name ⟨rfl,rfl⟩ rfl) (SE.name ⟨rfl,rfl⟩ rfl) he (by rw[zcC,ha];rfl)) (SE.name ⟨rfl,rfl⟩ rfl) SCmp.bC).eq (by rw[ha];rfl)) (fun v H'=>SE.name ⟨rfl,rfl⟩ rfl)
 case up=>
  have e:((List.range 5).map fun k:Nat=>AV.int k).filterMap (fun v=>some (AV.lst (txts (zaI l (match v with | .int k=>k | _=>0)))))=(List.range 5).map fun k:Nat=>AV.lst (txts (zaI l k)):=by
   rw[List.filterMap_map];exact List.filterMap_eq_map▸rfl
  rw[e];exact .there rfl (.there rfl .nil)
 have eR:((List.range 5).map fun k:Nat=>AV.lst (txts (zaI l k)))=((List.range 5).map fun k:Nat=>zaI l k).map fun r=>.lst (txts r):=by rw[List.map_map];rfl
 have eF:=zlG ((List.range 5).map fun k:Nat=>zaI l k)
 have eE:zbT E=((List.range 5).map fun k:Nat=>zaI l k).filter fun r=> !r.isEmpty:=by unfold zbT;rw[hl]
 have eG:zdB E= !(txts ((l.map (·.1)).filter fun s=>decide (4 < (lget l s).getD 0))).isEmpty:=by unfold zdB;rw[hl];unfold txts;simp
 rw[eE,eG,←eF,←eR]
 have bσ:Bde (H++ [Cell.junk]++ [Cell.dct (lev l) none]).length [(q "rows",.lst (zab E)),(q "levels",.obj (H.length+1)),(q "rounds",.lst ((List.range 5).map fun k:Nat=>.lst (txts (zaI l k))))]:=
  .cons (.lst (zas E)) (.cons (.obj (by rw[len2];exact Nat.le_refl _)) (.cons (.lst (Bds.of fun x hx=>by obtain⟨k,_,rfl⟩:=List.mem_map.mp hx;exact .lst Bds.txts)) .nil))
 have hout:H++ [Cell.junk,Cell.dct (lev l) none]=H++ [Cell.junk]++ [Cell.dct (lev l) none]:=by exact app2.symm
 rw[hout]
 refine SSs.stop (SS.ret (SE.tuple (SL.cons (SE.ofRun (xs:=(List.range 5).map fun k:Nat=>AV.lst (txts (zaI l k))) (c:=fun p=>.iter _ p) (SE.name ⟨rfl,rfl⟩ rfl) (.list .lst) bd2' bσ
  (zaW (σc:= []) (xs:=(List.range 5).map fun k:Nat=>AV.lst (txts (zaI l k))) (c:=fun p=>.iter _ p) hc (.list .lst) (.lst (Bds.of fun x hx=>by obtain⟨k,_,rfl⟩:=List.mem_map.mp hx;exact .lst Bds.txts)) bd2' bσ (zaS rfl (by decide+kernel) rfl .nil) (by exact Nat.le_of_ble_eq_true rfl) (fun v=>if neAV v=true then some v else none) (fun v hv H' hH' ext=> ?c1))) (SL.cons ?c2 SL.nil)) (small rfl)))
 case c1=>
  obtain⟨k,hk,rfl⟩:=List.mem_map.mp hv;refine⟨[(q "one",.lst (txts (zaI l k)))],SA.name (.inl rfl) .nil,(fun y u e=>by exact nsE e),?_⟩
  cases hb:(!(txts (zaI l k)).isEmpty) with
  | true=>exact .inl ⟨_,if_pos hb,STs.one ((ST.cmp (SE.name ⟨rfl,rfl⟩ rfl) (SE.list SL.nil (small rfl)) (SCmp.a9 .lst)).eq hb),SE.name ⟨rfl,rfl⟩ rfl,.lst Bds.txts⟩
  | false=>exact .inr ⟨if_neg (by show ¬ (!(txts (zaI l k)).isEmpty)=true;rw[hb];simp),STs.one ((ST.cmp (SE.name ⟨rfl,rfl⟩ rfl) (SE.list SL.nil (small rfl)) (SCmp.a9 .lst)).eq hb)⟩
 case c2=>
  exact SE.cmp (SE.aT T hc h0 bd2' bσ (fun H'=>SE.name ⟨rfl,rfl⟩ rfl) (zaS rfl (by decide+kernel) rfl (.cons rfl rfl .nil)) (by exact leK ‹_› rfl) (fun v=> [(q "levels",.obj (H.length+1)),(q "file",v)]) (fun s=>decide (4 < (lget l s).getD 0))
   (fun v H'=>SA.name (.inl rfl) (.there rfl .nil)) (fun v y u e=>zah (τ:= [(q "file",v)]) e)
   (fun s a H' ep ha he=>(ST.cmp (SE.dictItem (SE.name ⟨rfl,rfl⟩ rfl) (SE.name ⟨rfl,rfl⟩ rfl) he (by rw[zcC,ha];rfl)) SE.int SCmp.cg).eq (by rw[ha];rfl)) (fun v H'=>SE.name ⟨rfl,rfl⟩ rfl)) (SE.list SL.nil (small rfl)) (SCmp.a9 .lst)
theorem zna {E:List (Str×Str)}(T:TW w)(hc:Φ.calm=true)(hH:BdH H.length H)(hE:E.length≤20):SCc pW w (KK w) Φ (d+2) (.ref 302) [.lst (zab E)] H (.tup [.lst ((zbT E).map fun r=>.lst (txts r)),.bool (zdB E)]) H:=by
 exact SCc.drop (SCc.plain (f:=.ret _) (ns:= [q "rows"]) T zhe (len1 fun _=>rfl) (by exact List.nodup_cons.mpr ⟨List.not_mem_nil,List.nodup_nil⟩) (fun x hx=>by simp at hx;subst hx;exact .inl rfl) rfl (fun L=>zmf T hc hH hE)) rfl hH
  (.same (.tup (.cons (.lst (Bds.of fun x hx=>by obtain⟨k,_,rfl⟩:=List.mem_map.mp hx;exact .lst Bds.txts)) (.cons .bool .nil))))
noncomputable def zau (E:List (Str×Str)):List Str:=E.flatMap fun e=> [e.1,e.2]
noncomputable def isIn (ss:List Str)(s:Str):Bool:=ss.any (· ==s)
noncomputable def zaY (E:List (Str×Str))(known:List Str)(n:Str):List Str:=(E.filter fun e=>e.1==n&& !isIn known e.2).map (·.2)
noncomputable def zcF (E:List (Str×Str))(names known:List Str):List Str:=names.filter fun n=> !isIn known n&&(zaY E known n).isEmpty
inductive Obo (E:List (Str×Str))(names:List Str):List Str→List Str→Prop
 | stop {known} :zcF E names known= []→Obo E names known known
 | step {known n r res} :zcF E names known=n::r→Obo E names (known++ [n]) res→Obo E names known res
theorem Obo.len {E:List (Str×Str)}{names known res:List Str}(h:Obo E names known res):known.length≤res.length:=by
 induction h with
 | stop _=>exact Nat.le_refl _
 | step _ _ ih=>rw[List.length_append,List.length_singleton] at ih;exact Nat.le_of_lt ‹_›
theorem zlU (xs:List AV):cut none (some 1) xs=xs.take 1:=zgf xs 1
theorem SS.aN {pg:Program}{K:Frag}{sc:Scope}{σ σ1 cp:List (Str×AV)}{cn cq:List Cell}{v:AV}{n:Str}{m cz cG:Expr}{cL c8 p3 pos:Pos}{k k':Nat}(hx:sc.names.lookup n=some .cell)(a:SE pg w K Φ d sc (.Tuple [cz,cG] k' p3) σ H v σ1 cn)(c:SA pg w K Φ d sc (.Tuple [.Name n cL,m] k c8) v σ1 cn cp cq)
  (he:∀env,(assignEach [.Tuple [.Name n cL,m] k c8] env).map (·.2)= [PySem.assign (.Tuple [.Name n cL,m] k c8) env]:=by intro _;rfl):SS pg w K Φ d sc (.Assign [.Tuple [.Name n cL,m] k c8] (.Tuple [cz,cG] k' p3) pos) σ H .next cp cq:=.mk fun env O ρ s A ok X=>by
 have hk:=(X.env.cel n hx).1
 have hw:swappedStores [.Tuple [.Name n cL,m] k c8] (.Tuple [cz,cG] k' p3) env=pure none:=by
  have h1:(env.kindOf n==some NameKind.local)=Bool.false:=by rw[hk];rfl
  unfold swappedStores
  have h2:∀l:Nat,([Expr.Name n cL,m].filterMap fun | .Name id pos=>if env.kindOf id==some .local&&pos.line==l then some id else none | _=>none).length≠2:=fun l z=>by
   have e:∀{f:Expr→Option Str},f (.Name n cL)=none→([Expr.Name n cL,m].filterMap f).length≠2:=fun {f} e z=>by
    rw[List.filterMap_cons_none e] at z;have:=List.length_filterMap_le f [m];rw[z] at this;exact absurd this (Nat.not_succ_le_self 1)
   refine e ?_ z;show(if (env.kindOf n==some NameKind.local&&cL.line==l)=true then some n else none)=none
   rw[h1];rfl
  have ifb:∀{b:Bool} {x y z:Sem (Option (List Str))},x=z→y=z→(if b=true then x else y)=z:=fun {b} _ _ _ h g=>by cases b;exact g;exact h
  exact ifb rfl (ifb rfl (if_pos (by rw[Bool.or_eq_true];exact .inl (bne_iff_ne.mpr (h2 _)))))
 refine wpAny_Assign_stores (zac (a.1 env O ρ s A ok X) fun a' cm ⟨ρ1,m,X1,q,o⟩=> ?_) rfl hw;rw[he]
 exact zac (c.1 env O ρ1 cm A a' ok X1 q) fun _ ct ⟨ρ2,cu,X2,cw⟩=>⟨ρ2,m.trans cu,X2,trivial,cw.trans o⟩
theorem zkZ (E:List (Str×Str)):(zab E).flatMap (fun v=>(zdo v).map fun u=>u)=txts (zau E):=by
 unfold zab zau
 induction E with
 | nil=>rfl
 | cons e r ih=>
  rw[List.map_cons,List.flatMap_cons,List.flatMap_cons,ih,zap];rfl
theorem zhZ {g:AV→Option AV}{p:Str×Str→Bool}{f:Str×Str→AV}(h:∀e,g (zaX e)=if p e=true then some (f e) else none):∀E:List (Str×Str),(zab E).filterMap g=(E.filter p).map f:=by
 intro E
 induction E with
 | nil=>
  exact rfl
 | cons e r ih9=>
  have ih:=ih9;show(zaX e::zab r).filterMap g=_;rw[List.filterMap_cons,List.filter_cons,h]
  by_cases hp:p e=true
  ·rw[if_pos hp,if_pos hp];exact congrArg (f e:: ·) ih
  ·rw[if_neg hp,if_neg hp];exact ih
noncomputable def gRow (p:Str×Str→Bool)(f:Str×Str→AV):AV→Option AV
 | .lst [.str a,.str b]=>if p (a,b)=true then some (f (a,b)) else none
 | _=>none
theorem zfN {pg:Program}{K:Frag}{scope:Scope}{ifs:List Expr}{elt:Expr}{σ1:List (Str×AV)}{b:Bool}{g:AV→Option AV}{v y:AV}{n:Nat}(ts:STs pg w K Φ d scope ifs σ1 H' b σ1 H')(hg:g v=if b=true then some y else none)(se:SE pg w K Φ d scope elt σ1 H' y σ1 H')(bd:Bd n y):
  (∃y,g v=some y∧STs pg w K Φ d scope ifs σ1 H' Bool.true σ1 H'∧SE pg w K Φ d scope elt σ1 H' y σ1 H'∧Bd n y)∨(g v=Option.none∧STs pg w K Φ d scope ifs σ1 H' Bool.false σ1 H'):=by
 cases b with
 | true=>exact .inl ⟨y,hg,ts,se,bd⟩
 | false=>exact .inr ⟨hg,ts⟩
theorem zbn (ss:List Str):(txts ss).isEmpty=ss.isEmpty:=by cases ss<;>rfl
theorem zl3 (E:List (Str×Str))(names known:List Str):(zcF E names known).length≤names.length:=List.length_filter_le _ _
noncomputable def cR (E:List (Str×Str))(names known free:List Str):List (Str×AV):= [(q "rows",.lst (zab E)),(q "names",.lst (txts names)),(q "known",.lst (txts known)),(q "free",.lst (txts free))]
theorem znj {n:Nat}{E:List (Str×Str)}{names known free:List Str} :Bde n (cR E names known free):=.cons (.lst (zas E)) (.cons (.lst Bds.txts) (.cons (.lst Bds.txts) (.cons (.lst Bds.txts) .nil)))
theorem zgt {E:List (Str×Str)}{names known free:List Str}(T:TW w)(hc:Φ.calm=true)(hH:BdH H.length H)(hE:E.length≤20)(hn:names.length≤50)(hk:known.length≤50):
  SSs pW w (KK w) Φ (d+1) (zan (topS 33)) (stB (nthS 2 (zaf (topS 33)))) (cR E names known free) H .next (cR E names (known++(zcF E names known).take 1) (zcF E names known)) H:=by
 have hav:=zl3 E names known;refine SSs.cons (σ1:=cR E names known (zcF E names known)) (SS.ofRun (ys:=txts (zcF E names known)) (xs:=txts names) (c:=fun p=>.iter (.lst (txts names)) p) (SE.name ⟨rfl,rfl⟩ rfl) (.list .lst) hH znj ?run rfl (.there rfl (.there rfl (.there rfl .here))) rfl)
  (SSs.cons (SS.ae rfl (SE.bin (SE.name ⟨rfl,rfl⟩ rfl) (SE.af (SE.name ⟨rfl,rfl⟩ rfl) SPart.none (SPart.some SE.int) .lst (by rw[zaa,sizeLine_eq];lia)) (SB.ai .lst .lst ?sz)) ?up) SSs.nil)
 case sz=>
  rw[zlU,zaa,List.length_take,zaa,sizeLine_eq];lia
 case up=>
  rw[zlU]
  have e:txts known++(txts (zcF E names known)).take 1=txts (known++(zcF E names known).take 1):=by
   rw[zap];unfold txts;rw[List.map_take]
  rw[e];exact .there rfl (.there rfl .here)
 case run=>
  have eA:(txts names).filterMap (fun v=>if (!isIn known (zam v)&&(zaY E known (zam v)).isEmpty)=true then some v else none)=txts (zcF E names known):=zeQ (fun n=> !isIn known n&&(zaY E known n).isEmpty) names;rw[←eA];refine zaW (σc:= [(q "known",.lst (txts known)),(q "rows",.lst (zab E))]) hc (.list .lst) (.lst Bds.txts) hH znj (zaS rfl (by decide+kernel) rfl (.cons rfl rfl (.cons rfl rfl .nil))) (by rw[zaa];exact leK ‹_› rfl) (fun v=>if (!isIn known (zam v)&&(zaY E known (zam v)).isEmpty)=true then some v else none) (fun v hv H' hH' ext=> ?_);obtain⟨n,_,rfl⟩:=List.mem_map.mp hv;have bd3:Bde H'.length [(q "known",AV.lst (txts known)),(q "rows",.lst (zab E)),(q "name",.str n)]:=.cons (.lst Bds.txts) (.cons (.lst (zas E)) (.cons .str .nil));refine⟨[(q "known",.lst (txts known)),(q "rows",.lst (zab E)),(q "name",.str n)],SA.name (.inr rfl) (.there rfl (.there rfl .nil)),fun y u e=>zah (τ:= [(q "name",AV.str n)]) e,?_⟩
  have eI:(zab E).filterMap (gRow (fun e=>e.1==n&& !isIn known e.2) fun e=>.str e.2)=txts (zaY E known n):=by
   rw[zhZ (p:=fun e=>e.1==n&& !isIn known e.2) (f:=fun e=>.str e.2) (fun e=>rfl)]
   unfold zaY txts;rw[List.map_map];rfl
  refine zfN (g:=fun v=>if (!isIn known (zam v)&&(zaY E known (zam v)).isEmpty)=true then some v else none) (v:=.str n) (b:= !isIn known n&&(zaY E known n).isEmpty) (y:=.str n) (STs.one ?tt) rfl ?ee .str
  case ee=>exact SE.name ⟨rfl,rfl⟩ rfl
  refine ST.and2 (ST.cmp (SE.name ⟨rfl,rfl⟩ rfl) (SE.name ⟨rfl,rfl⟩ rfl) (SCmp.ag .lst)) fun _=> ?inn
  case inn=>
   rw[←zbn,←eI];refine ST.cmp (SE.ofRun (xs:=zab E) (c:=fun p=>.iter (.lst (zab E)) p) (SE.name ⟨rfl,rfl⟩ rfl) (.list .lst) hH' bd3 (zaW (σc:= [(q "known",.lst (txts known)),(q "name",.str n)]) hc (.list .lst) (.lst (zas E)) hH' bd3 (zaS rfl (by decide+kernel) rfl (.cons rfl rfl (.cons rfl rfl .nil))) (by unfold zab;rw[List.length_map];exact leK ‹_› rfl) (gRow (fun e=>e.1==n&& !isIn known e.2) fun e=>.str e.2) (fun v hv H'' hH'' ext'=> ?_))) (SE.list SL.nil (small rfl)) (SCmp.ch .lst);obtain⟨e,_,rfl⟩:=List.mem_map.mp hv;refine⟨[(q "known",.lst (txts known)),(q "name",.str n),(q "file",.str e.1),(q "need",.str e.2)],SA.tuple hc (.lst .lst) (SAs.cons (SA.name (.inl rfl) (.there rfl (.there rfl .nil))) (SAs.cons (SA.name (.inl rfl) (.there rfl (.there rfl (.there rfl .nil)))) SAs.nil)),fun y u e'=>zah (τ:= [(q "file",AV.str e.1),(q "need",.str e.2)]) e',?_⟩;refine zfN (g:=gRow (fun e=>e.1==n&& !isIn known e.2) fun e=>.str e.2) (v:=zaX e) (b:=e.1==n&& !isIn known e.2) (y:=.str e.2) (STs.one ?tt2) rfl ?ee2 .str
   case tt2=>exact ST.and2 (ST.cmp (SE.name ⟨rfl,rfl⟩ rfl) (SE.name ⟨rfl,rfl⟩ rfl) SCmp.ak) fun _=>ST.cmp (SE.name ⟨rfl,rfl⟩ rfl) (SE.name ⟨rfl,rfl⟩ rfl) (SCmp.ag .lst)
   case ee2=>exact SE.name ⟨rfl,rfl⟩ rfl
theorem zkC {E:List (Str×Str)}{names known res:List Str}(T:TW w)(hc:Φ.calm=true)(hH:BdH H.length H)(hE:E.length≤20)(hn:names.length≤50)(O:Obo E names known res):res.length≤50→∀free:List Str,free≠ [] →
  SWh pW w (KK w) Φ (d+1) (zan (topS 33)) (stT (nthS 2 (zaf (topS 33)))) (stB (nthS 2 (zaf (topS 33)))) []
   (cR E names known free) H .next (cR E names res []) H:=by
 have test:∀(known free:List Str),ST pW w (KK w) Φ (d+1) (zan (topS 33)) (stT (nthS 2 (zaf (topS 33)))) (cR E names known free) H (!free.isEmpty) (cR E names known free) H:=fun known free=>
  (ST.cmp (SE.name ⟨rfl,rfl⟩ rfl) (SE.list SL.nil (small rfl)) (SCmp.a9 .lst)).eq (by rw[zbn])
 have tne:∀{free:List Str},free≠ []→(!free.isEmpty)=true:=fun {free} h=>by cases free<;>first | exact absurd rfl h | rfl
 induction O with
 | @stop known ha=>
  intro hr free hf;have tb:=zgt (d:=d) (free:=free) (known:=known) T hc hH hE hn hr;rw[ha,show known++List.take 1 ([]:List Str)=known from List.append_nil _] at tb;exact SWh.turn ((test known free).eq (tne hf)) tb (.inl rfl) (SWh.out (test known []) SSs.nil)
 | @step known n r res ha O ih=>
  intro hr free hf;have hl:=O.len;rw[List.length_append,List.length_singleton] at hl;have tb:=zgt (d:=d) (free:=free) (known:=known) T hc hH hE hn (by solve_by_elim (maxDepth:=5) [leK,slK,Nat.le_trans,Nat.lt_of_lt_of_le,Nat.lt_of_le_of_lt,Nat.le_of_lt,Nat.le_add_right,Nat.succ_le_succ,Nat.le_succ]);rw[ha] at tb
  have e1:(n::r).take 1= [n]:=by rfl
  rw[e1] at tb;exact SWh.turn ((test known free).eq (tne hf)) tb (.inl rfl) (ih hr (n::r) (by exact List.cons_ne_nil _ _))
theorem zjc (E:List (Str×Str)):(zau E).length=2 * E.length:=by
 unfold zau
 induction E with
 | nil=>rfl
 | cons e r ih=>rw[List.flatMap_cons,List.length_append,ih];simp;exact Nat.add_comm _ _
theorem zo4 {E:List (Str×Str)}{res:List Str}(T:TW w)(hc:Φ.calm=true)(hH:BdH H.length H)(hE:E.length≤20)(h2:2≤(uniq (zau E)).length)(h50:(uniq (zau E)).length≤50)(hr:res.length≤50)(O:Obo E (srt (uniq (zau E))) [] res):
  SSs pW w (KK w) Φ (d+1) (zan (topS 33)) (zaf (topS 33)) [(q "rows",.lst (zab E))] H (.ret (.lst (txts res))) (cR E (srt (uniq (zau E))) res []) H:=by
 have lenE:(zau E).length < 1000:=by rw[zjc];lia
 have lenN:(srt (uniq (zau E))).length=(uniq (zau E)).length:=(zaC _).length_eq;have bdr:Bde H.length [(q "rows",.lst (zab E))]:=.cons (.lst (zas E)) .nil;refine SSs.cons (σ1:= [(q "rows",.lst (zab E)),(q "names",.lst (txts (srt (uniq (zau E)))))]) (SS.assign (fun _ _ _=>rfl) (SE.drop (tl:= [.uset (uniq (zau E))]) (SE.call (SE.bltn T ⟨rfl,rfl⟩ rfl zed zek) .builtin (SG.some (SL.cons (SE.call (SE.bltn T ⟨rfl,rfl⟩ rfl zoy zoU) .type (SG.some (SL.cons ?ends SL.nil)) (SC.cj (ts:=zau E) hc .lst lenE)) SL.nil)) (SC.bi hc (zs:=uniq (zau E)) (by exact zbN) h2 (by exact slK ‹_› rfl))) rfl hH bdr (.same (.lst Bds.txts))) (SA.name (.inl rfl) (.there rfl .nil))) ?_
 case ends=>
  rw[←zkZ];refine SE.ofRun (xs:=zab E) (c:=fun p=>.iter (.lst (zab E)) p) (SE.name ⟨rfl,rfl⟩ rfl) (.list .lst) hH bdr (zgj (σc:= []) hc (.list .lst) (.lst (zas E)) hH bdr .nil (zaS rfl (by decide+kernel) rfl .nil) (by unfold zab;rw[List.length_map];exact leK ‹_› rfl) zdo (fun v u=>u) (fun v hv=>by obtain⟨e,_,rfl⟩:=List.mem_map.mp hv;rfl) (fun v hv H' hH' ext=> ?_));obtain⟨e,_,rfl⟩:=List.mem_map.mp hv;refine⟨[(q "row",zaX e)],SA.name (.inl rfl) .nil,.cons (.lst (.cons .str (.cons .str .nil))) .nil,(fun y u z=>by exact nsE z),SE.name ⟨rfl,rfl⟩ rfl,.lst (.cons .str (.cons .str .nil)),fun u hu H'' hH'' ext''=> ?_⟩;refine⟨[(q "row",zaX e),(q "end",u)],SA.name (.inl rfl) (.there rfl .nil),fun y v z=>zah (τ:= [(q "end",u)]) z,SE.name ⟨rfl,rfl⟩ rfl,?_⟩
  rcases zf0 hu with rfl | rfl<;>exact .str
 refine SSs.cons (σ1:=cR E (srt (uniq (zau E))) [] (srt (uniq (zau E)))) (SS.aN rfl (SE.tuple (SL.cons (SE.list SL.nil (small rfl)) (SL.cons (SE.name ⟨rfl,rfl⟩ rfl) SL.nil)) (small rfl)) (SA.tuple hc .tup (SAs.cons (SA.name (.inr rfl) (.there rfl (.there rfl .nil))) (SAs.cons (SA.name (.inl rfl) (.there rfl (.there rfl (.there rfl .nil)))) SAs.nil)))) ?_
 have hne:srt (uniq (zau E))≠ []:=fun z=>by have:=congrArg List.length z;rw[lenN,List.length_nil] at this;lia
 exact SSs.cons (SS.aj (zkC T hc hH hE (by exact eLe ‹_› ‹_›) O hr _ hne)) (SSs.stop (SS.ret (SE.name ⟨rfl,rfl⟩ rfl)))
theorem zpl {E:List (Str×Str)}{res:List Str}(T:TW w)(hc:Φ.calm=true)(hH:BdH H.length H)(hE:E.length≤20)(h2:2≤(uniq (zau E)).length)(h50:(uniq (zau E)).length≤50)(hr:res.length≤50)(O:Obo E (srt (uniq (zau E))) [] res):
  SCc pW w (KK w) Φ (d+2) (.ref 307) [.lst (zab E)] H (.lst (txts res)) H:=
 SCc.plain (f:=.ret _) (ns:= [q "rows"]) T zd8 (len1 fun _=>rfl) (by exact List.nodup_cons.mpr ⟨List.not_mem_nil,List.nodup_nil⟩) (fun x hx=>by simp at hx;subst hx;exact .inr rfl) rfl fun L=>zo4 T hc hH hE h2 h50 hr O
end
section
noncomputable abbrev zaN:=List (Str×Str)
noncomputable def Wk (E:zaN):Nat→Str→Prop
 | 0,_=>True
 | k+1,m=>∃g,(m,g)∈E∧Wk E k g
theorem Wk.pred {E:zaN} :∀{k:Nat} {m:Str},Wk E (k+1) m→Wk E k m
 | 0,_,_=>trivial
 | k+1,_,⟨g,h,w⟩=>⟨g,h,w.pred⟩
theorem Wk.ends {E:zaN}{k:Nat}{m:Str} :Wk E (k+1) m→m∈zau E:=fun⟨g,h,_⟩=>List.mem_flatMap.mpr ⟨(m,g),h,by exact List.mem_cons_self⟩
theorem Wk.down {E:zaN}{k:Nat}{m:Str}(h:Wk E (k+1) m)(n: ¬ Wk E (k+2) m):∃g,g∈zau E∧Wk E k g∧ ¬ Wk E (k+1) g:=by
 obtain⟨g,hg,w⟩:=h;exact⟨g,List.mem_flatMap.mpr ⟨(m,g),hg,by exact List.mem_cons_of_mem _ List.mem_cons_self⟩,w,fun z=>n ⟨g,hg,z⟩⟩
theorem Wk.chain {E:zaN} :∀{k:Nat} {m:Str},Wk E k m→ ¬ Wk E (k+1) m→m∈zau E→∃l:List Str,l.length=k+1∧l.Nodup∧(∀x∈l,x∈zau E)∧∀x∈l,¬ Wk E (k+1) x
 | 0,m,_,n,hm=>⟨[m],rfl,by exact List.nodup_cons.mpr ⟨List.not_mem_nil,List.nodup_nil⟩,fun x hx=>by simp at hx;subst hx;exact hm,fun x hx=>by simp at hx;subst hx;exact n⟩
 | k+1,m,h,n,hm=>by
  obtain⟨g,hg,w,nw⟩:=h.down n;obtain⟨l,h1,h2,h3,h4⟩:=Wk.chain w nw hg;refine⟨m::l,by rw[List.length_cons,h1],List.nodup_cons.mpr ⟨fun z=>h4 m z h,h2⟩,fun x hx=> ?_,fun x hx=> ?_⟩
  ·rcases List.mem_cons.mp hx with rfl | hx
   ·exact hm
   ·exact h3 x hx
  ·rcases List.mem_cons.mp hx with rfl | hx
   ·exact n
   ·exact fun z=>h4 x hx z.pred
theorem Wk.six {E:zaN}{F:List Str}(hF:F.length≤5)(hE:∀x∈zau E,x∈F){m:Str}(h:Wk E 5 m):Wk E 6 m:=Classical.byContradiction fun n=>by
 obtain⟨l,h1,h2,h3,_⟩:=h.chain n h.ends;have:=List.Nodup.length_le_of_subset h2 (fun x hx=>hE x (h3 x hx))
 lia
noncomputable def lv (l:List (Str×Int))(s:Str):Int:=(lget l s).getD 0
theorem zh6 (l:List (Str×Int))(k:Str)(v:Int)(j:Str):lv (lset l k v) j=if j=k then v else lv l j:=by
 unfold lv;rw[zbl];split<;>rfl
theorem zf2 (l:List (Str×Int))(e:Str×Str)(j:Str):lv (relax l e) j=if j=e.1 then (if lv l e.2+1 > lv l e.1 then lv l e.2+1 else lv l e.1) else lv l j:=zh6 _ _ _ _
theorem zoE (l:List (Str×Int))(e:Str×Str)(j:Str):lv l j≤lv (relax l e) j:=by
 rw[zf2]
 by_cases h:j=e.1
 ·subst h;rw[if_pos rfl];split<;>lia
 ·rw[if_neg h];exact Int.le_refl _
theorem zli:∀(F:zaN) (l:List (Str×Int)) (j:Str),lv l j≤lv (zcV F l) j:=by
 intro F
 induction F with
 | nil=>
  rintro _ _
  exact Int.le_refl _
 | cons e r ih=>
  rintro l j
  exact Int.le_trans (zoE l e j) (ih (relax l e) j)
theorem zk6:∀(F:zaN) (l:List (Str×Int)) (e:Str×Str),e∈F→lv l e.2+1≤lv (zcV F l) e.1
 | f::r,l,e,h=>by
  rcases List.mem_cons.mp h with rfl | h
  ·refine Int.le_trans ?_ (zli r (relax l e) e.1)
   rw[zf2,if_pos rfl];split<;>lia
  ·have:=zk6 r (relax l f) e h
   have:=zoE l f e.2;show _≤lv (zcV r (relax l f)) e.1
   lia
theorem zlj (E:zaN)(s:Str):lv (zeI E) s=0:=by
 have:∀(F:zaN) (l:List (Str×Int)),(∀s,lv l s=0)→∀s,lv (F.foldl (fun a e=>lset (lset a e.1 0) e.2 0) l) s=0:=by
  intro F
  induction F with
  | nil=>intro l h s;exact h s
  | cons e r ih=>
   intro l h s;refine ih _ (fun s=> ?_) s;rw[zh6,zh6]
   split
   ·rfl
   ·split
    ·rfl
    ·exact h s
 exact this E [] (fun _=>rfl) s
theorem zfL {E:zaN} :∀(F:zaN) (l:List (Str×Int)),(∀e∈F,e∈E)→(∀s (k:Nat),(k:Int)≤lv l s→Wk E k s)→∀s (k:Nat),(k:Int)≤lv (zcV F l) s→Wk E k s:=by
 intro F
 induction F with
 | nil=>
  rintro _ _ h
  exact h
 | cons e r ih=>
  rintro l hF h
  exact ih (relax l e) (fun f hf=>hF f (List.mem_cons_of_mem _ hf)) fun s k hk=>by
   rw[zf2] at hk
   by_cases z:s=e.1
   ·rw[if_pos z] at hk
    subst z
    split at hk
    ·cases k with
     | zero=>trivial
     | succ k=>exact⟨e.2,hF e List.mem_cons_self,h e.2 k (by lia)⟩
    ·exact h _ k hk
   ·rw[if_neg z] at hk;exact h s k hk
theorem zkV (E:zaN):∀n s (k:Nat),(k:Int)≤lv (runL E n) s→Wk E k s:=by
 intro n
 induction n with
 | zero=>
  rintro s k h
  have h':(k:Int)≤lv (zeI E) s:=h;rw[zlj] at h'
  have:k=0:=by lia
  subst this;trivial
 | succ n ih=>
  rintro s k h
  rw[zda] at h;exact zfL E _ (fun _ h=>h) (ih) s k h
theorem zkW (E:zaN):∀n s (k:Nat),k≤n→Wk E k s→(k:Int)≤lv (runL E n) s:=by
 intro n
 induction n with
 | zero=>
  rintro s k hk _
  have:k=0:=by lia
  subst this;show(0:Int)≤lv (zeI E) s
  rw[zlj];exact Int.le_refl _
 | succ n ih=>
  rintro s k hk w
  rw[zda]
  cases k with
  | zero=>exact Int.le_trans (ih s 0 (Nat.zero_le _) trivial) (zli E _ s)
  | succ k=>
   obtain⟨g,hg,wg⟩:=w;have:=ih g k (by exact Nat.le_of_succ_le_succ ‹_›) wg;have:=zk6 E (runL E n) (s,g) hg;show((k+1:Nat):Int)≤lv (zcV E (runL E n)) s;have e:((s,g):Str×Str).2=g:=rfl;have e':((s,g):Str×Str).1=s:=rfl;rw[e,e'] at this
   lia
theorem zfS (E:zaN)(s:Str)(k:Nat)(h:k≤5):(k:Int)≤lv (runL E 5) s↔Wk E k s:=⟨zkV E 5 s k,zkW E 5 s k h⟩
theorem zeD (l:List (Str×Int))(k:Str)(v:Int):(lset l k v).map (·.1)=addT (l.map (·.1)) k:=by
 have e:l.any (fun kv=>decide (kv.1=k))=true↔k∈l.map (·.1):=by
  rw[List.any_eq_true,List.mem_map]
  constructor
  ·rintro⟨x,hx,h⟩;exact⟨x,hx,of_decide_eq_true h⟩
  ·rintro⟨x,hx,h⟩;exact⟨x,hx,decide_eq_true h⟩
 unfold lset addT
 by_cases h:k∈l.map (·.1)
 ·rw[if_pos h,if_pos (e.mpr h),List.map_map]
  refine List.map_congr_left fun x _=> ?_
  show(if x.1=k then (x.1,v) else x).1=x.1
  split<;>rfl
 ·rw[if_neg h,if_neg (fun z=>h (e.mp z)),List.map_append];rfl
theorem zls (E:zaN):(zeI E).map (·.1)=uniq (zau E):=by
 have:∀(F:zaN) (l:List (Str×Int)),(F.foldl (fun a e=>lset (lset a e.1 0) e.2 0) l).map (·.1)=(zau F).foldl addT (l.map (·.1)):=by
  intro F
  induction F with
  | nil=>intro l;rfl
  | cons e r ih=>
   intro l
   rw[List.foldl_cons,ih,zeD,zeD];rfl
 exact this E []
theorem zcx {ts:List Str}{y:Str} :y∈uniq ts↔y∈ts:=by unfold uniq;rw[zbV];simp
theorem zfn (ts:List Str):(uniq ts).Nodup:=zbq (zs:= []) (by exact List.nodup_nil)
theorem zk5 {E:zaN} :∀(F:zaN) (l:List (Str×Int)),(∀e∈F,e.1∈l.map (·.1))→(zcV F l).map (·.1)=l.map (·.1):=by
 intro F
 induction F with
 | nil=>
  rintro _ _
  exact rfl
 | cons e r ih=>
  rintro l h
  have e1:(relax l e).map (·.1)=l.map (·.1):=by
   unfold relax;rw[zeD];unfold addT;rw[if_pos (h e List.mem_cons_self)]
  show(zcV r (relax l e)).map (·.1)=_;rw[ih (relax l e) (fun f hf=>by rw[e1];exact h f (List.mem_cons_of_mem _ hf)),e1]
theorem zec (E:zaN):∀n,(runL E n).map (·.1)=uniq (zau E):=by
 intro n
 induction n with
 | zero=>
  exact zls E
 | succ n ih=>
  rw[zda,zk5 (E:=E) E _ (fun e he=>by rw[ih,zcx];exact List.mem_flatMap.mpr ⟨e,he,by exact List.mem_cons_self⟩),ih]
theorem ziO (E:zaN):zdB E=true↔∃m,Wk E 5 m:=by
 unfold zdB;rw[zec]
 constructor
 ·intro h
  cases z:(uniq (zau E)).filter fun s=>decide (4 < (lget (runL E 5) s).getD 0) with
  | nil=>rw[z] at h;exact ftE h
  | cons m r=>
   have hm:m∈(uniq (zau E)).filter fun s=>decide (4 < (lget (runL E 5) s).getD 0):=by rw[z];simp
   have h2:=of_decide_eq_true (List.mem_filter.mp hm).2;exact⟨m,(zfS E m 5 (Nat.le_refl _)).mp (show(5:Int)≤(lget (runL E 5) m).getD 0 by assumption)⟩
 ·rintro⟨m,h⟩
  have h2:(5:Int)≤(lget (runL E 5) m).getD 0:=(zfS E m 5 (Nat.le_refl _)).mpr h
  have hm:m∈(uniq (zau E)).filter fun s=>decide (4 < (lget (runL E 5) s).getD 0):=List.mem_filter.mpr ⟨zcx.mpr h.ends,decide_eq_true ‹_›⟩
  cases z:(uniq (zau E)).filter fun s=>decide (4 < (lget (runL E 5) s).getD 0) with
  | nil=>rw[z] at hm;exact mnE hm
  | cons _ _=>rfl
theorem zgK (E:zaN){k:Nat}(hk:k≤4){m:Str} :m∈((runL E 5).map (·.1)).filter (fun s=>lget (runL E 5) s==some (k:Int))↔m∈zau E∧Wk E k m∧ ¬ Wk E (k+1) m:=by
 rw[List.mem_filter,zec,zcx]
 refine and_congr_right fun hm=> ?_
 obtain⟨a,ha⟩:∃a,lget (runL E 5) m=some a:=zi1 (by rw[zec,zcx];exact hm)
 have hl:lv (runL E 5) m=a:=by unfold lv;rw[ha];rfl
 have h1:=zfS E m k (by exact leK ‹_› rfl);have h2:=zfS E m (k+1) (by exact slK ‹_› rfl);rw[ha,←h1,←h2,hl]
 constructor
 ·intro h;have:=eq_of_beq h;obtain rfl:=Option.some.inj this;exact⟨Int.le_refl _,by lia⟩
 ·rintro⟨x,y⟩;have:a=(k:Int):=by lia
  subst this;exact BEq.rfl
inductive Slot where
 | inst | dd | dict | ready
 | info (k:Nat) | ns (k:Nat) | suc (k:Nat)
noncomputable abbrev Node:=Str×Int×List Str
structure Srt where
 nodes:List Node
 ready:Option (List Str)
 pass:Int
 fin:Int
noncomputable def Srt.ok (S:Srt):Slot→Prop
 | .inst=>True
 | .dd=>True
 | .dict=>True
 | .ready=>S.ready.isSome=true
 | .info k=>k < S.nodes.length
 | .ns k=>k < S.nodes.length
 | .suc k=>k < S.nodes.length
noncomputable def zaU:Node:=(q "",0,[])
noncomputable def zae (ad:Slot→Nat)(j:Nat):List Node→List (Str×AV)
 | []=> []
 | n::r=>(n.1,.obj (ad (.info j)))::zae ad (j+1) r
theorem zaz {ad:Slot→Nat}{j:Nat}{n:Node}{r:List Node} :zae ad j (n::r)=(n.1,.obj (ad (.info j)))::zae ad (j+1) r:=rfl
noncomputable def zaM (ad:Slot→Nat)(S:Srt):List (Str×AV):=
 [(q "_node2info",.obj (ad .dict)),(q "_ready_nodes",if S.ready.isSome=true then .obj (ad .ready) else .none),(q "_npassedout",.int S.pass),(q "_nfinished",.int S.fin)]
noncomputable def zgh (ad:Slot→Nat)(S:Srt):Slot→Cell
 | .inst=>.inst 171 (ad .dd)
 | .dd=>.ns (zaM ad S)
 | .dict=>.dct (zae ad 0 S.nodes) none
 | .ready=>.lst (txts (S.ready.getD []))
 | .info k=>.info (ad (.ns k)) (some (.str (S.nodes.getD k zaU).1)) (some (.int (S.nodes.getD k zaU).2.1)) (some (.obj (ad (.suc k))))
 | .ns _=>.ns []
 | .suc k=>.lst (txts (S.nodes.getD k zaU).2.2)
structure SorAt (H:List Cell)(ad:Slot→Nat)(S:Srt):Prop where
 cells:∀s,S.ok s→H[ad s]? =some (zgh ad S s)
 inj:∀s t,S.ok s→S.ok t→ad s=ad t→s=t
 nd:(S.nodes.map (·.1)).Nodup
noncomputable def Apart (S:Srt)(ad:Slot→Nat)(H H':List Cell):Prop:=H.length≤H'.length∧∀j,j < H.length→(∀s,S.ok s→ad s≠j)→H'[j]? =H[j]?
theorem Apart.refl {S:Srt}{ad:Slot→Nat}{H:List Cell} :Apart S ad H H:=⟨Nat.le_refl _,fun _ _ _=>rfl⟩
theorem SorAt.lt {H:List Cell}{ad:Slot→Nat}{S:Srt}(A:SorAt H ad S){s:Slot}(h:S.ok s):ad s < H.length:=(List.getElem?_eq_some_iff.mp (A.cells s h)).1
theorem SorAt.frame {H H':List Cell}{ad:Slot→Nat}{S:Srt}(A:SorAt H ad S)(h:∀s,S.ok s→H'[ad s]? =H[ad s]?):SorAt H' ad S:=⟨fun s hs=>(h s hs).trans (A.cells s hs),A.inj,A.nd⟩
theorem SorAt.more {H:List Cell}{ad:Slot→Nat}{S:Srt}(A:SorAt H ad S)(l:List Cell):SorAt (H++l) ad S:=A.frame fun s hs=>by rw[List.getElem?_append_left (A.lt hs)]
theorem SorAt.setOther {H:List Cell}{ad:Slot→Nat}{S:Srt}(A:SorAt H ad S){j:Nat}{c:Cell}(hj:∀s,S.ok s→ad s≠j):SorAt (H.set j c) ad S:=A.frame fun s hs=>by rw[List.getElem?_set_ne (fun e=>hj s hs e.symm)]
theorem SorAt.upd {H:List Cell}{ad:Slot→Nat}{S S':Srt}{s:Slot}{c:Cell}(A:SorAt H ad S)(hs:S.ok s)(hok:∀t,S'.ok t↔S.ok t)(hn:S'.nodes.map (·.1)=S.nodes.map (·.1))(hc:c=zgh ad S' s)(h:∀t,S.ok t→t≠s→zgh ad S' t=zgh ad S t):SorAt (H.set (ad s) c) ad S':=by
 subst hc;refine⟨fun t ht=> ?_,fun a b x y=>A.inj a b ((hok a).mp x) ((hok b).mp y),by rw[hn];exact A.nd⟩;have ht':=(hok t).mp ht
 by_cases e:t=s
 ·subst e;rw[List.getElem?_set_self (A.lt ht')]
 ·rw[List.getElem?_set_ne (fun z=>e (A.inj t s ht' hs z.symm)),A.cells t ht',h t ht' e]
theorem Apart.set {S:Srt}{ad:Slot→Nat}{H H':List Cell}{s:Slot}{c:Cell}(A:Apart S ad H H')(hs:S.ok s):Apart S ad H (H'.set (ad s) c):=⟨by rw[List.length_set];exact A.1,fun j hj hn=>by rw[List.getElem?_set_ne (hn s hs)];exact A.2 j hj hn⟩
theorem Apart.more {S:Srt}{ad:Slot→Nat}{H H':List Cell}(A:Apart S ad H H')(l:List Cell):Apart S ad H (H'++l):=⟨by rw[List.length_append];exact Nat.le_trans A.1 (Nat.le_add_right _ _),fun j hj hn=>by rw[List.getElem?_append_left (Nat.lt_of_lt_of_le hj A.1)];exact A.2 j hj hn⟩
theorem Apart.setNew {S:Srt}{ad:Slot→Nat}{H H':List Cell}{i:Nat}{c:Cell}(A:Apart S ad H H')(hi:H.length≤i):Apart S ad H (H'.set i c):=⟨by rw[List.length_set];exact A.1,fun j hj hn=>by rw[List.getElem?_set_ne (by exact neT' ‹_› ‹_›)];exact A.2 j hj hn⟩
noncomputable def Wider (S S':Srt)(ad ad':Slot→Nat)(n:Nat):Prop:=∀s,S'.ok s→(S.ok s∧ad' s=ad s)∨n≤ad' s
theorem Apart.trans {S S':Srt}{ad ad':Slot→Nat}{H H' H'':List Cell}(A:Apart S ad H H')(W:Wider S S' ad ad' H.length)(B:Apart S' ad' H' H''):Apart S ad H H'':=
 ⟨Nat.le_trans A.1 B.1,fun j hj hn=>by
  rw[B.2 j (Nat.lt_of_lt_of_le hj A.1) fun s hs=>by
   rcases W s hs with ⟨h,e⟩ | h
   ·rw[e];exact hn s h
   ·exact neT' ‹_› ‹_›]
  exact A.2 j hj hn⟩
theorem Wider.refl {S:Srt}{ad:Slot→Nat}{n:Nat} :Wider S S ad ad n:=fun s h=>.inl ⟨h,rfl⟩
theorem Wider.trans {S S' S'':Srt}{ad ad' ad'':Slot→Nat}{n m:Nat}(a:Wider S S' ad ad' n)(b:Wider S' S'' ad' ad'' m)(h:n≤m):Wider S S'' ad ad'' n:=fun s hs=>by
 rcases b s hs with ⟨x,e⟩ | x
 ·rcases a s x with ⟨y,e'⟩ | y
  ·exact .inl ⟨y,e.trans e'⟩
  ·exact .inr (by exact leE' ‹_› ‹_›)
 ·exact .inr (by exact Nat.le_trans ‹_› ‹_›)
theorem zbd {ad:Slot→Nat} :∀{nodes:List Node} {j k:Nat} {n:Node},(nodes.map (·.1)).Nodup→nodes[k]? =some n→dget (zae ad j nodes) n.1=some (.obj (ad (.info (j+k))))
 | [],_,_,_,_,e=>by simp at e
 | m::r,j,0,n,_,e=>by
  simp at e;subst e
  rw[zaz];unfold dget;simp
 | m::r,j,k+1,n,nd,e=>by
  simp only[List.getElem?_cons_succ] at e;simp only[List.map_cons,List.nodup_cons] at nd
  have hne: ¬ m.1=n.1:=fun z=>nd.1 (z▸List.mem_map_of_mem (f:=(·.1)) (List.mem_of_getElem? e))
  have:=zbd (ad:=ad) (j:=j+1) nd.2 e;unfold dget at this ⊢;rw[zaz,List.find?_cons];simp only[hne,decide_false];rw[this,show j+1+k=j+(k+1) by exact Nat.add_right_comm _ _ _]
theorem zd1 {ad:Slot→Nat} :∀{nodes:List Node} {j:Nat} {x:Str},x∉nodes.map (·.1)→dget (zae ad j nodes) x=none
 | [],_,_,_=>rfl
 | m::r,j,x,h=>by
  simp only[List.map_cons,List.mem_cons,not_or] at h;have:=zd1 (ad:=ad) (j:=j+1) h.2;unfold dget at this ⊢;rw[zaz,List.find?_cons]
  have hne: ¬ m.1=x:=fun z=>h.1 z.symm
  simp only[hne,decide_false];exact this
theorem zc3 {ad:Slot→Nat} :∀{nodes:List Node} {j:Nat},(zae ad j nodes).length=nodes.length
 | [],_=>rfl
 | _::_,_=>by rw[zaz,List.length_cons,List.length_cons,zc3]
theorem zbO {ad:Slot→Nat} :∀{nodes:List Node} {j:Nat},(zae ad j nodes).map (·.1)=nodes.map (·.1)
 | [],_=>rfl
 | _::_,_=>by rw[zaz,List.map_cons,List.map_cons,zbO]
theorem zcp {ad:Slot→Nat} :∀{nodes:List Node} {j:Nat},(zae ad j nodes).map (·.2)=(List.range' j nodes.length).map fun k=>.obj (ad (.info k))
 | [],_=>rfl
 | _::_,_=>by rw[zaz,List.map_cons,List.length_cons,List.range'_succ,List.map_cons,zcp]
theorem zdK {ad ad':Slot→Nat} :∀{nodes:List Node} {j:Nat},(∀k,j≤k→k < j+nodes.length→ad' (.info k)=ad (.info k))→zae ad' j nodes=zae ad j nodes
 | [],_,_=>rfl
 | _::_,j,h=>by
  rw[zaz,zaz,h j (Nat.le_refl _) (by simp),zdK fun k a b=>h k (by exact Nat.le_of_lt ‹_›) (by rw[List.length_cons];lia)]
theorem zd0 {ad:Slot→Nat} :∀{nodes:List Node} {j:Nat} {n:Node},zae ad j (nodes++ [n])=zae ad j nodes++ [(n.1,.obj (ad (.info (j+nodes.length))))]
 | [],_,_=>rfl
 | _::r,j,n=>by
  show _::zae ad (j+1) (r++ [n])=_;rw[zd0,List.length_cons,show j+1+r.length=j+(r.length+1) by exact Nat.add_right_comm _ _ _];rfl
theorem zjd {es:List (Str×AV)}{k:Str}{v:AV}(h:k∉es.map (·.1)):dset es k v=es++ [(k,v)]:=by
 unfold dset;rw[if_neg];intro z;obtain⟨kv,hkv,e⟩:=List.any_eq_true.mp z;exact h (by rw[←of_decide_eq_true e];exact List.mem_map_of_mem (f:=(·.1)) hkv)
end
section
variable {w:World}{Φ:Fm}{d:Nat}{H H':List Cell}{σ':List (Str×AV)}
noncomputable def srt0:Srt:=⟨[],none,0,0⟩
theorem zkA {i dd:Nat}(T:TW w)(e:H[i]? =some (.inst 171 dd))(e':H[dd]? =some (.ns []))(hne:i≠dd):
  SSs pW w (KK w) Φ d (zan (inS (topS 12) 0)) (zaf (inS (topS 12) 0)) [(q "self",.obj i),(q "graph",.none)] H .next [(q "self",.obj i),(q "graph",.none)]
   ((H++ [Cell.dct [] none]).set dd (Cell.ns [(q "_node2info",.obj H.length),(q "_ready_nodes",.none),(q "_npassedout",.int 0),(q "_nfinished",.int 0)])):=by
 have hi:=(List.getElem?_eq_some_iff.mp e).1;have hd:=(List.getElem?_eq_some_iff.mp e').1
 have at1:∀es,((H++ [Cell.dct [] none]).set dd (.ns es))[i]? =some (.inst 171 dd):=fun es=>by rw[List.getElem?_set_ne (fun z=>hne z.symm),List.getElem?_append_left hi,e]
 have at2:∀es,((H++ [Cell.dct [] none]).set dd (.ns es))[dd]? =some (.ns es):=fun es=>List.getElem?_set_self (by simp;exact Nat.lt_succ_of_lt ‹_›)
 refine SSs.cons (σ1:= [(q "self",.obj i),(q "graph",.none)]) (cn:=(H++ [Cell.dct [] none]).set dd (Cell.ns [(q "_node2info",.obj H.length)])) (SS.assign (fun _ _ _=>rfl) SE.aG (SA.attr (es:= []) (dd:=dd) (SE.name ⟨rfl,rfl⟩ rfl) zaB zaE (by rw[List.getElem?_append_left hi,e]) (by rw[List.getElem?_append_left hd,e']) (by decide))) ?_;refine SSs.cons (σ1:= [(q "self",.obj i),(q "graph",.none)]) (cn:=(H++ [Cell.dct [] none]).set dd (Cell.ns [(q "_node2info",.obj H.length),(q "_ready_nodes",.none)])) ?s2 ?_
 case s2=>
  have hs:∀es es',((H++ [Cell.dct [] none]).set dd (.ns es)).set dd (.ns es')=(H++ [Cell.dct [] none]).set dd (.ns es'):=fun es es'=>List.set_set ..
  rw[←hs [(q "_node2info",.obj H.length)] [(q "_node2info",.obj H.length),(q "_ready_nodes",.none)]];exact SS.assign (fun _ _ _=>rfl) SE.none (SA.attr (SE.name ⟨rfl,rfl⟩ rfl) zaB zao (at1 [(q "_node2info",.obj H.length)]) (at2 [(q "_node2info",.obj H.length)]) (Nat.le_of_ble_eq_true rfl))
 refine SSs.cons (σ1:= [(q "self",.obj i),(q "graph",.none)]) (cn:=(H++ [Cell.dct [] none]).set dd (Cell.ns [(q "_node2info",.obj H.length),(q "_ready_nodes",.none),(q "_npassedout",.int 0)])) ?s3 ?_
 case s3=>
  have hs:∀es es',((H++ [Cell.dct [] none]).set dd (.ns es)).set dd (.ns es')=(H++ [Cell.dct [] none]).set dd (.ns es'):=fun es es'=>List.set_set ..
  rw[←hs [(q "_node2info",.obj H.length),(q "_ready_nodes",.none)] [(q "_node2info",.obj H.length),(q "_ready_nodes",.none),(q "_npassedout",.int 0)]];exact SS.assign (fun _ _ _=>rfl) SE.int (SA.attr (SE.name ⟨rfl,rfl⟩ rfl) zaB zbw (at1 [(q "_node2info",.obj H.length),(q "_ready_nodes",.none)]) (at2 [(q "_node2info",.obj H.length),(q "_ready_nodes",.none)]) (Nat.le_of_ble_eq_true rfl))
 refine SSs.cons (σ1:= [(q "self",.obj i),(q "graph",.none)]) (cn:=(H++ [Cell.dct [] none]).set dd (Cell.ns [(q "_node2info",.obj H.length),(q "_ready_nodes",.none),(q "_npassedout",.int 0),(q "_nfinished",.int 0)])) ?s4 ?_
 case s4=>
  have hs:∀es es',((H++ [Cell.dct [] none]).set dd (.ns es)).set dd (.ns es')=(H++ [Cell.dct [] none]).set dd (.ns es'):=fun es es'=>List.set_set ..
  rw[←hs [(q "_node2info",.obj H.length),(q "_ready_nodes",.none),(q "_npassedout",.int 0)] [(q "_node2info",.obj H.length),(q "_ready_nodes",.none),(q "_npassedout",.int 0),(q "_nfinished",.int 0)]];exact SS.assign (fun _ _ _=>rfl) SE.int (SA.attr (SE.name ⟨rfl,rfl⟩ rfl) zaB zbK (at1 [(q "_node2info",.obj H.length),(q "_ready_nodes",.none),(q "_npassedout",.int 0)]) (at2 [(q "_node2info",.obj H.length),(q "_ready_nodes",.none),(q "_npassedout",.int 0)]) (Nat.le_of_ble_eq_true rfl))
 exact SSs.cons (SS.ifF (ST.cmp (SE.name ⟨rfl,rfl⟩ rfl) SE.none SCmp.am) SSs.nil) SSs.nil
theorem zoH {α:Type}{xs:List α}{x y z:α} :(xs++ [x]++ [y]++ [z])[xs.length]? =some x:=by rw[List.append_assoc,List.append_assoc,List.getElem?_append_right (Nat.le_refl _),Nat.sub_self];rfl
theorem zno {α:Type}{xs:List α}{x y z:α} :(xs++ [x]++ [y]++ [z])[xs.length+1]? =some y:=by rw[List.append_assoc,List.append_assoc,List.getElem?_append_right (Nat.le_add_right _ 1),Nat.add_sub_cancel_left];rfl
theorem znn {α:Type}{xs:List α}{x y z:α} :(xs++ [x]++ [y]++ [z])[xs.length+2]? =some z:=by rw[List.append_assoc,List.append_assoc,List.getElem?_append_right (Nat.le_add_right _ 2),Nat.add_sub_cancel_left];rfl
noncomputable def zgq (n:Nat):Slot→Nat
 | .dd=>n
 | .inst=>n+1
 | .dict=>n+2
 | _=>0
theorem c_ts {d:Nat}(T:TW w):∃H',(∀Φ:Fm,SCc pW w (KK w) Φ (d+2) (.ref 171) [] H (.obj (H.length+1)) H')∧SorAt H' (zgq H.length) srt0∧(∀j,j < H.length→H'[j]? =H[j]?)∧H.length≤H'.length:=by
 have e1:(H++ [Cell.ns []]++ [Cell.inst 171 H.length])[H.length+1]? =some (.inst 171 H.length):=by exact zg5
 have e2:(H++ [Cell.ns []]++ [Cell.inst 171 H.length])[H.length]? =some (.ns []):=by exact zib
 have len:(H++ [Cell.ns []]++ [Cell.inst 171 H.length]).length=H.length+2:=by exact zb5
 refine⟨_,fun Φ=>SCc.make (d:=d+1) zmA znV zo5 (.inl rfl) (SCc.gen (f:=.next) (ns:= [q "self",q "graph"]) (xs:= [.obj (H.length+1)]) (ds:= [.none]) (dv:= [.none]) T zkb (fun s vs hK h=> ?_) (fun _ _=>.cons .none .nil) (by decide) (fun x hx=> ?_) rfl fun L=>zkA T e1 e2 (by lia)),?_,?_,?_⟩
 ·refine znR h fun v=> ?_
  exact BindsTo.of_defaults (T:=100) rfl (hK 100 _ rfl) rfl rfl rfl
 ·simp at hx
  rcases hx with rfl | rfl<;>exact .inl rfl
 ·refine⟨fun s hs=> ?_,fun a b x y=> ?_,by exact List.nodup_nil⟩
  ·cases s with
   | inst=>show((H++ [Cell.ns []]++ [Cell.inst 171 H.length]++ [Cell.dct [] none]).set H.length _)[H.length+1]? =_;rw[List.getElem?_set_ne (by lia)];exact zno
   | dd=>show((H++ [Cell.ns []]++ [Cell.inst 171 H.length]++ [Cell.dct [] none]).set H.length _)[H.length]? =_;rw[List.getElem?_set_self (by simp),zb5];rfl
   | dict=>show((H++ [Cell.ns []]++ [Cell.inst 171 H.length]++ [Cell.dct [] none]).set H.length _)[H.length+2]? =_;rw[List.getElem?_set_ne (by lia)];exact znn
   | ready=>exact ftE hs
   | info k=>exact absurd hs (Nat.not_lt_zero _)
   | ns k=>exact absurd hs (Nat.not_lt_zero _)
   | suc k=>exact absurd hs (Nat.not_lt_zero _)
  ·cases a<;>cases b<;>first | (intro _;rfl) | (intro z;exact absurd z (Nat.ne_of_lt (Nat.lt_succ_self _))) | (intro z;exact absurd z (Nat.ne_of_gt (Nat.lt_succ_self _))) | (intro z;exact absurd z (Nat.ne_of_lt (Nat.lt_add_of_pos_right (Nat.succ_pos 1)))) | (intro z;exact absurd z (Nat.ne_of_gt (Nat.lt_add_of_pos_right (Nat.succ_pos 1)))) | (cases x;done) | (cases y;done) | exact absurd x (Nat.not_lt_zero _) | exact absurd y (Nat.not_lt_zero _)
 ·intro j hj
  rw[List.getElem?_set_ne (by exact Nat.ne_of_gt ‹_›),List.append_assoc,List.append_assoc,List.getElem?_append_left hj]
 ·simp
  try lia
theorem zkD {n:Str}(T:TW w):SSs pW w (KK w) Φ d (zan (inS (topS 10) 1)) (zaf (inS (topS 10) 1)) [(q "self",.obj (H.length+1)),(q "node",.str n)] (H++ [Cell.ns []]++ [Cell.info H.length none none none]) .next
  [(q "self",.obj (H.length+1)),(q "node",.str n)] (H++ [Cell.ns []]++ [Cell.info H.length (some (.str n)) (some (.int 0)) (some (.obj (H.length+2)))]++ [Cell.lst []]):=by
 have e1:∀nd np su tl,(H++ [Cell.ns []]++ [Cell.info H.length nd np su]++tl)[H.length+1]? =some (.info H.length nd np su):=fun nd np su tl=>by simp
 have e1':∀nd np su,(H++ [Cell.ns []]++ [Cell.info H.length nd np su])[H.length+1]? =some (.info H.length nd np su):=fun nd np su=>by exact zg5
 have e2:∀nd np su tl,(H++ [Cell.ns []]++ [Cell.info H.length nd np su]++tl)[H.length]? =some (.ns []):=fun nd np su tl=>by simp
 have e2':∀nd np su,(H++ [Cell.ns []]++ [Cell.info H.length nd np su])[H.length]? =some (.ns []):=fun nd np su=>by exact zib
 have s1:∀nd np su nd' np' su' tl,(H++ [Cell.ns []]++ [Cell.info H.length nd np su]++tl).set (H.length+1) (.info H.length nd' np' su')=H++ [Cell.ns []]++ [Cell.info H.length nd' np' su']++tl:=fun nd np su nd' np' su' tl=>by simp
 have s1':∀nd np su nd' np' su',(H++ [Cell.ns []]++ [Cell.info H.length nd np su]).set (H.length+1) (.info H.length nd' np' su')=H++ [Cell.ns []]++ [Cell.info H.length nd' np' su']:=fun nd np su nd' np' su'=>by simp
 refine SSs.cons (σ1:= [(q "self",.obj (H.length+1)),(q "node",.str n)]) (cn:=H++ [Cell.ns []]++ [Cell.info H.length (some (.str n)) none none]) ?a ?_
 case a=>
  rw[←s1' none none none (some (.str n)) none none];exact SS.assign (fun _ _ _=>rfl) (SE.name ⟨rfl,rfl⟩ rfl) (SA.slot (SE.name ⟨rfl,rfl⟩ rfl) za7 zkP (e1' none none none) (e2' none none none) (by decide) Turned.at2)
 refine SSs.cons (σ1:= [(q "self",.obj (H.length+1)),(q "node",.str n)]) (cn:=H++ [Cell.ns []]++ [Cell.info H.length (some (.str n)) (some (.int 0)) none]) ?b ?_
 case b=>
  rw[←s1' (some (.str n)) none none (some (.str n)) (some (.int 0)) none];exact SS.assign (fun _ _ _=>rfl) SE.int (SA.slot (SE.name ⟨rfl,rfl⟩ rfl) za7 zaq (e1' (some (.str n)) none none) (e2' (some (.str n)) none none) (by decide) Turned.at1)
 refine SSs.cons ?c SSs.nil
 case c=>
  rw[←s1 (some (.str n)) (some (.int 0)) none (some (.str n)) (some (.int 0)) (some (.obj (H.length+2))) [Cell.lst []]]
  have lo:(H++ [Cell.ns []]++ [Cell.info H.length (some (.str n)) (some (.int 0)) none]).length=H.length+2:=by exact zb5
  have:=SE.listO (pg:=pW) (w:=w) (K:=KK w) (Φ:=Φ) (d:=d) (sc:=zan (inS (topS 10) 1)) (σ:= [(q "self",.obj (H.length+1)),(q "node",.str n)]) (H:=H++ [Cell.ns []]++ [Cell.info H.length (some (.str n)) (some (.int 0)) none]) (pos:=(stT (nthS 2 (zaf (inS (topS 10) 1)))).pos) SL.nil (small rfl);rw[lo] at this;exact SS.assign (fun _ _ _=>rfl) this (SA.slot (SE.name ⟨rfl,rfl⟩ rfl) za7 zbu (e1 (some (.str n)) (some (.int 0)) none [Cell.lst []]) (e2 (some (.str n)) (some (.int 0)) none [Cell.lst []]) (by decide) Turned.at0)
theorem c_ni {n:Str}(T:TW w):SCc pW w (KK w) Φ (d+2) (.ref 74) [.str n] H (.obj (H.length+1)) (H++ [Cell.ns []]++ [Cell.info H.length (some (.str n)) (some (.int 0)) (some (.obj (H.length+2)))]++ [Cell.lst []]):=
 SCc.make (d:=d+1) zmB znW zo6 (.inr ⟨rfl,rfl⟩) (SCc.plain (f:=.next) (ns:= [q "self",q "node"]) T zkc (len2 fun _ _=>rfl) (by decide) (fun x hx=>by simp at hx;rcases hx with rfl | rfl<;>exact .inl rfl) rfl fun L=>zkD T)
noncomputable def Srt.push (S:Srt)(n:Str):Srt:= {S with nodes:=S.nodes++ [(n,0,[])]}
noncomputable def za9 (ad:Slot→Nat)(k h:Nat):Slot→Nat
 | .ns j=>if j=k then h else ad (.ns j)
 | .info j=>if j=k then h+1 else ad (.info j)
 | .suc j=>if j=k then h+2 else ad (.suc j)
 | s=>ad s
theorem zaQ {ad:Slot→Nat}{S:Srt}{h:Nat}{s:Slot}(hs:S.ok s):za9 ad S.nodes.length h s=ad s:=by
 cases s with
 | ns j=>exact if_neg (Nat.ne_of_lt hs)
 | info j=>exact if_neg (Nat.ne_of_lt hs)
 | suc j=>exact if_neg (Nat.ne_of_lt hs)
 | _=>rfl
theorem zfT {S:Srt}{n:Str}{s:Slot}(h:(S.push n).ok s):S.ok s∨s= .ns S.nodes.length∨s= .info S.nodes.length∨s= .suc S.nodes.length:=by
 cases s with
 | ns j=>have:j < (S.nodes++ [(n,0,[])]).length:=h;rw[List.length_append,List.length_singleton] at this;by_cases z:j=S.nodes.length;exact .inr (.inl (by rw[z]));exact .inl (show j < _ by lia)
 | info j=>have:j < (S.nodes++ [(n,0,[])]).length:=h;rw[List.length_append,List.length_singleton] at this;by_cases z:j=S.nodes.length;exact .inr (.inr (.inl (by rw[z])));exact .inl (show j < _ by lia)
 | suc j=>have:j < (S.nodes++ [(n,0,[])]).length:=h;rw[List.length_append,List.length_singleton] at this;by_cases z:j=S.nodes.length;exact .inr (.inr (.inr (by rw[z])));exact .inl (show j < _ by lia)
 | inst=>exact .inl trivial
 | dd=>exact .inl trivial
 | dict=>exact .inl trivial
 | ready=>exact .inl h
theorem znH {H:List Cell}{ad:Slot→Nat}{S:Srt}{n:Str}(A:SorAt H ad S)(hn:n∉S.nodes.map (·.1)):
  SorAt ((H++ [Cell.ns []]++ [Cell.info H.length (some (.str n)) (some (.int 0)) (some (.obj (H.length+2)))]++ [Cell.lst []]).set (ad .dict) (.dct (zae ad 0 S.nodes++ [(n,.obj (H.length+1))]) none)) (za9 ad S.nodes.length H.length) (S.push n):=by
 have hlt:∀s,S.ok s→ad s < H.length:=fun s h=>A.lt h
 have hd:=hlt .dict trivial
 have at_:∀i,i < H.length→i≠ad .dict→((H++ [Cell.ns []]++ [Cell.info H.length (some (.str n)) (some (.int 0)) (some (.obj (H.length+2)))]++ [Cell.lst []]).set (ad .dict) (.dct (zae ad 0 S.nodes++ [(n,.obj (H.length+1))]) none))[i]? =H[i]? :=fun i hi hne=>by
  rw[List.getElem?_set_ne (fun z=>hne z.symm),List.append_assoc,List.append_assoc,List.getElem?_append_left hi]
 have getD_old:∀j,j < S.nodes.length→(S.nodes++ [(n,(0:Int),([]:List Str))]).getD j zaU=S.nodes.getD j zaU:=fun j hj=>by
  rw[List.getD_eq_getElem?_getD,List.getD_eq_getElem?_getD,List.getElem?_append_left hj]
 have getD_new:(S.nodes++ [(n,(0:Int),([]:List Str))]).getD S.nodes.length zaU=(n,0,[]):=by
  rw[List.getD_eq_getElem?_getD,List.getElem?_append_right (Nat.le_refl _)];simp
 refine⟨fun s hs=> ?_,fun a b ha hb e=> ?_,?_⟩
 ·rcases zfT hs with h | rfl | rfl | rfl
  ·rw[zaQ h]
   by_cases hdct:s= .dict
   ·subst hdct
    rw[List.getElem?_set_self (by simp;exact Nat.lt_of_lt_of_le ‹_› (Nat.le_add_right _ _))];show some _=some (Cell.dct (zae _ 0 (S.nodes++ [(n,0,[])])) none);rw[zd0,zdK (ad:=ad) (ad':=za9 ad S.nodes.length H.length) fun k _ hk=>zaQ (S:=S) (s:=.info k) (show k < S.nodes.length by simpa using hk)];rw[show za9 ad S.nodes.length H.length (.info (0+S.nodes.length))=H.length+1 from if_pos (Nat.zero_add _)]
   ·rw[at_ _ (hlt s h) (fun z=>hdct (A.inj _ _ h trivial z)),A.cells s h]
    cases s with
    | inst=>rfl
    | dd=>rfl
    | dict=>exact absurd rfl hdct
    | ready=>rfl
    | info j=>
     have hj:j < S.nodes.length:=h;show some (Cell.info _ _ _ _)=some (Cell.info (za9 ad S.nodes.length H.length (.ns j)) (some (.str ((S.nodes++ [(n,0,[])]).getD j zaU).1)) (some (.int ((S.nodes++ [(n,0,[])]).getD j zaU).2.1)) (some (.obj (za9 ad S.nodes.length H.length (.suc j)))));rw[getD_old j hj,zaQ (S:=S) (s:=.ns j) h,zaQ (S:=S) (s:=.suc j) h]
    | ns j=>rfl
    | suc j=>
     have hj:j < S.nodes.length:=h;show some (Cell.lst _)=some (Cell.lst (txts ((S.nodes++ [(n,0,[])]).getD j zaU).2.2));rw[getD_old j hj]
  ·have e0:za9 ad S.nodes.length H.length (.ns S.nodes.length)=H.length:=if_pos rfl
   rw[e0,List.getElem?_set_ne (by exact Nat.ne_of_lt ‹_›)];exact zoH
  ·have e0:za9 ad S.nodes.length H.length (.info S.nodes.length)=H.length+1:=if_pos rfl
   rw[e0,List.getElem?_set_ne (by lia)];show _=some (Cell.info (za9 ad S.nodes.length H.length (.ns S.nodes.length)) (some (.str ((S.nodes++ [(n,0,[])]).getD S.nodes.length zaU).1)) (some (.int ((S.nodes++ [(n,0,[])]).getD S.nodes.length zaU).2.1)) (some (.obj (za9 ad S.nodes.length H.length (.suc S.nodes.length)))));rw[getD_new,show za9 ad S.nodes.length H.length (.ns S.nodes.length)=H.length from if_pos rfl,show za9 ad S.nodes.length H.length (.suc S.nodes.length)=H.length+2 from if_pos rfl];exact zno
  ·have e0:za9 ad S.nodes.length H.length (.suc S.nodes.length)=H.length+2:=if_pos rfl
   rw[e0,List.getElem?_set_ne (by lia)];show _=some (Cell.lst (txts ((S.nodes++ [(n,0,[])]).getD S.nodes.length zaU).2.2));rw[getD_new];exact znn
 ·have nw:∀s,S.ok s→za9 ad S.nodes.length H.length s < H.length:=fun s h=>by rw[zaQ h];exact hlt s h
  have e1:za9 ad S.nodes.length H.length (.ns S.nodes.length)=H.length:=if_pos rfl;have e2:za9 ad S.nodes.length H.length (.info S.nodes.length)=H.length+1:=if_pos rfl;have e3:za9 ad S.nodes.length H.length (.suc S.nodes.length)=H.length+2:=if_pos rfl
  rcases zfT ha with h | rfl | rfl | rfl<;>rcases zfT hb with h' | rfl | rfl | rfl<;>first
   | rfl
   | (rw[zaQ h,zaQ h'] at e;exact A.inj _ _ h h' e)
   | (have:=nw _ h;lia)
   | (have:=nw _ h';lia)
   | lia
 ·show((S.nodes++ [((n,0,[]):Node)]).map fun x:Node=>x.1).Nodup
  rw[List.map_append,List.nodup_append];exact⟨A.nd,by exact List.nodup_cons.mpr ⟨List.not_mem_nil,List.nodup_nil⟩,fun a ha b hb=>by simp at hb;subst hb;rintro rfl;exact hn ha⟩
theorem SorAt.dd {H:List Cell}{ad:Slot→Nat}{S:Srt}(A:SorAt H ad S):H[ad .inst]? =some (.inst 171 (ad .dd))∧H[ad .dd]? =some (.ns (zaM ad S))∧H[ad .dict]? =some (.dct (zae ad 0 S.nodes) none):=⟨A.cells .inst trivial,A.cells .dd trivial,A.cells .dict trivial⟩
theorem zjp {ad:Slot→Nat}{S:Srt}{k:Nat}{n:Node}(T:TW w)(A:SorAt H ad S)(hk:S.nodes[k]? =some n):
  SSs pW w (KK w) Φ d (zan (inS (topS 12) 1)) (zaf (inS (topS 12) 1)) [(q "self",.obj (ad .inst)),(q "node",.str n.1)] H (.ret (.obj (ad (.info k)))) [(q "self",.obj (ad .inst)),(q "node",.str n.1),(q "result",.obj (ad (.info k)))] H:=by
 obtain⟨h1,h2,h3⟩:=A.dd;have hg:=zbd (ad:=ad) (j:=0) A.nd hk;rw[Nat.zero_add] at hg;refine SSs.cons (SS.ifF (ST.cmp (SE.bv (SE.meth (SE.attr (SE.name ⟨rfl,rfl⟩ rfl) zaB zaE h1 h2 rfl rfl) (GM.dict h3 PySem.F.slot_dict_get rfl) .builtin (SG.some (SL.cons (SE.name ⟨rfl,rfl⟩ rfl) SL.nil)) ((SC.bD T h3).eq (by rw[hg];first | done | rfl))) (SA.name (.inl rfl) (.there rfl (.there rfl .nil)))) SE.none (SCmp.ax rfl)) SSs.nil) ?_;exact SSs.stop (SS.ret (SE.name ⟨rfl,rfl⟩ rfl))
theorem zmg {ad:Slot→Nat}{S:Srt}{n:Str}(T:TW w)(A:SorAt H ad S)(hn:n∉S.nodes.map (·.1))(hz:S.nodes.length≤1000):
  SSs pW w (KK w) Φ (d+2) (zan (inS (topS 12) 1)) (zaf (inS (topS 12) 1)) [(q "self",.obj (ad .inst)),(q "node",.str n)] H (.ret (.obj (H.length+1))) [(q "self",.obj (ad .inst)),(q "node",.str n),(q "result",.obj (H.length+1))]
   ((H++ [Cell.ns []]++ [Cell.info H.length (some (.str n)) (some (.int 0)) (some (.obj (H.length+2)))]++ [Cell.lst []]).set (ad .dict) (.dct (zae ad 0 S.nodes++ [(n,.obj (H.length+1))]) none)):=by
 obtain⟨h1,h2,h3⟩:=A.dd;have hg:=zd1 (ad:=ad) (j:=0) hn;have A':=((A.more [Cell.ns []]).more [Cell.info H.length (some (.str n)) (some (.int 0)) (some (.obj (H.length+2)))]).more [Cell.lst []];obtain⟨g1,g2,g3⟩:=A'.dd;have hs:dset (zae ad 0 S.nodes) n (.obj (H.length+1))=zae ad 0 S.nodes++ [(n,.obj (H.length+1))]:=zjd (by rw[zbO];exact hn);rw[←hs]
 refine SSs.cons (SS.ifT (σ1:= [(q "self",.obj (ad .inst)),(q "node",.str n),(q "result",.none)]) (ST.cmp (SE.bv (SE.meth (SE.attr (SE.name ⟨rfl,rfl⟩ rfl) zaB zaE h1 h2 rfl rfl) (GM.dict h3 PySem.F.slot_dict_get rfl) .builtin (SG.some (SL.cons (SE.name ⟨rfl,rfl⟩ rfl) SL.nil)) ((SC.bD T h3).eq (by rw[hg];rfl))) (SA.name (.inl rfl) (.there rfl (.there rfl .nil)))) SE.none SCmp.b0)
  (SSs.cons (SS.bI (SE.aK (SE.glob T ⟨rfl,rfl⟩ rfl zjZ) zn6 (SG.some (SL.cons (SE.name ⟨rfl,rfl⟩ rfl) SL.nil)) (c_ni T).sem) (SA.dictItem (SE.attr (SE.name ⟨rfl,rfl⟩ rfl) zaB zaE g1 g2 rfl rfl) (SE.name ⟨rfl,rfl⟩ rfl) g3 (by rw[zc3,sizeLine_eq];exact leK ‹_› rfl)) (SA.name (.inl rfl) (.there rfl (.there rfl .here)))) SSs.nil)) ?_
 exact SSs.stop (SS.ret (SE.name ⟨rfl,rfl⟩ rfl))
noncomputable def Srt.find (S:Srt)(n:Str):Nat:=S.nodes.findIdx fun x=>x.1=n
noncomputable def Srt.see (S:Srt)(n:Str):Srt:=if n∈S.nodes.map (·.1) then S else S.push n
theorem zhv {ad:Slot→Nat}{S:Srt}{n:Str}(T:TW w)(A:SorAt H ad S)(hz:S.nodes.length≤1000):∃H' ad',(∀Φ:Fm,SCc pW w (KK w) Φ (d+3) (.ref 114) [.obj (ad .inst),.str n] H (.obj (ad' (.info (S.find n)))) H')∧SorAt H' ad' (S.see n)∧Apart S ad H H'∧Wider S (S.see n) ad ad' H.length∧(∀s,S.ok s→ad' s=ad s):=by
 have bind:∀vs:List Value,vs.length= [q "self",q "node"].length→bindArgs zaP ⟨vs,[]⟩=pure ([q "self",q "node"].zip vs):=len2 fun _ _=>rfl
 have loc:∀x∈ [q "self",q "node"],zaP.scope.names.lookup x=some .local∨zaP.scope.names.lookup x=some .cell:=fun x hx=>by simp at hx;rcases hx with rfl | rfl<;>exact .inl rfl
 by_cases h:n∈S.nodes.map (·.1)
 ·have es:S.see n=S:=if_pos h
  rw[es];obtain⟨m,hm,rfl⟩:=List.mem_map.mp h;have hlt:S.find m.1 < S.nodes.length:=List.findIdx_lt_length_of_exists ⟨m,hm,by simp⟩;have hk:S.nodes[S.find m.1]? =some S.nodes[S.find m.1]:=List.getElem?_eq_getElem hlt
  have hname:(S.nodes[S.find m.1]).1=m.1:=by have:=List.findIdx_getElem (w:=hlt) (p:=fun x:Node=>decide (x.1=m.1));exact of_decide_eq_true this
  refine⟨H,ad,?_,A,Apart.refl,Wider.refl,fun _ _=>rfl⟩
  have:=fun(Φ:Fm) L=>zjp (w:=w) (Φ:=Φ.deeper L) (d:=d+2) T A hk
  rw[hname] at this
  exact fun Φ=>SCc.plain (f:=.ret _) (ns:= [q "self",q "node"]) T zb7 bind (by decide) loc rfl (this Φ)
 ·have es:S.see n=S.push n:=if_neg h
  have hf:S.find n=S.nodes.length:=List.findIdx_eq_length_of_false fun x hx=>by
   simp;exact fun z=>h (z▸List.mem_map_of_mem (f:=(·.1)) hx)
  rw[es,hf];refine⟨_,za9 ad S.nodes.length H.length,?_,znH A h,?_,fun s hs=> ?_,fun s hs=>zaQ hs⟩
  ·have:za9 ad S.nodes.length H.length (.info S.nodes.length)=H.length+1:=if_pos rfl
   rw[this]
   exact fun Φ=>SCc.plain (f:=.ret _) (ns:= [q "self",q "node"]) T zb7 bind (by decide) loc rfl fun L=>zmg T A h hz
  ·exact(((Apart.refl.more _).more _).more _).set (s:=.dict) trivial
  ·rcases zfT hs with h | rfl | rfl | rfl
   ·exact .inl ⟨h,zaQ h⟩
   ·exact .inr (Nat.le_of_eq (if_pos rfl).symm)
   ·exact .inr (Nat.le_trans (Nat.le_add_right _ 1) (Nat.le_of_eq (if_pos rfl).symm))
   ·exact .inr (Nat.le_trans (Nat.le_add_right _ 2) (Nat.le_of_eq (if_pos rfl).symm))
end
section
variable {pg:Program}{w:World}{K:Frag}{Φ:Fm}{d:Nat}{sc:Scope}{σ σ':List (Str×AV)}{H H':List Cell}{v x:AV}{env:Env}{O ρ:List Addr}{h:Heap}{e:Expr}{xs:List AV}
theorem zgP {i:Nat}{a:Addr}(e:ρ[i]? =some a):i < ρ.length:=(List.getElem?_eq_some_iff.mp e).1
theorem VR.bd {x:AV}{v:Value}(q:VR h ρ x v):Bd ρ.length x:=
 VR.rec (motive_1:=fun x _ _=>Bd ρ.length x) (motive_2:=fun xs _ _=>Bds ρ.length xs) .none .bool .int .str (fun e=>.obj (zgP e)) (fun e _ _=>.nxt (zgP e)) (fun e _ _=>.vals (zgP e)) (fun _ _=>.rng) (fun _ _ _ r=>.lst r) (fun _ _ _ r=>.tup r) .cst .nil (fun _ _ a b=>.cons a b) q
theorem VRs.bd {xs:List AV}{vs:List Value}(q:VRs h ρ xs vs):Bds ρ.length xs:=VRs.ind (C:=fun xs _=>Bds ρ.length xs) .nil (fun a _ b=>.cons a.bd b) q
theorem ER.bd {es:List (Str×AV)}{fs:List (Str×Value)}(q:ER h ρ es fs):Bde ρ.length es:=by
 induction q with
 | nil=>exact .nil
 | cons a _ ih=>exact .cons a.bd ih
theorem OVR.bd {x:Option AV}{v:Option Value}(q:OVR h ρ x v):Bdo ρ.length x:=by
 cases q with
 | none=>exact .none
 | some a=>exact .some a.bd
theorem CellAt.bd {a:Addr}{c:Cell}(q:CellAt pg w h ρ a c):BdC ρ.length c:=by
 cases q with
 | lst _ r=>exact .lst r.bd
 | dct _ r _=>exact .dct r.bd
 | set=>exact .set
 | uset=>exact .uset
 | ns _ r=>exact .ns fun k=>(r k).bd
 | inst e _=>exact .inst (zgP e)
 | info e _ r=>exact .info (zgP e) (r 0).bd (r 1).bd (r 2).bd
 | iter r _=>exact .iter r.bd
 | titer r _=>cases r with | tup _ _ r=>exact .titer r.bd
 | riter=>exact .riter
 | kiter e _=>exact .kiter (zgP e)
 | viter e _=>exact .viter (zgP e)
 | enum e _=>exact .enum (zgP e)
 | junk=>exact .junk
theorem BdH.of {n:Nat} :∀{H:List Cell},(∀(i:Nat) (c:Cell),H[i]? =some c→BdC n c)→BdH n H
 | [],_=>.nil
 | c::H,q=>.cons (q 0 c rfl) (BdH.of fun i c e=>q (i+1) c e)
theorem Rel.bd (R:Rel pg w K Φ ρ H h):BdH H.length H:=by
 have e:=R.len;rw[←e]
 exact BdH.of fun i c hc=>by
  obtain⟨a,ha⟩:=zdD e hc;exact(R.cell i c a hc ha).bd
theorem SE.bd (f:BdH H.length H→SE pg w K Φ d sc e σ H v σ' H'):SE pg w K Φ d sc e σ H v σ' H':=.mk fun env O ρ s A ok X=>(f X.rel.bd).1 env O ρ s A ok X
theorem SS.bd {c:Stmt}{f:AFlow}(q:BdH H.length H→SS pg w K Φ d sc c σ H f σ' H'):SS pg w K Φ d sc c σ H f σ' H':=.mk fun env O ρ s A ok X=>(q X.rel.bd).1 env O ρ s A ok X
theorem SCc.bd {f:Value}(q:BdH H.length H→SCc pg w K Φ d f xs H v H'):SCc pg w K Φ d f xs H v H':=fun ρ s A vs ok R g p=>q R.bd ρ s A vs ok R g p
end
section
variable {w:World}{Φ:Fm}{d:Nat}{H H':List Cell}{σ':List (Str×AV)}
noncomputable def Srt.setN (S:Srt)(k:Nat)(n:Node):Srt:= {S with nodes:=S.nodes.set k n}
theorem zbS {S:Srt}{k:Nat}{n:Node}(t:Slot):(S.setN k n).ok t↔S.ok t:=by
 cases t<;>first | exact Iff.rfl | (show _ < (S.nodes.set k n).length↔_;rw[List.length_set];exact Iff.rfl)
theorem zbB {S:Srt}{k:Nat}{n m:Node}(hk:S.nodes[k]? =some n)(hm:m.1=n.1):(S.setN k m).nodes.map (·.1)=S.nodes.map (·.1):=by
 obtain⟨h1,h2⟩:=List.getElem?_eq_some_iff.mp hk
 refine List.ext_getElem? fun i=> ?_
 show((S.nodes.set k m).map fun x:Node=>x.1)[i]? =_;rw[List.getElem?_map,List.getElem?_map,List.getElem?_set]
 by_cases e:k=i
 ·subst e;rw[if_pos rfl,if_pos h1,hk];exact congrArg some hm
 ·rw[if_neg e]
theorem zcc {ad:Slot→Nat} :∀{a b:List Node} {j:Nat},a.map (·.1)=b.map (·.1)→zae ad j a=zae ad j b
 | [],[],_,_=>rfl
 | [],_::_,_,h=>by simp at h
 | _::_,[],_,h=>by simp at h
 | x::a,y::b,j,h=>by
  simp only[List.map_cons,List.cons.injEq] at h;rw[zaz,zaz,h.1,zcc h.2]
theorem zcb {l:List Node}{k i:Nat}{n:Node}(hk:k < l.length):(l.set k n).getD i zaU=if i=k then n else l.getD i zaU:=by
 rw[List.getD_eq_getElem?_getD,List.getD_eq_getElem?_getD,List.getElem?_set]
 by_cases e:k=i
 ·subst e;simp[hk]
 ·rw[if_neg e,if_neg (fun z=>e z.symm)]
theorem SorAt.setNp {ad:Slot→Nat}{S:Srt}{k:Nat}{n:Node}(A:SorAt H ad S)(hk:S.nodes[k]? =some n)(v:Int):
  SorAt (H.set (ad (.info k)) (.info (ad (.ns k)) (some (.str n.1)) (some (.int v)) (some (.obj (ad (.suc k)))))) ad (S.setN k (n.1,v,n.2.2)):=by
 have h1:=(List.getElem?_eq_some_iff.mp hk).1
 have hg:S.nodes.getD k zaU=n:=by rw[List.getD_eq_getElem?_getD,hk];rfl
 refine A.upd (s:=.info k) h1 zbS (zbB hk rfl) ?_ fun t ht hne=> ?_
 ·show _=Cell.info (ad (.ns k)) (some (.str ((S.nodes.set k (n.1,v,n.2.2)).getD k zaU).1)) (some (.int ((S.nodes.set k (n.1,v,n.2.2)).getD k zaU).2.1)) (some (.obj (ad (.suc k))))
  rw[zcb h1,if_pos rfl]
 ·cases t with
  | inst=>rfl
  | dd=>rfl
  | ready=>rfl
  | ns j=>rfl
  | dict=>show Cell.dct (zae ad 0 (S.setN k (n.1,v,n.2.2)).nodes) none=Cell.dct (zae ad 0 S.nodes) none;exact congrArg (fun e=>Cell.dct e Option.none) (zcc (zbB hk rfl))
  | info j=>
   have hj: ¬ j=k:=fun z=>hne (by rw[z])
   show Cell.info _ (some (.str ((S.nodes.set k (n.1,v,n.2.2)).getD j zaU).1)) (some (.int ((S.nodes.set k (n.1,v,n.2.2)).getD j zaU).2.1)) _=_
   rw[zcb h1,if_neg hj];rfl
  | suc j=>
   show Cell.lst (txts ((S.nodes.set k (n.1,v,n.2.2)).getD j zaU).2.2)=Cell.lst (txts (S.nodes.getD j zaU).2.2);rw[zcb h1]
   split
   ·rename_i z;rw[z,hg]
   ·rfl
theorem SorAt.setSu {ad:Slot→Nat}{S:Srt}{k:Nat}{n:Node}(A:SorAt H ad S)(hk:S.nodes[k]? =some n)(ts:List Str):
  SorAt (H.set (ad (.suc k)) (.lst (txts ts))) ad (S.setN k (n.1,n.2.1,ts)):=by
 have h1:=(List.getElem?_eq_some_iff.mp hk).1
 have hg:S.nodes.getD k zaU=n:=by rw[List.getD_eq_getElem?_getD,hk];rfl
 refine A.upd (s:=.suc k) h1 zbS (zbB hk rfl) ?_ fun t ht hne=> ?_
 ·show _=Cell.lst (txts ((S.nodes.set k (n.1,n.2.1,ts)).getD k zaU).2.2)
  rw[zcb h1,if_pos rfl]
 ·cases t with
  | inst=>rfl
  | dd=>rfl
  | ready=>rfl
  | ns j=>rfl
  | dict=>show Cell.dct (zae ad 0 (S.setN k (n.1,n.2.1,ts)).nodes) none=Cell.dct (zae ad 0 S.nodes) none;exact congrArg (fun e=>Cell.dct e Option.none) (zcc (zbB hk rfl))
  | suc j=>
   have hj: ¬ j=k:=fun z=>hne (by rw[z])
   show Cell.lst (txts ((S.nodes.set k (n.1,n.2.1,ts)).getD j zaU).2.2)=_
   rw[zcb h1,if_neg hj];rfl
  | info j=>
   show Cell.info _ (some (.str ((S.nodes.set k (n.1,n.2.1,ts)).getD j zaU).1)) (some (.int ((S.nodes.set k (n.1,n.2.1,ts)).getD j zaU).2.1)) _=Cell.info _ (some (.str (S.nodes.getD j zaU).1)) (some (.int (S.nodes.getD j zaU).2.1)) _;rw[zcb h1]
   split
   ·rename_i z;rw[z,hg]
   ·rfl
theorem Apart.setW {S S':Srt}{ad ad':Slot→Nat}{H H':List Cell}{s:Slot}{c:Cell}(A:Apart S ad H H')(W:Wider S S' ad ad' H.length)(hs:S'.ok s):Apart S ad H (H'.set (ad' s) c):=by
 rcases W s hs with ⟨h,e⟩ | h
 ·rw[e];exact A.set h
 ·exact A.setNew h
theorem Wider.setN {S S':Srt}{ad ad':Slot→Nat}{n k:Nat}{m:Node}(W:Wider S S' ad ad' n):Wider S (S'.setN k m) ad ad' n:=fun s hs=>W s ((zbS s).mp hs)
theorem zfR {S:Srt}{n:Str} :∃m,(S.see n).nodes[S.find n]? =some m∧m.1=n:=by
 unfold Srt.see
 by_cases h:n∈S.nodes.map (·.1)
 ·rw[if_pos h]
  obtain⟨m,hm,rfl⟩:=List.mem_map.mp h;have hlt:S.find m.1 < S.nodes.length:=List.findIdx_lt_length_of_exists ⟨m,hm,by simp⟩;exact⟨_,List.getElem?_eq_getElem hlt,by have:=List.findIdx_getElem (w:=hlt) (p:=fun x:Node=>decide (x.1=m.1));exact of_decide_eq_true this⟩
 ·rw[if_neg h]
  have hf:S.find n=S.nodes.length:=List.findIdx_eq_length_of_false fun x hx=>by
   simp;exact fun z=>h (z▸List.mem_map_of_mem (f:=(·.1)) hx)
  rw[hf];exact⟨(n,0,[]),by show(S.nodes++ [((n,0,[]):Node)])[S.nodes.length]? =_;simp,rfl⟩
theorem ziL (S:Srt)(n:Str):(S.see n).ready=S.ready∧(S.see n).pass=S.pass∧(S.see n).fin=S.fin:=by unfold Srt.see;split<;>exact⟨rfl,rfl,rfl⟩
noncomputable def Srt.at (S:Srt)(k:Nat):Node:=S.nodes.getD k zaU
noncomputable def Srt.addSucc (S:Srt)(n p:Str):Srt:=let T:=S.see p;T.setN (S.find p) ((T.at (S.find p)).1,(T.at (S.find p)).2.1,(T.at (S.find p)).2.2++ [n])
noncomputable def Srt.add0 (S:Srt)(n:Str)(k:Nat):Srt:=let T:=S.see n;T.setN (S.find n) ((T.at (S.find n)).1,(T.at (S.find n)).2.1+k,(T.at (S.find n)).2.2)
noncomputable def Srt.add (S:Srt)(n:Str)(ps:List Str):Srt:=ps.foldl (fun S p=>S.addSucc n p) (S.add0 n ps.length)
theorem zdu {S:Srt}{k:Nat}{n:Node}(h:S.nodes[k]? =some n):S.at k=n:=by unfold Srt.at;rw[List.getD_eq_getElem?_getD,h];rfl
theorem zfG {ad:Slot→Nat}{S:Srt}(h:S.ready=none):dget (zaM ad S) (q "_ready_nodes")=some .none:=by unfold zaM;rw[h];rfl
noncomputable def df (i:Nat)(n:Str)(ps:List Str)(o:Nat):List (Str×AV):= [(q "self",.obj i),(q "node",.str n),(q "predecessors",.tup (txts ps)),(q "nodeinfo",.obj o)]
theorem SorAt.info {ad:Slot→Nat}{S:Srt}{k:Nat}{n:Node}(A:SorAt H ad S)(hk:S.nodes[k]? =some n):
  H[ad (.info k)]? =some (.info (ad (.ns k)) (some (.str n.1)) (some (.int n.2.1)) (some (.obj (ad (.suc k)))))∧H[ad (.ns k)]? =some (.ns [])∧H[ad (.suc k)]? =some (.lst (txts n.2.2)):=by
 have h1:=(List.getElem?_eq_some_iff.mp hk).1
 have hg:S.nodes.getD k zaU=n:=by rw[List.getD_eq_getElem?_getD,hk];rfl
 have a:=A.cells (.info k) h1;have b:=A.cells (.ns k) h1;have c:=A.cells (.suc k) h1;subst hg;exact⟨a,b,c⟩
noncomputable def Srt.sm (S:Srt)(B:Nat):Prop:=S.nodes.length≤B∧∀m∈S.nodes,m.2.2.length≤B
theorem zkS {S:Srt}{n:Str}{B:Nat}(h:S.sm B):(S.see n).sm (B+1):=by
 unfold Srt.see
 split
 ·exact⟨by have:=h.1;exact Nat.le_succ_of_le ‹_›,fun m hm=>by have:=h.2 m hm;exact Nat.le_succ_of_le ‹_›⟩
 ·refine⟨by show(S.nodes++ [((n,0,[]):Node)]).length≤_;rw[List.length_append];have:=h.1;simp;assumption,fun m hm=> ?_⟩
  rcases List.mem_append.mp (show m∈S.nodes++ [((n,0,[]):Node)] from hm) with z | z
  ·have:=h.2 m z;exact Nat.le_succ_of_le ‹_›
  ·simp at z;subst z;simp
theorem zkR {S:Srt}{k:Nat}{n:Node}{B:Nat}(h:S.sm B)(hn:n.2.2.length≤B):(S.setN k n).sm B:=by
 refine⟨by show(List.set _ _ _).length≤_;rw[List.length_set];exact h.1,fun m hm=> ?_⟩
 rcases List.mem_or_eq_of_mem_set (show m∈S.nodes.set k n from hm) with z | rfl
 ·exact h.2 m z
 ·exact hn
theorem Srt.sm.more {S:Srt}{B C:Nat}(h:S.sm B)(q:B≤C):S.sm C:=⟨by have:=h.1;exact Nat.le_trans ‹_› ‹_›,fun m hm=>by have:=h.2 m hm;exact Nat.le_trans ‹_› ‹_›⟩
theorem zn9 {S:Srt}{B k:Nat}(h:S.sm B):(S.at k).2.2.length≤B:=by
 unfold Srt.at;rw[List.getD_eq_getElem?_getD]
 cases z:S.nodes[k]? with
 | none=>exact Nat.zero_le _
 | some m=>exact h.2 m (List.mem_of_getElem? z)
theorem zfI {S:Srt}{n p:Str}{B:Nat}(h:S.sm B):(S.addSucc n p).sm (B+2):=by
 have h1:=zkS (n:=p) h;exact zkR (h1.more (by exact Nat.le_succ _)) (by show(_++ [n]).length≤_;rw[List.length_append,List.length_singleton];have:=zn9 (k:=S.find p) h1;exact Nat.succ_le_succ ‹_›)
theorem zl6 {S:Srt}{n:Str}{k B:Nat}(h:S.sm B):(S.add0 n k).sm (B+1):=by
 have h1:=zkS (n:=n) h;exact zkR h1 (zn9 (k:=S.find n) h1)
theorem zkH {n:Str}{ps:List Str}{o i0:Nat}{cN:Srt}{ad0:Slot→Nat}{H0:List Cell}(T:TW w)(hi0:H0.length≤i0):∀(rest:List Str) (k:Nat) (H:List Cell) (ad:Slot→Nat) (S:Srt) (B:Nat),ps.drop k=rest→H[i0]? =some (.titer (txts ps) k)→SorAt H ad S→(∀s,S.ok s→ad s≠i0) →
  Apart cN ad0 H0 H→Wider cN S ad0 ad H0.length→S.sm B→B+2 * rest.length≤900 →
  ∃H' ad',(∀Φ:Fm,Φ.calm=true→SFor pW w (KK w) Φ (d+3) (zan (inS (topS 12) 2)) (stT (nthS 3 (zaf (inS (topS 12) 2)))) i0 (stB (nthS 3 (zaf (inS (topS 12) 2)))) [] (df (ad .inst) n ps o) H .next (df (ad .inst) n ps o) H') ∧
   SorAt H' ad' (rest.foldl (fun S p=>S.addSucc n p) S)∧Apart cN ad0 H0 H'∧Wider cN (rest.foldl (fun S p=>S.addSucc n p) S) ad0 ad' H0.length∧ad' .inst=ad .inst:=by
 intro rest
 induction rest with
 | nil=>
  rintro k H ad S B hk hit A hne Ap W hz hz2
  have hnone:(txts ps)[k]? =none:=by
   have:=List.drop_eq_nil_iff.mp hk;exact List.getElem?_eq_none (by rw[zaa];exact this)
  exact⟨H.set i0 .junk,ad,fun Φ hc=>SFor.out (SN.aI hc hit hnone) SSs.nil,A.setOther hne,Ap.setNew hi0,W,rfl⟩
 | cons p rest ih=>
  rintro k H ad S B hk hit A hne Ap W hz hz2
  have hp:ps[k]? =some p:=by have:=congrArg (·[0]?) hk;simpa using this
  have hk':ps.drop (k+1)=rest:=by have:=congrArg (List.drop 1) hk;rw[List.drop_drop] at this;simpa using this
  have hv:(txts ps)[k]? =some (.str p):=by rw[zbf,hp];rfl
  have hi:=(List.getElem?_eq_some_iff.mp hit).1;have A1:SorAt (H.set i0 (.titer (txts ps) (k+1))) ad S:=A.setOther hne;have Ap1:Apart cN ad0 H0 (H.set i0 (.titer (txts ps) (k+1))):=Ap.setNew hi0;have hit1:(H.set i0 (.titer (txts ps) (k+1)))[i0]? =some (.titer (txts ps) (k+1)):=List.getElem?_set_self hi;simp only[List.length_cons] at hz2;obtain⟨H2,ad2,call,A2,Ap2,W2,old2⟩:=zhv (d:=d) (n:=p) T A1 (by have:=hz.1;lia);obtain⟨m,hm,hm1⟩:=zfR (S:=S) (n:=p);have hz':=zkS (n:=p) hz;have hat:=zdu hm;have A3:=A2.setSu hm (m.2.2++ [n])
  have eS:(S.see p).setN (S.find p) (m.1,m.2.1,m.2.2++ [n])=S.addSucc n p:=by unfold Srt.addSucc;simp only[hat]
  rw[eS] at A3;have hlt:S.find p < (S.see p).nodes.length:=(List.getElem?_eq_some_iff.mp hm).1;have okS:(S.see p).ok (.suc (S.find p)):=hlt;have len1:(H.set i0 (.titer (txts ps) (k+1))).length=H.length:=List.length_set ..;have H0H:H0.length≤(H.set i0 (.titer (txts ps) (k+1))).length:=Ap1.1;have W3:Wider cN (S.see p) ad0 ad2 H0.length:=W.trans W2 H0H;have W4:Wider cN (S.addSucc n p) ad0 ad2 H0.length:=W3.setN;have Ap3:Apart cN ad0 H0 (H2.set (ad2 (.suc (S.find p))) (.lst (txts (m.2.2++ [n])))):=((Ap1.trans W Ap2)).setW W3 okS
  have hne2:∀s,(S.see p).ok s→ad2 s≠i0:=fun s hs=>by
   rcases W2 s hs with ⟨h,e⟩ | h
   ·rw[e];exact hne s h
   ·lia
  have hit2:H2[i0]? =some (.titer (txts ps) (k+1)):=by rw[Ap2.2 i0 (by rw[len1];exact hi) hne];exact hit1
  have hit3:(H2.set (ad2 (.suc (S.find p))) (.lst (txts (m.2.2++ [n]))))[i0]? =some (.titer (txts ps) (k+1)):=by rw[List.getElem?_set_ne (hne2 _ okS)];exact hit2
  obtain⟨H',ad',loop,A',Ap',W',old'⟩:=ih (k+1) _ ad2 (S.addSucc n p) (B+2) hk' hit3 A3 (fun s hs=>hne2 s ((zbS s).mp hs)) Ap3 W4 (zfI hz) (by exact rot1 ‹_›);have oi:ad2 .inst=ad .inst:=old2 .inst trivial;rw[oi] at loop old';refine⟨H',ad',fun Φ hc=> ?_,A',Ap',W',old'⟩;obtain⟨g1,g2,g3⟩:=A1.dd;obtain⟨i1,i2,i3⟩:=A2.info hm;refine SFor.turn (SN.ao hit hv) hit1 .titer (SA.name (.inl rfl) (.there rfl (.there rfl (.there rfl (.there rfl .nil))))) (SSs.weaken (σ1:=df (ad .inst) n ps o++ [(q "pred",.str p),(q "pred_info",.obj (ad2 (.info (S.find p))))]) (SSs.cons (σ1:=df (ad .inst) n ps o++ [(q "pred",.str p),(q "pred_info",.obj (ad2 (.info (S.find p))))]) (cn:=H2) ?a (SSs.cons ?b SSs.nil)) fun y v e=>zah e) (.inl rfl) (loop Φ hc)
  case a=>exact SS.assign (fun _ _ _=>rfl) (SE.meth (SE.name ⟨rfl,rfl⟩ rfl) (GM.inst zaB zcJ zcG g1 g2 rfl) zb8 (SG.some (SL.cons (SE.name ⟨rfl,rfl⟩ rfl) SL.nil)) (call Φ).sem) (SA.name (.inl rfl) (.there rfl (.there rfl (.there rfl (.there rfl (.there rfl .nil))))))
  case b=>
   have hsz:(txts m.2.2).length≤sizeLine:=by rw[zaa,sizeLine_eq];have:=hz'.2 m (List.mem_of_getElem? hm);lia
   rw[zap];exact SS.expr (fun _ _ _=>rfl) (SE.meth (SE.slot (SE.name ⟨rfl,rfl⟩ rfl) za7 zbu i1 i2 rfl rfl) (GM.listO i3 PySem.F.slot_list_append rfl) .builtin (SG.some (SL.cons (SE.name ⟨rfl,rfl⟩ rfl) SL.nil)) (SC.append i3 hsz))
theorem ze4 (S:Srt)(n:Str)(ps:List Str):(S.add n ps).ready=S.ready∧(S.add n ps).pass=S.pass∧(S.add n ps).fin=S.fin:=by
 have h:∀(ps:List Str) (S:Srt),(ps.foldl (fun S p=>S.addSucc n p) S).ready=S.ready∧(ps.foldl (fun S p=>S.addSucc n p) S).pass=S.pass∧(ps.foldl (fun S p=>S.addSucc n p) S).fin=S.fin:=by
  intro ps
  induction ps with
  | nil=>intro S;exact⟨rfl,rfl,rfl⟩
  | cons p r ih=>
   intro S;rw[List.foldl_cons];obtain⟨a,b,c⟩:=ih (S.addSucc n p);obtain⟨a',b',c'⟩:=ziL S p;exact⟨a.trans a',b.trans b',c.trans c'⟩
 obtain⟨a,b,c⟩:=h ps (S.add0 n ps.length);obtain⟨a',b',c'⟩:=ziL S n;exact⟨a.trans a',b.trans b',c.trans c'⟩
theorem zfH {S:Srt}{n:Str}{ps:List Str}{B:Nat}(h:S.sm B):(S.add n ps).sm (B+1+2 * ps.length):=by
 have:∀(ps:List Str) (S:Srt) (B:Nat),S.sm B→(ps.foldl (fun S p=>S.addSucc n p) S).sm (B+2 * ps.length):=by
  intro ps
  induction ps with
  | nil=>intro S B h;exact h
  | cons p r ih=>intro S B h;rw[List.foldl_cons,List.length_cons];exact(ih _ _ (zfI h)).more (by lia)
 exact this ps _ _ (zl6 h)
theorem zoS {n:Str}{ps:List Str}{ad:Slot→Nat}{S:Srt}{B:Nat}(T:TW w)(A:SorAt H ad S)(hr:S.ready=none)(hz:S.sm B)(hB:B+1+2 * ps.length≤900):
  ∃H' ad',(∀Φ:Fm,Φ.calm=true→SCc pW w (KK w) Φ (d+4) (.ref 121) (.obj (ad .inst):: .str n::txts ps) H .none H')∧SorAt H' ad' (S.add n ps)∧Apart S ad H H'∧Wider S (S.add n ps) ad ad' H.length∧ad' .inst=ad .inst:=by
 obtain⟨H1,ad1,call,A1,Ap1,W1,old1⟩:=zhv (d:=d) (n:=n) T A (by have:=hz.1;lia);obtain⟨m,hm,hm1⟩:=zfR (S:=S) (n:=n);have hat:=zdu hm;have A2:=A1.setNp hm (m.2.1+ps.length)
 have eS:(S.see n).setN (S.find n) (m.1,m.2.1+ps.length,m.2.2)=S.add0 n ps.length:=by unfold Srt.add0;simp only[hat]
 rw[eS] at A2;have hlt:S.find n < (S.see n).nodes.length:=(List.getElem?_eq_some_iff.mp hm).1;have okI:(S.see n).ok (.info (S.find n)):=hlt;have W2:Wider S (S.add0 n ps.length) ad ad1 H.length:=W1.setN;have A3:=A2.more [.titer (txts ps) 0];have Ap3:=(Ap1.setW (c:=.info (ad1 (.ns (S.find n))) (some (.str m.1)) (some (.int (m.2.1+ps.length))) (some (.obj (ad1 (.suc (S.find n)))))) W1 okI).more [.titer (txts ps) 0];generalize eH2:H1.set (ad1 (.info (S.find n))) (.info (ad1 (.ns (S.find n))) (some (.str m.1)) (some (.int (m.2.1+ps.length))) (some (.obj (ad1 (.suc (S.find n))))))=H2 at A2 A3 Ap3
 have len2:H2.length=H1.length:=by rw[←eH2,List.length_set]
 obtain⟨H',ad',loop,A',Ap',W',old'⟩:=zkH (d:=d) (n:=n) (ps:=ps) (o:=ad1 (.info (S.find n))) (i0:=H2.length) T (by rw[len2];exact Ap1.1) ps 0 _ ad1 (S.add0 n ps.length) (B+1) rfl (by exact zbN) A3 (fun s hs=>Nat.ne_of_lt (A2.lt hs)) Ap3 W2 (zl6 hz) ‹_›;have oi:ad1 .inst=ad .inst:=old1 .inst trivial;rw[oi] at loop old';refine⟨H',ad',fun Φ hc=> ?_,A',Ap',W',old'⟩;obtain⟨g1,g2,g3⟩:=A.dd;obtain⟨i1,i2,i3⟩:=A1.info hm
 have hsz:(txts ps).length≤sizeLine:=by rw[zaa,sizeLine_eq];lia
 refine SCc.star (σ':=df (ad .inst) n ps (ad1 (.info (S.find n)))) (f:=.next) (ns:= [q "self",q "node"]) (va:=q "predecessors") (xs:= [.obj (ad .inst),.str n]) (ys:=txts ps) T zjb (by decide+kernel) (fun vs ws h=> ?bind) (by decide+kernel) (fun x hx=> ?loc) rfl hsz fun L=> ?body
 case bind=>
  refine zpf h fun a b=> ?_
  cases ws<;>rfl
 case loc=>simp at hx;rcases hx with rfl | rfl | rfl<;>rfl
 case body=>
  refine SSs.cons (SS.ifF (ST.cmp (SE.attr (SE.name ⟨rfl,rfl⟩ rfl) zaB zao g1 g2 (zfG hr) rfl) SE.none SCmp.am) SSs.nil) ?_;refine SSs.cons (σ1:=df (ad .inst) n ps (ad1 (.info (S.find n)))) (SS.assign (fun _ _ _=>rfl) (SE.meth (SE.name ⟨rfl,rfl⟩ rfl) (GM.inst zaB zcJ zcG g1 g2 rfl) zb8 (SG.some (SL.cons (SE.name ⟨rfl,rfl⟩ rfl) SL.nil)) (call _).sem) (SA.name (.inl rfl) (.there rfl (.there rfl (.there rfl .nil))))) ?_;refine SSs.cons (σ1:=df (ad .inst) n ps (ad1 (.info (S.find n)))) (cn:=H2) ?aug (SSs.cons (SS.for (SE.name ⟨rfl,rfl⟩ rfl) SIt.tuple (loop _ hc)) SSs.nil)
  case aug=>
   rw[←eH2];exact SS.aX (SE.name ⟨rfl,rfl⟩ rfl) za7 zaq i1 i2 rfl rfl (SE.call (SE.bltn T ⟨rfl,rfl⟩ rfl zjT zkt) .builtin (SG.some (SL.cons (SE.name ⟨rfl,rfl⟩ rfl) SL.nil)) ((SC.aU hsz).eq (by rw[zaa]))) (SI.addInt) i1 i2 (by decide) Turned.at1
end
end Mine
section
namespace Mine
variable {w:World}{Φ:Fm}{d:Nat}{H H':List Cell}{σ':List (Str×AV)}
noncomputable abbrev Stk:=List (Str×List Str)
noncomputable def adv:Stk→Stk×Option Str
 | []=>([],none)
 | (n,s::r)::t=>((n,r)::t,some s)
 | (_,[])::t=>adv t
noncomputable def nm:Stk→List Str
 | []=> []
 | (n,_)::t=>nm t++ [n]
noncomputable def n2s:Stk→List (Str×AV)
 | []=> []
 | (n,_)::t=>n2s t++ [(n,.int t.length)]
noncomputable def nx (b:Nat):List Nat→List AV
 | []=> []
 | j::t=>nx b t++ [.nxt (b+5+j)]
inductive Fin1 where
 | cyc (ys:List Str)
 | all (seen:List Str)
noncomputable def ysOf (stk:Stk)(n:Str):List Str:=match dget (n2s stk) n with
 | some (.int k)=>((nm stk).drop (clipAt (nm stk).length k)).take ((nm stk).length - clipAt (nm stk).length k)++ [n]
 | _=> [n]
inductive Run (keys:List Str)(sc:Str→List Str):List Str→Stk→Str→Fin1→Prop
 | found {seen stk n} :n∈seen→n∈nm stk→Run keys sc seen stk n (.cyc (ysOf stk n))
 | again {seen stk n m r} :n∈seen→n∉nm stk→(adv stk).2=some m→Run keys sc seen (adv stk).1 m r→Run keys sc seen stk n r
 | stop {seen stk n} :n∈seen→n∉nm stk→(adv stk).2=none→Run keys sc seen stk n (.all seen)
 | push {seen stk n m r} :n∉seen→n∉nm stk→n∈keys→stk.length < 500→seen.length < 500→(adv ((n,sc n)::stk)).2=some m→Run keys sc (n::seen) (adv ((n,sc n)::stk)).1 m r→Run keys sc seen stk n r
 | pushStop {seen stk n} :n∉seen→n∉nm stk→n∈keys→stk.length < 500→seen.length < 500→(adv ((n,sc n)::stk)).2=none→Run keys sc seen stk n (.all (n::seen))
inductive Out (keys:List Str)(sc:Str→List Str):List Str→List Str→Option (List Str)→Prop
 | nil {seen} :Out keys sc [] seen none
 | skip {n r seen b} :n∈seen→Out keys sc r seen b→Out keys sc (n::r) seen b
 | cyc {n r seen y} :n∉seen→Run keys sc seen [] n (.cyc y)→Out keys sc (n::r) seen (some y)
 | run {n r seen seen' b} :n∉seen→Run keys sc seen [] n (.all seen')→Out keys sc r seen' b→Out keys sc (n::r) seen b
theorem zbc {n:Str}{l:List Str}{t:Stk} :nm ((n,l)::t)=nm t++ [n]:=rfl
theorem zdg {n:Str}{l:List Str}{t:Stk} :n2s ((n,l)::t)=n2s t++ [(n,.int t.length)]:=rfl
theorem zev {b j:Nat}{t:List Nat} :nx b (j::t)=nx b t++ [.nxt (b+5+j)]:=rfl
theorem zde:∀(s:Stk),(nm s).length=s.length:=by
 intro s
 induction s with
 | nil=>
  exact rfl
 | cons x9 t ih=>
  obtain⟨_,_⟩:=x9
  rw[zbc,List.length_append,ih];rfl
theorem zlg:∀(s:Stk),(n2s s).length=s.length:=by
 intro s
 induction s with
 | nil=>
  exact rfl
 | cons x9 t ih=>
  obtain⟨_,_⟩:=x9
  rw[zdg,List.length_append,ih];rfl
theorem zgQ {b:Nat} :∀(a:List Nat),(nx b a).length=a.length:=by
 intro a
 induction a with
 | nil=>
  exact rfl
 | cons _ t ih=>
  rw[zev,List.length_append,ih];rfl
theorem zee:∀(s:Stk),(n2s s).map (·.1)=nm s:=by
 intro s
 induction s with
 | nil=>
  exact rfl
 | cons x9 t ih=>
  obtain⟨_,_⟩:=x9
  rw[zdg,zbc,List.map_append,ih];rfl
theorem zc4 {es:List (Str×AV)}{k:Str} :(dget es k).isSome=decide (k∈es.map (·.1)):=by
 unfold dget;rw[Option.isSome_map]
 by_cases h:k∈es.map (·.1)
 ·rw[decide_eq_true h,List.find?_isSome]
  obtain⟨kv,hkv,e⟩:=List.mem_map.mp h;exact⟨kv,hkv,by simp[e]⟩
 ·rw[decide_eq_false h]
  cases z:es.find? (fun kv=>decide (kv.1=k)) with
  | none=>rfl
  | some kv=>
   have h1:=List.find?_some z;simp at h1;exact absurd (List.mem_map.mpr ⟨kv,List.mem_of_find?_eq_some z,h1⟩) h
theorem znO {s:Stk}{n:Str}(h:n∈nm s):∃k:Nat,dget (n2s s) n=some (.int k):=by
 have all:∀s:Stk,∀kv∈n2s s,∃k:Nat,kv.2= .int k:=by
  intro s
  induction s with
  | nil=>intro kv h;exact mnE h
  | cons a t ih=>
   intro kv h;obtain⟨_,_⟩:=a;rw[zdg] at h
   rcases List.mem_append.mp h with z | z
   ·exact ih kv z
   ·simp at z;subst z;exact⟨t.length,rfl⟩
 have h1:(dget (n2s s) n).isSome=true:=by rw[zc4,zee];exact decide_eq_true h
 unfold dget at h1 ⊢
 cases z:(n2s s).find? (fun kv=>decide (kv.1=n)) with
 | none=>rw[z] at h1;exact ftE h1
 | some kv=>obtain⟨k,e⟩:=all s kv (List.mem_of_find?_eq_some z);exact⟨k,congrArg some e⟩
theorem znP {t:Stk}{n:Str}{v:AV}(h:n∉nm t):ddel (n2s t++ [(n,v)]) n=n2s t:=by
 unfold ddel;rw[List.filter_append]
 have:(n2s t).filter (fun kv=>decide (kv.1≠n))=n2s t:=List.filter_eq_self.mpr fun kv hkv=>by
  refine decide_eq_true fun e=>h ?_
  rw[←zee,←e];exact List.mem_map_of_mem (f:=(·.1)) hkv
 rw[this];simp
theorem ze3:∀{s:Stk},(nm s).Nodup→(nm (adv s).1).Nodup
 | [],h=>h
 | (_,_::_)::_,h=>h
 | (_,[])::t,h=>by
  have h':(nm t++ [_]).Nodup:=h;exact ze3 (s:=t) (List.nodup_append.mp h').1
noncomputable def fcH (Hp:List Cell)(c0 c1 c2 c3 c4:Cell)(its:List Cell):List Cell:=Hp++([c0,c1,c2,c3,c4]++its)
section
variable {Hp:List Cell}{c0 c1 c2 c3 c4 c:Cell}{its:List Cell}{i j:Nat}
theorem zc2 (h:i < Hp.length):(fcH Hp c0 c1 c2 c3 c4 its)[i]? =Hp[i]? :=List.getElem?_append_left h
theorem zhc:(fcH Hp c0 c1 c2 c3 c4 its)[Hp.length]? =some c0:=by unfold fcH;rw[List.getElem?_append_right (Nat.le_refl _)];simp
theorem zj6:(fcH Hp c0 c1 c2 c3 c4 its)[Hp.length+1]? =some c1:=by unfold fcH;rw[List.getElem?_append_right (by exact Nat.le_add_right _ _),show Hp.length+1 - Hp.length=1 by lia];rfl
theorem zmR:(fcH Hp c0 c1 c2 c3 c4 its)[Hp.length+2]? =some c2:=by unfold fcH;rw[List.getElem?_append_right (by exact Nat.le_add_right _ _),show Hp.length+2 - Hp.length=2 by lia];rfl
theorem zmQ:(fcH Hp c0 c1 c2 c3 c4 its)[Hp.length+3]? =some c3:=by unfold fcH;rw[List.getElem?_append_right (by exact Nat.le_add_right _ _),show Hp.length+3 - Hp.length=3 by lia];rfl
theorem zlI:(fcH Hp c0 c1 c2 c3 c4 its)[Hp.length+4]? =some c4:=by unfold fcH;rw[List.getElem?_append_right (by exact Nat.le_add_right _ _),show Hp.length+4 - Hp.length=4 by lia];rfl
theorem zoL:(fcH Hp c0 c1 c2 c3 c4 its)[Hp.length+5+j]? =its[j]? :=by
 unfold fcH;rw[List.getElem?_append_right (by lia),List.getElem?_append_right (by simp;lia)]
 congr 1;simp;lia
theorem zhb:(fcH Hp c0 c1 c2 c3 c4 its).set Hp.length c=fcH Hp c c1 c2 c3 c4 its:=by unfold fcH;rw[List.set_append_right _ _ (Nat.le_refl _)];simp
theorem zns:(fcH Hp c0 c1 c2 c3 c4 its).set (Hp.length+1) c=fcH Hp c0 c c2 c3 c4 its:=by unfold fcH;rw[List.set_append_right _ _ (by exact Nat.le_add_right _ _),show Hp.length+1 - Hp.length=1 by lia];rfl
theorem zoK:(fcH Hp c0 c1 c2 c3 c4 its).set (Hp.length+2) c=fcH Hp c0 c1 c c3 c4 its:=by unfold fcH;rw[List.set_append_right _ _ (by exact Nat.le_add_right _ _),show Hp.length+2 - Hp.length=2 by lia];rfl
theorem zi9:(fcH Hp c0 c1 c2 c3 c4 its).set (Hp.length+3) c=fcH Hp c0 c1 c2 c c4 its:=by unfold fcH;rw[List.set_append_right _ _ (by exact Nat.le_add_right _ _),show Hp.length+3 - Hp.length=3 by lia];rfl
theorem znr:(fcH Hp c0 c1 c2 c3 c4 its).set (Hp.length+4) c=fcH Hp c0 c1 c2 c3 c its:=by unfold fcH;rw[List.set_append_right _ _ (by exact Nat.le_add_right _ _),show Hp.length+4 - Hp.length=4 by lia];rfl
theorem zlH:(fcH Hp c0 c1 c2 c3 c4 its).set (Hp.length+5+j) c=fcH Hp c0 c1 c2 c3 c4 (its.set j c):=by
 unfold fcH;rw[List.set_append_right _ _ (by lia),List.set_append_right _ _ (by simp;lia)]
 congr 3;simp;lia
theorem zja:fcH Hp c0 c1 c2 c3 c4 its++ [c]=fcH Hp c0 c1 c2 c3 c4 (its++ [c]):=by unfold fcH;simp
theorem zn2:(fcH Hp c0 c1 c2 c3 c4 its).length=Hp.length+5+its.length:=by unfold fcH;simp;lia
end
inductive ItOk (sa:Str→Nat)(sc:Str→List Str)(its:List Cell):List Nat→Stk→Prop
 | nil:ItOk sa sc its [] []
 | cons {j n p adr t} :its[j]? =some (.iter (.obj (sa n)) p)→j∉adr→ItOk sa sc its adr t→ItOk sa sc its (j::adr) ((n,(sc n).drop p)::t)
theorem ItOk.set {sa:Str→Nat}{sc:Str→List Str}{its:List Cell}{adr:List Nat}{t:Stk}{j:Nat}{c:Cell}(h:ItOk sa sc its adr t):j∉adr→ItOk sa sc (its.set j c) adr t:=by
 induction h with
 | nil=>intro _;exact .nil
 | @cons i n p adr t e hn _ ih=>
  intro hj;simp only[List.mem_cons,not_or] at hj;exact .cons (by rw[List.getElem?_set_ne hj.1];exact e) hn (ih hj.2)
theorem ItOk.more {sa:Str→Nat}{sc:Str→List Str}{its:List Cell}{adr:List Nat}{t:Stk}(h:ItOk sa sc its adr t)(l:List Cell):ItOk sa sc (its++l) adr t:=by
 induction h with
 | nil=>exact .nil
 | cons e hn _ ih=>exact .cons (by rw[List.getElem?_append_left (List.getElem?_eq_some_iff.mp e).1];exact e) hn ih
theorem ItOk.lt {sa:Str→Nat}{sc:Str→List Str}{its:List Cell}{adr:List Nat}{t:Stk}(h:ItOk sa sc its adr t):∀j∈adr,j < its.length:=by
 induction h with
 | nil=>intro j hj;exact mnE hj
 | cons e hn _ ih=>intro j hj;rcases List.mem_cons.mp hj with rfl | z;exact(List.getElem?_eq_some_iff.mp e).1;exact ih j z
theorem ItOk.len {sa:Str→Nat}{sc:Str→List Str}{its:List Cell}{adr:List Nat}{t:Stk}(h:ItOk sa sc its adr t):adr.length=t.length:=by
 induction h with
 | nil=>rfl
 | cons e hn _ ih=>rw[List.length_cons,List.length_cons,ih]
noncomputable def fcS (Hp:List Cell)(stk:Stk)(adr:List Nat)(seen:List Str)(c4:Cell)(its:List Cell):List Cell:=fcH Hp (.lst (txts (nm stk))) (.lst (nx Hp.length adr)) (.set seen) (.dct (n2s stk) none) c4 its
noncomputable def dj (i dd b:Nat):List (Str×AV):= [(q "self",.obj i),(q "n2i",.obj dd),(q "stack",.obj b),(q "itstack",.obj (b+1)),(q "seen",.obj (b+2)),(q "node2stacki",.obj (b+3))]
noncomputable def fcτ (i dd b:Nat)(n:Str):List (Str×AV):= [(q "self",.obj i),(q "n2i",.obj dd),(q "stack",.obj b),(q "itstack",.obj (b+1)),(q "seen",.obj (b+2)),(q "node2stacki",.obj (b+3)),(q "node",.str n)]
noncomputable abbrev zmS:List Stmt:=stB (nthS 5 (zaf (inS (topS 12) 8)))
noncomputable abbrev fcWh:List Stmt:=stB (nthS 1 zmS)
noncomputable abbrev fcT:Expr:=stT (nthS 1 fcWh)
noncomputable abbrev fcIn:List Stmt:=stB (nthS 1 fcWh)
noncomputable abbrev fcEl:List Stmt:=stE (nthS 1 fcWh)
noncomputable abbrev fcSc:Scope:=zan (inS (topS 12) 8)
theorem zkG {Hp:List Cell}{i dd:Nat}{sa:Str→Nat}{sc:Str→List Str}{seen:List Str}{c4:Cell}{n0:Str}(T:TW w):
  ∀(stk:Stk) (adr:List Nat) (its:List Cell),ItOk sa sc its adr stk→(nm stk).Nodup→stk.length≤500→(∀n∈nm stk,Hp[sa n]? =some (.lst (txts (sc n))))→∃adr' its',ItOk sa sc its' adr' (adv stk).1 ∧
   ∀Φ:Fm,Φ.calm=true→(match (adv stk).2 with
    | some m=>SWh pW w (KK w) Φ d fcSc fcT fcIn fcEl (fcτ i dd Hp.length n0) (fcS Hp stk adr seen c4 its) .next (fcτ i dd Hp.length m) (fcS Hp (adv stk).1 adr' seen c4 its')
    | none=>SWh pW w (KK w) Φ d fcSc fcT fcIn fcEl (fcτ i dd Hp.length n0) (fcS Hp stk adr seen c4 its) .brk (fcτ i dd Hp.length n0) (fcS Hp [] [] seen c4 its'))
 | [],adr,its,O,nd,hz,hs=>by
  cases O;exact⟨[],its,.nil,fun Φ hc=>SWh.out (ST.val (SE.name ⟨rfl,rfl⟩ rfl) (STr.list (.obj zhc) (Nat.zero_le _))) (SSs.stop SS.brk)⟩
 | (n,_)::t,_,its,.cons (j:=j) (p:=p) (adr:=adr) e hj O,nd,hz,hs=>by
  have hLH:∀c0 c1 c2 c3 c4 its,LH (fcH Hp c0 c1 c2 c3 c4 its) (.obj (sa n)) (txts (sc n)):=fun _ _ _ _ _ _=>by
   have h1:=hs n (by rw[zbc];simp);exact .obj (by rw[zc2 (List.getElem?_eq_some_iff.mp h1).1];exact h1)
  have hz':t.length+1≤500:=hz
  have lnx:(nx Hp.length (j::adr)).length=t.length+1:=by rw[zgQ,List.length_cons,O.len]
  have test:∀Φ:Fm,ST pW w (KK w) Φ d fcSc fcT (fcτ i dd Hp.length n0) (fcS Hp ((n,(sc n).drop p)::t) (j::adr) seen c4 its) true (fcτ i dd Hp.length n0) (fcS Hp ((n,(sc n).drop p)::t) (j::adr) seen c4 its):=fun Φ=>
   (ST.val (SE.name ⟨rfl,rfl⟩ rfl) (STr.list (.obj zhc) (by rw[zaa,zde,sizeLine_eq];simp;exact llK ‹_› rfl))).eq (by rw[zbc,zbn];simp)
  have eit:(fcS Hp ((n,(sc n).drop p)::t) (j::adr) seen c4 its)[Hp.length+5+j]? =some (.iter (.obj (sa n)) p):=by unfold fcS;rw[zoL];exact e
  cases hd:(sc n).drop p with
  | cons s r=>
   rw[hd] at hz hs nd test eit
   have hp:(sc n)[p]? =some s:=by have:=congrArg (·[0]?) hd;simpa using this
   have hr:(sc n).drop (p+1)=r:=by have:=congrArg (List.drop 1) hd;rw[List.drop_drop] at this;simpa using this
   have hv:(txts (sc n))[p]? =some (.str s):=by rw[zbf,hp];rfl
   have hjl:=(List.getElem?_eq_some_iff.mp e).1;refine⟨j::adr,its.set j (.iter (.obj (sa n)) (p+1)),?_,fun Φ hc=> ?_⟩
   ·show ItOk sa sc _ _ ((n,r)::t)
    rw[←hr];exact .cons (List.getElem?_set_self hjl) hj (O.set hj)
   ·show SWh pW w (KK w) Φ d fcSc fcT fcIn fcEl _ _ .next (fcτ i dd Hp.length s) (fcS Hp ((n,r)::t) (j::adr) seen c4 (its.set j (.iter (.obj (sa n)) (p+1))))
    have eH:(fcS Hp ((n,s::r)::t) (j::adr) seen c4 its).set (Hp.length+5+j) (.iter (.obj (sa n)) (p+1))=fcS Hp ((n,r)::t) (j::adr) seen c4 (its.set j (.iter (.obj (sa n)) (p+1))):=by unfold fcS;rw[zlH];rfl
    rw[←eH];refine SWh.brk (test Φ) (SSs.stop (SS.bX (SSs.cons (σ1:=fcτ i dd Hp.length s) (SS.assign (fun _ _ _=>rfl) (SE.callNxt (SE.aJ (SE.name ⟨rfl,rfl⟩ rfl) (SE.neg SE.int) (.obj zj6) (by decide) (by rw[lnx];lia) (by decide) ?_) eit (hLH _ _ _ _ _ _) hv) (SA.name (.inl rfl) (.there rfl (.there rfl (.there rfl (.there rfl (.there rfl (.there rfl .here)))))))) (SSs.stop SS.brk))));rw[lnx,show((-1:Int)+((t.length+1:Nat):Int)).toNat=(nx Hp.length adr).length by rw[zgQ,O.len];lia]
    rw[zev];simp
  | nil=>
   rw[hd] at hz hs nd test eit
   have hv:(txts (sc n))[p]? =none:=by
    refine List.getElem?_eq_none ?_
    rw[zaa];exact List.drop_eq_nil_iff.mp hd
   have nd':=nd;rw[zbc] at nd'
   have hn:n∉nm t:=fun z=>(List.nodup_append.mp nd').2.2 n z n (by exact List.mem_cons_self) rfl
   obtain⟨adr',its',O',go⟩:=zkG (i:=i) (dd:=dd) (n0:=n0) (seen:=seen) (c4:=c4) T t adr (its.set j .junk) (O.set hj) (List.nodup_append.mp nd').1 (by exact llK ‹_› rfl) fun m hm=>hs m (by unfold nm;simp[hm])
   refine⟨adr',its',O',fun Φ hc=> ?_⟩
   have turn:SSs pW w (KK w) Φ d fcSc fcIn (fcτ i dd Hp.length n0) (fcS Hp ((n,[])::t) (j::adr) seen c4 its) .next (fcτ i dd Hp.length n0) (fcS Hp t adr seen c4 (its.set j .junk)):=by
    have eH1:(fcS Hp ((n,[])::t) (j::adr) seen c4 its).set (Hp.length+5+j) .junk=fcH Hp (.lst (txts (nm t)++ [.str n])) (.lst (nx Hp.length adr++ [.nxt (Hp.length+5+j)])) (.set seen) (.dct (n2s t++ [(n,.int t.length)]) none) c4 (its.set j .junk):=by
     unfold fcS;rw[zlH,zbc,zev,zdg,zap];rfl
    have eH2:fcS Hp t adr seen c4 (its.set j .junk)=((((fcS Hp ((n,[])::t) (j::adr) seen c4 its).set (Hp.length+5+j) .junk).set Hp.length (.lst (txts (nm t)))).set (Hp.length+3) (.dct (ddel (n2s t++ [(n,.int t.length)]) n) none)).set (Hp.length+1) (.lst (nx Hp.length adr)):=by
     rw[eH1,zhb,zi9,zns,znP hn];rfl
    rw[eH2];refine SSs.cons (σ1:=fcτ i dd Hp.length n0) (SS.tryX (SSsx.first (SSx.assign (fun _ _ _=>rfl) (SEx.callNxt hc (SE.aJ (SE.name ⟨rfl,rfl⟩ rfl) (SE.neg SE.int) (.obj zj6) (by decide) (by rw[lnx];lia) (by decide) ?it) eit (hLH _ _ _ _ _ _) hv))) (SE.bltn T ⟨rfl,rfl⟩ rfl zeA ze1) zjU ?suite) SSs.nil
    case it=>
     rw[lnx,show((-1:Int)+((t.length+1:Nat):Int)).toNat=(nx Hp.length adr).length by rw[zgQ,O.len];lia]
     rw[zev];simp
    case suite=>
     rw[eH1];refine SSs.cons (SS.bG (es:=n2s t++ [(n,.int t.length)]) (ep:=none) (SE.name ⟨rfl,rfl⟩ rfl) (SE.meth (SE.name ⟨rfl,rfl⟩ rfl) (GM.listO zhc PySem.F.slot_list_pop rfl) .builtin SG.nil (SC.pop zhc (by rw[zaa,zde,sizeLine_eq];exact leK ‹_› rfl))) (by rw[zhb];exact zmQ) (by rw[List.length_append,zlg,sizeLine_eq];simp;exact llK ‹_› rfl) (by rw[zc4];simp)) ?_;refine SSs.cons (SS.expr (fun _ _ _=>rfl) (SE.meth (SE.name ⟨rfl,rfl⟩ rfl) (GM.listO (by rw[zhb,zi9];exact zj6) PySem.F.slot_list_pop rfl) .builtin SG.nil (SC.pop (x:=.nxt (Hp.length+5+j)) (by rw[zhb,zi9];exact zj6) (by rw[zgQ,O.len,sizeLine_eq];exact leK ‹_› rfl)))) SSs.nil
   have hg:=go Φ hc;show(match (adv t).2 with | some m=>_ | none=>_)
   cases ha:(adv t).2 with
   | none=>rw[ha] at hg;exact SWh.turn (test Φ) turn (.inl rfl) hg
   | some m=>rw[ha] at hg;exact SWh.turn (test Φ) turn (.inl rfl) hg
end Mine
end
namespace Mine
section
variable {w:World}{Φ:Fm}{d:Nat}{H H':List Cell}{σ':List (Str×AV)}
theorem ziE:∀{s:Stk} {n:Str},n∈nm (adv s).1→n∈nm s
 | [],_,h=>h
 | (_,_::_)::_,_,h=>h
 | (m,[])::t,n,h=>by
  rw[zbc];exact List.mem_append_left _ (ziE (s:=t) h)
theorem ziF:∀{s:Stk},(adv s).1.length≤s.length
 | []=>Nat.le_refl _
 | (_,_::_)::_=>Nat.le_refl _
 | (_,[])::t=>by rw[List.length_cons];exact Nat.le_succ_of_le (ziF (s:=t))
structure FcOk (Hp:List Cell)(dd:Nat)(keys:List Str)(sc:Str→List Str)(sa:Str→Nat):Prop where
 at_:∀n∈keys,∃es ep ia na nd np,Hp[dd]? =some (.dct es ep)∧dget es n=some (.obj ia)∧Hp[ia]? =some (.info na nd np (some (.obj (sa n))))∧Hp[na]? =some (.ns [])∧Hp[sa n]? =some (.lst (txts (sc n)))∧(sc n).length≤1000
noncomputable abbrev zpg:List Stmt:=stE (nthS 0 fcWh)
noncomputable abbrev znq:Expr:=stT (nthS 1 zmS)
theorem zag {H:List Cell}{i:Nat}{c:Cell}(h:H[i]? =some c):i < H.length:=(List.getElem?_eq_some_iff.mp h).1
theorem znf {Hp:List Cell}{i dd:Nat}{keys:List Str}{sa:Str→Nat}{sc:Str→List Str}{seen:List Str}{c4:Cell}{n:Str}{stk:Stk}{adr:List Nat}{its:List Cell}(T:TW w)(F:FcOk Hp dd keys sc sa)
  (hn:n∉nm stk) (hk:n∈keys) (hz:stk.length < 500) (hzs:seen.length < 500) (hA:adr.length=stk.length):
  SSs pW w (KK w) Φ d fcSc zpg (fcτ i dd Hp.length n) (fcS Hp stk adr seen c4 its) .next (fcτ i dd Hp.length n) (fcS Hp ((n,sc n)::stk) (its.length::adr) (n::seen) c4 (its++ [.iter (.obj (sa n)) 0])):=by
 obtain⟨es,ep,ia,na,nd,np,h1,h2,h3,h4,h5,_⟩:=F.at_ n hk;refine SSs.cons (σ1:=fcτ i dd Hp.length n) (cn:=fcS Hp stk adr (n::seen) c4 its) ?a (SSs.cons (σ1:=fcτ i dd Hp.length n) (cn:=fcS Hp stk (its.length::adr) (n::seen) c4 (its++ [.iter (.obj (sa n)) 0])) ?b (SSs.cons (σ1:=fcτ i dd Hp.length n) (cn:=fcH Hp (.lst (txts (nm stk))) (.lst (nx Hp.length (its.length::adr))) (.set (n::seen)) (.dct (n2s ((n,sc n)::stk)) none) c4 (its++ [.iter (.obj (sa n)) 0])) ?c (SSs.cons ?e SSs.nil)))
 case a=>
  have:fcS Hp stk adr (n::seen) c4 its=(fcS Hp stk adr seen c4 its).set (Hp.length+2) (.set (n::seen)):=by unfold fcS;rw[zoK]
  rw[this];exact SS.expr (fun _ _ _=>rfl) (SE.meth (SE.name ⟨rfl,rfl⟩ rfl) (GM.set zmR) .builtin (SG.some (SL.cons (SE.name ⟨rfl,rfl⟩ rfl) SL.nil)) (SC.setAdd zmR (by exact leK ‹_› rfl)))
 case b=>
  have:fcS Hp stk (its.length::adr) (n::seen) c4 (its++ [.iter (.obj (sa n)) 0])=(fcS Hp stk adr (n::seen) c4 its++ [Cell.iter (.obj (sa n)) 0]).set (Hp.length+1) (Cell.lst (nx Hp.length adr++ [AV.nxt (fcS Hp stk adr (n::seen) c4 its).length])):=by unfold fcS;rw[zja,zns,zn2,zev]
  rw[this];refine SS.expr (fun _ _ _=>rfl) (SE.meth (SE.name ⟨rfl,rfl⟩ rfl) (GM.listO zj6 PySem.F.slot_list_append rfl) .builtin (SG.some (SL.cons (SE.bw (SE.bltn T ⟨rfl,rfl⟩ rfl zoA zoW) (SE.slot (SE.dictItem (SE.name ⟨rfl,rfl⟩ rfl) (SE.name ⟨rfl,rfl⟩ rfl) (by unfold fcS;rw[zc2 (zag h1)];exact h1) h2) za7 zbu (by unfold fcS;rw[zc2 (zag h3)];exact h3) (by unfold fcS;rw[zc2 (zag h4)];exact h4) rfl rfl) (.obj (by unfold fcS;rw[zc2 (zag h5)];exact h5))) SL.nil)) (SC.append ?_ ?_))
  ·unfold fcS;rw[zja];exact zj6
  ·rw[zgQ,hA,sizeLine_eq];exact llK ‹_› rfl
 case c=>
  have:fcH Hp (.lst (txts (nm stk))) (.lst (nx Hp.length (its.length::adr))) (.set (n::seen)) (.dct (n2s ((n,sc n)::stk)) none) c4 (its++ [.iter (.obj (sa n)) 0])=(fcS Hp stk (its.length::adr) (n::seen) c4 (its++ [.iter (.obj (sa n)) 0])).set (Hp.length+3) (.dct (dset (n2s stk) n (.int stk.length)) none):=by
   unfold fcS;rw[zi9,zjd (by rw[zee];exact hn),zdg]
  rw[this];exact SS.assign (fun _ _ _=>rfl) (SE.call (SE.bltn T ⟨rfl,rfl⟩ rfl zjT zkt) .builtin (SG.some (SL.cons (SE.name ⟨rfl,rfl⟩ rfl) SL.nil)) ((SC.ap (.obj zhc) (by rw[zaa,zde,sizeLine_eq];exact llK ‹_› rfl)).eq (by rw[zaa,zde]))) (SA.dictItem (SE.name ⟨rfl,rfl⟩ rfl) (SE.name ⟨rfl,rfl⟩ rfl) zmQ (by rw[zlg,sizeLine_eq];exact llK ‹_› rfl))
 case e=>
  have:fcS Hp ((n,sc n)::stk) (its.length::adr) (n::seen) c4 (its++ [.iter (.obj (sa n)) 0])=(fcH Hp (.lst (txts (nm stk))) (.lst (nx Hp.length (its.length::adr))) (.set (n::seen)) (.dct (n2s ((n,sc n)::stk)) none) c4 (its++ [.iter (.obj (sa n)) 0])).set Hp.length (.lst (txts (nm stk)++ [.str n])):=by
   unfold fcS;rw[zhb,zbc,zap];rfl
  rw[this];exact SS.expr (fun _ _ _=>rfl) (SE.meth (SE.name ⟨rfl,rfl⟩ rfl) (GM.listO zhc PySem.F.slot_list_append rfl) .builtin (SG.some (SL.cons (SE.name ⟨rfl,rfl⟩ rfl) SL.nil)) (SC.append zhc (by rw[zaa,zde,sizeLine_eq];exact llK ‹_› rfl)))
noncomputable abbrev fcQ:Expr:=stT (nthS 0 fcWh)
noncomputable abbrev fcQ2:Expr:=stT (nthS 0 (stB (nthS 0 fcWh)))
theorem zgy {Hp:List Cell}{i dd:Nat}{seen:List Str}{c4:Cell}{n:Str}{stk:Stk}{adr:List Nat}{its:List Cell}(T:TW w):
  ST pW w (KK w) Φ d fcSc fcQ (fcτ i dd Hp.length n) (fcS Hp stk adr seen c4 its) (decide (n∈seen)) (fcτ i dd Hp.length n) (fcS Hp stk adr seen c4 its):=
 ST.cmp (SE.name ⟨rfl,rfl⟩ rfl) (SE.name ⟨rfl,rfl⟩ rfl) (SCmp.inSet zmR)
theorem znC {Hp:List Cell}{i dd:Nat}{seen:List Str}{c4:Cell}{n:Str}{stk:Stk}{adr:List Nat}{its:List Cell}(T:TW w):
  ST pW w (KK w) Φ d fcSc fcQ2 (fcτ i dd Hp.length n) (fcS Hp stk adr seen c4 its) (decide (n∈nm stk)) (fcτ i dd Hp.length n) (fcS Hp stk adr seen c4 its):=
 (ST.cmp (SE.name ⟨rfl,rfl⟩ rfl) (SE.name ⟨rfl,rfl⟩ rfl) (SCmp.b5 T zmQ)).eq (by rw[zc4,zee])
noncomputable def runEnd (w:World)(d i dd:Nat)(Hp:List Cell)(c4:Cell)(n:Str)(h:List Cell):Fin1→Prop
 | .all seen'=>∃its' n',∀Φ:Fm,Φ.calm=true→SWh pW w (KK w) Φ d fcSc znq fcWh [] (fcτ i dd Hp.length n) h .next (fcτ i dd Hp.length n') (fcS Hp [] [] seen' c4 its')
 | .cyc ys=>(ys≠ []∧ys.length≤600)∧∃stk' adr' seen' its' n',∀Φ:Fm,Φ.calm=true→SWh pW w (KK w) Φ d fcSc znq fcWh [] (fcτ i dd Hp.length n) h (.ret (.lst (txts ys))) (fcτ i dd Hp.length n') (fcS Hp stk' adr' seen' c4 its')
theorem runEnd.turn {i dd:Nat}{Hp:List Cell}{c4:Cell}{n m:Str}{h h':List Cell}{r:Fin1}(t:∀Φ:Fm,Φ.calm=true→SSs pW w (KK w) Φ d fcSc fcWh (fcτ i dd Hp.length n) h .next (fcτ i dd Hp.length m) h')(z:runEnd w d i dd Hp c4 m h' r):runEnd w d i dd Hp c4 n h r:=by
 cases r with
 | all s=>obtain⟨a,b,go⟩:=z;exact⟨a,b,fun Φ hc=>SWh.turn ST.true (t Φ hc) (.inl rfl) (go Φ hc)⟩
 | cyc y=>obtain⟨hg,a,b,c,e,f,go⟩:=z;exact⟨hg,a,b,c,e,f,fun Φ hc=>SWh.turn ST.true (t Φ hc) (.inl rfl) (go Φ hc)⟩
theorem zog {Hp:List Cell}{i dd:Nat}{keys:List Str}{sa:Str→Nat}{sc:Str→List Str}{c4:Cell}(T:TW w)(F:FcOk Hp dd keys sc sa){seen:List Str}{stk:Stk}{n:Str}{r:Fin1}(R:Run keys sc seen stk n r):
  ∀adr its,ItOk sa sc its adr stk→(nm stk).Nodup→stk.length≤500→(∀m∈nm stk,m∈keys)→runEnd w d i dd Hp c4 n (fcS Hp stk adr seen c4 its) r:=by
 have hs:∀stk:Stk,(∀m∈nm stk,m∈keys)→∀m∈nm stk,Hp[sa m]? =some (.lst (txts (sc m))):=fun stk h m hm=>by
  obtain⟨_,_,_,_,_,_,_,_,_,_,h5,_⟩:=F.at_ m (h m hm);exact h5
 have hsub:∀{stk:Stk} {n:Str},(∀m∈nm stk,m∈keys)→n∈keys→∀m∈nm ((n,sc n)::stk),m∈keys:=fun h hk m hm=>by
  rw[zbc] at hm
  rcases List.mem_append.mp hm with z | z
  ·exact h m z
  ·simp at z;subst z;exact hk
 have hnd:∀{stk:Stk} {n:Str},(nm stk).Nodup→n∉nm stk→(nm ((n,sc n)::stk)).Nodup:=fun h hn=>by
  rw[zbc,List.nodup_append];exact⟨h,by exact List.nodup_cons.mpr ⟨List.not_mem_nil,List.nodup_nil⟩,fun a ha b hb=>by simp at hb;subst hb;rintro rfl;exact hn ha⟩
 have itp:∀{stk:Stk} {n:Str} {adr:List Nat} {its:List Cell},ItOk sa sc its adr stk→ItOk sa sc (its++ [.iter (.obj (sa n)) 0]) (its.length::adr) ((n,sc n)::stk):=fun {stk n adr its} O=>
  ItOk.cons (p:=0) (by exact zbN) (fun z=>absurd (O.lt _ z) (Nat.lt_irrefl _)) (O.more _)
 induction R with
 | @found seen stk n h1 h2=>
  intro adr its O nd hz hk;obtain⟨k,hk'⟩:=znO h2
  have ey:ysOf stk n=((nm stk).drop (clipAt (nm stk).length k)).take ((nm stk).length - clipAt (nm stk).length k)++ [n]:=by unfold ysOf;rw[hk']
  rw[ey];refine⟨⟨by simp,by rw[List.length_append,List.length_take,List.length_drop,zde];simp;lia⟩,stk,adr,seen,its,n,fun Φ hc=> ?_⟩;refine SWh.ret ST.true (SSs.stop (SS.ifT ((zgy T).eq (decide_eq_true h1)) (SSs.stop (SS.ifT ((znC T).eq (decide_eq_true h2)) (SSs.stop (SS.ret ?val))))))
  case val=>
   have e:cut (some (k:Int)) none (txts (nm stk))++ [.str n]=txts (((nm stk).drop (clipAt (nm stk).length k)).take ((nm stk).length - clipAt (nm stk).length k)++ [n]):=by
    rw[zap];unfold cut txts;simp[List.map_take,List.map_drop]
   rw[←e];refine SE.bin (SE.af (SE.name ⟨rfl,rfl⟩ rfl) (SPart.some (SE.dictItem (SE.name ⟨rfl,rfl⟩ rfl) (SE.name ⟨rfl,rfl⟩ rfl) zmQ hk')) SPart.none (.obj zhc) (by rw[zaa,zde,sizeLine_eq];exact leK ‹_› rfl)) (SE.list (SL.cons (SE.name ⟨rfl,rfl⟩ rfl) SL.nil) (small rfl)) (SB.ai .lst .lst ?_);unfold cut
   rw[List.length_take,List.length_drop,zaa,zde,sizeLine_eq];simp;lia
 | @again seen stk n m r h1 h2 h3 R ih=>
  intro adr its O nd hz hk;obtain⟨adr',its',O',go⟩:=zkG (d:=d) (i:=i) (dd:=dd) (n0:=n) (seen:=seen) (c4:=c4) (Hp:=Hp) T stk adr its O nd hz (hs stk hk);rw[h3] at go;refine runEnd.turn (fun Φ hc=>SSs.cons ?_ (SSs.cons (SS.aj (go Φ hc)) SSs.nil)) (ih adr' its' O' (ze3 nd) (Nat.le_trans ziF hz) fun x hx=>hk x (ziE hx));refine SS.ifT ((zgy T).eq (decide_eq_true h1)) (SSs.cons (SS.ifF ((znC T).eq (decide_eq_false h2)) SSs.nil) SSs.nil)
 | @stop seen stk n h1 h2 h3=>
  intro adr its O nd hz hk;obtain⟨adr',its',O',go⟩:=zkG (d:=d) (i:=i) (dd:=dd) (n0:=n) (seen:=seen) (c4:=c4) (Hp:=Hp) T stk adr its O nd hz (hs stk hk);rw[h3] at go;refine⟨its',n,fun Φ hc=>SWh.brk ST.true (SSs.cons ?_ (SSs.stop (SS.aj (go Φ hc))))⟩;refine SS.ifT ((zgy T).eq (decide_eq_true h1)) (SSs.cons (SS.ifF ((znC T).eq (decide_eq_false h2)) SSs.nil) SSs.nil)
 | @push seen stk n m r h1 h2 h3 h4 h5 h6 R ih=>
  intro adr its O nd hz hk;obtain⟨adr',its',O',go⟩:=zkG (d:=d) (i:=i) (dd:=dd) (n0:=n) (seen:=n::seen) (c4:=c4) (Hp:=Hp) T _ _ _ (itp (n:=n) O) (hnd nd h2) (by rw[List.length_cons];assumption) (hs _ (hsub hk h3));rw[h6] at go;refine runEnd.turn (fun Φ hc=>SSs.cons (SS.ifF ((zgy T).eq (decide_eq_false h1)) (znf T F h2 h3 h4 h5 O.len)) (SSs.cons (SS.aj (go Φ hc)) SSs.nil)) (ih adr' its' O' (ze3 (hnd nd h2)) (Nat.le_trans ziF (by rw[List.length_cons];assumption)) fun x hx=>hsub hk h3 x (ziE hx))
 | @pushStop seen stk n h1 h2 h3 h4 h5 h6=>
  intro adr its O nd hz hk;obtain⟨adr',its',O',go⟩:=zkG (d:=d) (i:=i) (dd:=dd) (n0:=n) (seen:=n::seen) (c4:=c4) (Hp:=Hp) T _ _ _ (itp (n:=n) O) (hnd nd h2) (by rw[List.length_cons];assumption) (hs _ (hsub hk h3));rw[h6] at go;refine⟨its',n,fun Φ hc=>SWh.brk ST.true (SSs.cons (SS.ifF ((zgy T).eq (decide_eq_false h1)) (znf T F h2 h3 h4 h5 O.len)) (SSs.stop (SS.aj (go Φ hc))))⟩
noncomputable def fcEnd (w:World)(d i dd:Nat)(Hp:List Cell)(h:List Cell)(t:Expr)(b:List Stmt):Option (List Str)→Prop
 | none=>∃seen' its',∀Φ:Fm,Φ.calm=true→SFor pW w (KK w) Φ d fcSc t (Hp.length+4) b [] (dj i dd Hp.length) h .next (dj i dd Hp.length) (fcS Hp [] [] seen' .junk its')
 | some ys=>(ys≠ []∧ys.length≤600)∧∃stk' adr' seen' c4 its' n',∀Φ:Fm,Φ.calm=true→SFor pW w (KK w) Φ d fcSc t (Hp.length+4) b [] (dj i dd Hp.length) h (.ret (.lst (txts ys))) (fcτ i dd Hp.length n') (fcS Hp stk' adr' seen' c4 its')
noncomputable abbrev fcTg:Expr:=stT (nthS 5 (zaf (inS (topS 12) 8)))
noncomputable abbrev fcQ3:Expr:=stT (nthS 0 zmS)
theorem zhM {Hp:List Cell}{i dd:Nat}{seen:List Str}{c4:Cell}{n:Str}{stk:Stk}{adr:List Nat}{its:List Cell}(T:TW w):
  ST pW w (KK w) Φ d fcSc fcQ3 (fcτ i dd Hp.length n) (fcS Hp stk adr seen c4 its) (decide (n∈seen)) (fcτ i dd Hp.length n) (fcS Hp stk adr seen c4 its):=
 ST.cmp (SE.name ⟨rfl,rfl⟩ rfl) (SE.name ⟨rfl,rfl⟩ rfl) (SCmp.inSet zmR)
theorem fcEnd.turn {i dd:Nat}{Hp:List Cell}{h h' cB:List Cell}{t:Expr}{b:List Stmt}{o:Option (List Str)}(q:∀Φ:Fm,Φ.calm=true→∀f σ1 cn,SFor pW w (KK w) Φ d fcSc t (Hp.length+4) b [] (dj i dd Hp.length) h' f σ1 cn→SFor pW w (KK w) Φ d fcSc t (Hp.length+4) b [] (dj i dd Hp.length) h f σ1 cn)(z:fcEnd w d i dd Hp h' t b o):fcEnd w d i dd Hp h t b o:=by
 cases o with
 | none=>obtain⟨a,c,go⟩:=z;exact⟨a,c,fun Φ hc=>q Φ hc _ _ _ (go Φ hc)⟩
 | some y=>obtain⟨hg,a,b,c,e,f,g,go⟩:=z;exact⟨hg,a,b,c,e,f,g,fun Φ hc=>q Φ hc _ _ _ (go Φ hc)⟩
theorem zo3 {Hp:List Cell}{i dd ep:Nat}{keys:List Str}{sa:Str→Nat}{sc:Str→List Str}{es:List (Str×AV)}(T:TW w)(F:FcOk Hp dd keys sc sa)(hd:Hp[dd]? =some (.dct es (some ep)))(hes:es.map (·.1)=keys){seen:List Str}{rest:List Str}{o:Option (List Str)}(R:Out keys sc rest seen o):
  ∀(k:Nat) (its:List Cell),keys.drop k=rest→fcEnd w d i dd Hp (fcS Hp [] [] seen (.kiter dd es.length ep k) its) fcTg zmS o:=by
 have lk:es.length=keys.length:=by rw[←hes,List.length_map]
 have step:∀{k:Nat} {n:Str} {r:List Str},keys.drop k=n::r→(∃v,es[k]? =some (n,v))∧keys.drop (k+1)=r:=fun {k n r} h=>by
  have h1:keys[k]? =some n:=by have:=congrArg (·[0]?) h;simpa using this
  refine⟨?_,by have:=congrArg (List.drop 1) h;rw[List.drop_drop] at this;simpa using this⟩;rw[←hes,List.getElem?_map] at h1
  cases z:es[k]? with
  | none=>rw[z] at h1;exact nsE h1
  | some kv=>rw[z] at h1;obtain⟨a,b⟩:=kv;obtain rfl:=Option.some.inj h1;exact⟨b,rfl⟩
 have hdf:∀c0 c1 c2 c3 c4 its,(fcH Hp c0 c1 c2 c3 c4 its)[dd]? =some (.dct es (some ep)):=fun _ _ _ _ _ _=>by rw[zc2 (zag hd)];exact hd
 have item:∀{k:Nat} {n:Str} {v:AV} {seen:List Str} {its:List Cell} (Φ:Fm),es[k]? =some (n,v)→SN pW w (KK w) Φ d (Hp.length+4) (fcS Hp [] [] seen (.kiter dd es.length ep k) its) (some (.str n)) (fcS Hp [] [] seen (.kiter dd es.length ep (k+1)) its):=fun {k n v seen its} Φ h=>by
  have:=SN.a6 (pg:=pW) (w:=w) (K:=KK w) (Φ:=Φ) (d:=d) (H:=fcS Hp [] [] seen (.kiter dd es.length ep k) its) zlI (hdf _ _ _ _ _ _) h;unfold fcS at this ⊢;rw[znr] at this;exact this
 have asg:∀{n:Str} {h:List Cell} (Φ:Fm),SA pW w (KK w) Φ d fcSc fcTg (.str n) (dj i dd Hp.length) h (fcτ i dd Hp.length n) h:=fun {n h} Φ=>SA.name (.inl rfl) (.there rfl (.there rfl (.there rfl (.there rfl (.there rfl (.there rfl .nil))))))
 have forget:∀{n:Str} (y:Str) (v:AV),(dj i dd Hp.length).lookup y=some v→(fcτ i dd Hp.length n).lookup y=some v:=fun {n} y v e=>zah (τ:= [(q "node",AV.str n)]) e
 induction R with
 | @nil seen=>
  intro k its hk;refine⟨seen,its,fun Φ hc=>SFor.out ?_ SSs.nil⟩;have h1:es[k]? =none:=List.getElem?_eq_none (by rw[lk];exact List.drop_eq_nil_iff.mp hk);have:=SN.br (pg:=pW) (w:=w) (K:=KK w) (Φ:=Φ) (d:=d) (H:=fcS Hp [] [] seen (.kiter dd es.length ep k) its) hc zlI (hdf _ _ _ _ _ _) h1;unfold fcS at this ⊢;rw[znr] at this;exact this
 | @skip n r seen b h1 R ih=>
  intro k its hk;obtain⟨⟨v,hv⟩,hk'⟩:=step hk;exact fcEnd.turn (cB:= []) (fun Φ hc f σ1 cn z=>SFor.turn (item Φ hv) zlI .kiter (asg Φ) (SSs.weaken (SSs.stop (SS.ifT ((zhM T).eq (decide_eq_true h1)) (SSs.stop SS.cont))) forget) (.inr rfl) z) (ih (k+1) its hk')
 | @cyc n r seen y h1 R=>
  intro k its hk;obtain⟨⟨v,hv⟩,hk'⟩:=step hk;obtain⟨hy,stk',adr',seen',its',n',go⟩:=zog (d:=d) (i:=i) (c4:=.kiter dd es.length ep (k+1)) T F R [] its .nil (by first | exact List.nodup_nil | exact zad) (Nat.zero_le _) (by first | exact List.nodup_nil | exact zad);exact⟨hy,stk',adr',seen',_,its',n',fun Φ hc=>SFor.ret (item Φ hv) zlI .kiter (asg Φ) (SSs.cons (SS.ifF ((zhM T).eq (decide_eq_false h1)) SSs.nil) (SSs.stop (SS.aj (go Φ hc))))⟩
 | @run n r seen seen' b h1 R _ ih=>
  intro k its hk;obtain⟨⟨v,hv⟩,hk'⟩:=step hk;obtain⟨its',n',go⟩:=zog (d:=d) (i:=i) (c4:=.kiter dd es.length ep (k+1)) T F R [] its .nil (by first | exact List.nodup_nil | exact zad) (Nat.zero_le _) (by first | exact List.nodup_nil | exact zad);exact fcEnd.turn (cB:= []) (fun Φ hc f σ1 cn z=>SFor.turn (item Φ hv) zlI .kiter (asg Φ) (SSs.weaken (SSs.cons (SS.ifF ((zhM T).eq (decide_eq_false h1)) SSs.nil) (SSs.cons (SS.aj (go Φ hc)) SSs.nil)) forget) (.inl rfl) z) (ih (k+1) its' hk')
noncomputable abbrev fcTl:List Stmt:= [nthS 5 (zaf (inS (topS 12) 8)),nthS 6 (zaf (inS (topS 12) 8))]
noncomputable def outV:Option (List Str)→AV
 | none=>.none
 | some ys=>.lst (txts ys)
theorem c_fc {i dd D:Nat}{keys:List Str}{sa:Str→Nat}{sc:Str→List Str}{es:List (Str×AV)}{at':List (Str×AV)}{o:Option (List Str)}(T:TW w)(h1:H[i]? =some (.inst 171 D))(h2:H[D]? =some (.ns at'))(h3:dget at' (q "_node2info")=some (.obj dd))(hd:H[dd]? =some (.dct es none))(hes:es.map (·.1)=keys)
  (F:FcOk H dd keys sc sa) (R:Out keys sc keys [] o):(∀ys,o=some ys→ys≠ []∧ys.length≤600)∧∀Φ:Fm,Φ.calm=true→SCc pW w (KK w) Φ (d+1) (.ref 161) [.obj i] H (outV o) H:=by
 have hdl:=zag hd
 have hne1:i≠dd:=fun z=>by rw[z,hd] at h1;cases h1
 have hne2:D≠dd:=fun z=>by rw[z,hd] at h2;cases h2
 have keep:∀(n j:Nat),j≠dd→(H.set dd (.dct es (some n)))[j]? =H[j]? :=fun n j hj=>List.getElem?_set_ne (fun z=>hj z.symm)
 have Fn:∀n:Nat,FcOk (H.set dd (.dct es (some n))) dd keys sc sa:=fun n=>⟨fun x hx=>by
  obtain⟨es',ep,ia,na,nd,np,g1,g2,g3,g4,g5,g6⟩:=F.at_ x hx
  rw[hd] at g1;cases g1
  have ne:∀{j:Nat} {c:Cell},H[j]? =some c→(∀es ep,c≠ .dct es ep)→j≠dd:=fun {j c} h q z=>by rw[z,hd] at h;obtain rfl:=Option.some.inj h;exact q _ _ rfl
  exact⟨es,some n,ia,na,nd,np,List.getElem?_set_self hdl,g2,by rw[keep n _ (ne g3 (fun _ _ z=>by cases z))];exact g3,by rw[keep n _ (ne g4 (fun _ _ z=>by cases z))];exact g4,by rw[keep n _ (ne g5 (fun _ _ z=>by cases z))];exact g5,g6⟩⟩
 have W:=fun n:Nat=>zo3 (w:=w) (d:=d) (i:=i) T (Fn n) (List.getElem?_set_self hdl) hes R 0 [] rfl
 have lenn:∀n:Nat,(H.set dd (.dct es (some n))).length=H.length:=fun n=>List.length_set ..
 have free:∀(n:Nat) (stk:Stk) (adr:List Nat) (seen:List Str) (c4:Cell) (its:List Cell),∃tl,(fcS (H.set dd (.dct es (some n))) stk adr seen c4 its).set dd (.dct es none)=H++tl:=fun n stk adr seen c4 its=>by
  unfold fcS fcH;rw[List.set_append_left _ _ (by rw[lenn];exact hdl),List.set_set]
  have:H.set dd (.dct es none)=H:=by
   refine List.ext_getElem? fun j=> ?_
   rw[List.getElem?_set]
   by_cases e:dd=j
   ·subst e;rw[if_pos rfl,if_pos hdl,hd]
   ·rw[if_neg e]
  rw[this];exact⟨_,rfl⟩
 have pre:∀(n:Nat) (Φ:Fm) {f:AFlow} {σ1:List (Str×AV)} {cn:List Cell},SSs pW w (KK w) Φ d fcSc fcTl (dj i dd (H.set dd (.dct es (some n))).length) (H.set dd (.dct es (some n))++ [Cell.lst []]++ [Cell.lst []]++ [Cell.set []]++ [Cell.dct [] none]) f σ1 cn →
   SSs pW w (KK w) Φ d fcSc (zaf (inS (topS 12) 8)) [(q "self",.obj i)] (H.set dd (.dct es (some n))) f σ1 cn:=fun n Φ f σ1 cn z=>by
  generalize hHp:H.set dd (.dct es (some n))=Hp at z
  have g1:Hp[i]? =some (.inst 171 D):=by rw[←hHp,keep n _ hne1];exact h1
  have g2:Hp[D]? =some (.ns at'):=by rw[←hHp,keep n _ hne2];exact h2
  refine SSs.cons (σ1:= [(q "self",.obj i),(q "n2i",.obj dd)]) (cn:=Hp) (SS.assign (fun _ _ _=>rfl) (SE.attr (SE.name ⟨rfl,rfl⟩ rfl) zaB zaE g1 g2 h3 rfl) (SA.name (.inl rfl) (.there rfl .nil))) ?_;refine SSs.cons (σ1:= [(q "self",.obj i),(q "n2i",.obj dd),(q "stack",.obj Hp.length)]) (cn:=Hp++ [Cell.lst []]) (SS.assign (fun _ _ _=>rfl) (SE.listO SL.nil (small rfl)) (SA.name (.inl rfl) (.there rfl (.there rfl .nil)))) ?_;refine SSs.cons (σ1:= [(q "self",.obj i),(q "n2i",.obj dd),(q "stack",.obj Hp.length),(q "itstack",.obj (Hp.length+1))]) (cn:=Hp++ [Cell.lst []]++ [Cell.lst []]) (SS.assign (fun _ _ _=>rfl) ((SE.listO SL.nil (small rfl)).eq (by rw[List.length_append];rfl)) (SA.name (.inl rfl) (.there rfl (.there rfl (.there rfl .nil))))) ?_;refine SSs.cons (σ1:= [(q "self",.obj i),(q "n2i",.obj dd),(q "stack",.obj Hp.length),(q "itstack",.obj (Hp.length+1)),(q "seen",.obj (Hp.length+2))]) (cn:=Hp++ [Cell.lst []]++ [Cell.lst []]++ [Cell.set []]) (SS.assign (fun _ _ _=>rfl) ((SE.call (SE.bltn T ⟨rfl,rfl⟩ rfl zoy zoU) .type SG.nil SC.setNew).eq (by rw[List.length_append,List.length_append];rfl)) (SA.name (.inl rfl) (.there rfl (.there rfl (.there rfl (.there rfl .nil)))))) ?_;refine SSs.cons (σ1:=dj i dd Hp.length) (cn:=Hp++ [Cell.lst []]++ [Cell.lst []]++ [Cell.set []]++ [Cell.dct [] none]) (SS.assign (fun _ _ _=>rfl) ((SE.aG).eq (by rw[List.length_append,List.length_append,List.length_append];rfl)) (SA.name (.inl rfl) (.there rfl (.there rfl (.there rfl (.there rfl (.there rfl .nil))))))) ?_;exact z
 have e0:∀(n:Nat),fcS (H.set dd (.dct es (some n))) [] [] [] (.kiter dd es.length n 0) []=H.set dd (.dct es (some n))++ [Cell.lst []]++ [Cell.lst []]++ [Cell.set []]++ [Cell.dct [] none]++ [Cell.kiter dd es.length n 0]:=fun n=>by rw[List.append_assoc,List.append_assoc,List.append_assoc,List.append_assoc];rfl
 have e5:∀(n:Nat),(H.set dd (.dct es (some n))++ [Cell.lst []]++ [Cell.lst []]++ [Cell.set []]++ [Cell.dct [] none]).length=(H.set dd (.dct es (some n))).length+4:=fun n=>by simp
 have kit:∀(n:Nat) (Φ:Fm),SIt pW w (KK w) Φ d (.obj dd) (H.set dd (.dct es (some n))++ [Cell.lst []]++ [Cell.lst []]++ [Cell.set []]++ [Cell.dct [] none]) ((H.set dd (.dct es (some n))).length+4) (fcS (H.set dd (.dct es (some n))) [] [] [] (.kiter dd es.length n 0) []):=fun n Φ=>by
  rw[e0,←e5 n];refine SIt.dict T ?_;rw[List.append_assoc,List.append_assoc,List.append_assoc,List.getElem?_append_left (by rw[lenn];exact hdl)];exact List.getElem?_set_self hdl
 have hdf:∀(n:Nat) stk adr seen c4 its,(fcS (H.set dd (.dct es (some n))) stk adr seen c4 its)[dd]? =some (.dct es (some n)):=fun n _ _ _ _ _=>by unfold fcS;rw[zc2 (by rw[lenn];exact hdl)];exact List.getElem?_set_self hdl
 have hy:∀ys,o=some ys→ys≠ []∧ys.length≤600:=fun ys e=>by
  have:=W 0;rw[e] at this;exact this.1
 refine⟨hy,fun Φ hc=>SCc.bd fun hH=>SCc.plain (f:=.ret (outV o)) (ns:= [q "self"]) (σ':= []) T zeR (len1 fun _=>rfl) (by decide) (fun x hx=>by simp at hx;subst hx;exact .inl rfl) rfl fun L=>SSs.pin hd fun n=> ?_⟩
 have fin:∀{σ1:List (Str×AV)} {stk:Stk} {adr:List Nat} {seen:List Str} {c4:Cell} {its:List Cell},SSs pW w (KK w) (Φ.deeper L) d fcSc (zaf (inS (topS 12) 8)) [(q "self",.obj i)] (H.set dd (.dct es (some n))) (.ret (outV o)) σ1 (fcS (H.set dd (.dct es (some n))) stk adr seen c4 its) →
   SSs pW w (KK w) (Φ.deeper L) d fcSc (zaf (inS (topS 12) 8)) [(q "self",.obj i)] (H.set dd (.dct es (some n))) (.ret (outV o)) [] H:=fun {σ1 stk adr seen c4 its} z=>by
  have z1:=SSs.free (SSs.weaken (cp:= []) z fun y v e=>by exact nsE e) (hdf n _ _ _ _ _);obtain⟨tl,etl⟩:=free n stk adr seen c4 its;rw[etl] at z1
  have fz:∀m tl,FrzF m (H++tl) (.ret (outV o)) (.ret (outV o)):=fun m tl=>by
   refine .ret (.same ?_)
   cases o with
   | none=>exact .none
   | some y=>exact .lst Bds.txts
  exact SSs.drop z1 (lenn n).symm (by rw[lenn];exact hH) .nil (fz _ _)
 have Wn:=W n
 cases o with
 | none=>
  obtain⟨seen',its',go⟩:=Wn;exact fin (pre n _ (SSs.cons (SS.for (SE.name ⟨rfl,rfl⟩ rfl) (kit n _) (go (Φ.deeper L) hc)) (SSs.stop (SS.ret SE.none))))
 | some ys=>
  obtain⟨_,stk',adr',seen',c4,its',n',go⟩:=Wn;exact fin (pre n _ (SSs.stop (SS.for (SE.name ⟨rfl,rfl⟩ rfl) (kit n _) (go (Φ.deeper L) hc))))
end
section
variable {sc:Str→List Str}{keys:List Str}
noncomputable def Topo (sc:Str→List Str):List Str→Prop
 | []=>True
 | f::r=>(∀s∈sc f,s∈r)∧f∉r∧Topo sc r
noncomputable def Ring (sc:Str→List Str)(C:Str→Prop):Prop:=∀c,C c→∃g,C g∧c∈sc g
theorem Topo.none {C:Str→Prop}(R:Ring sc C):∀{l:List Str},Topo sc l→(∀c,C c→c∈l)→∀c,¬ C c
 | [],_,h,c,hc=>by cases h c hc
 | f::r,⟨h1,h2,h3⟩,h,c,hc=>by
  have hf: ¬ C f:=fun z=>by
   obtain⟨g,hg,hs⟩:=R f z
   rcases List.mem_cons.mp (h g hg) with rfl | hg'
   ·exact h2 (h1 _ hs)
   ·have:∀{l:List Str},Topo sc l→g∈l→∀s∈sc g,s∈l:=by
     intro l
     induction l with
     | nil=>intro _ z;exact mnE z
     | cons a l ih=>
      rintro⟨t1,_,t3⟩ hm s hs
      rcases List.mem_cons.mp hm with rfl | hm
      ·exact List.mem_cons_of_mem _ (t1 s hs)
      ·exact List.mem_cons_of_mem _ (ih t3 hm s hs)
    exact h2 (this h3 hg' f hs)
  refine Topo.none R h3 (fun x hx=> ?_) c hc
  rcases List.mem_cons.mp (h x hx) with rfl | h
  ·exact absurd hx hf
  ·exact h
noncomputable def Path (sc:Str→List Str)(fin:List Str):Stk→Str→Prop
 | [],_=>True
 | (p,l)::t,n=>(∃pre,sc p=pre++n::l∧∀x∈pre,x∈fin)∧Path sc fin t p
noncomputable def zo1 (sc:Str→List Str)(fin:List Str):Stk→Prop
 | []=>True
 | (p,l)::t=>(∃pre,sc p=pre++l∧∀x∈pre,x∈fin)∧Path sc fin t p
theorem Path.mono {fin fin':List Str}(h:∀x∈fin,x∈fin'):∀{t:Stk} {n:Str},Path sc fin t n→Path sc fin' t n
 | [],_,_=>trivial
 | (p,l)::t,n,⟨⟨pre,e,hp⟩,r⟩=>⟨⟨pre,e,fun x hx=>h x (hp x hx)⟩,r.mono h⟩
theorem Path.go {fin:List Str}{n:Str}(hn:n∈fin):∀{t:Stk},Path sc fin t n→zo1 sc fin t
 | [],_=>trivial
 | (p,l)::t,⟨⟨pre,e,hp⟩,r⟩=>⟨⟨pre++ [n],by rw[e];simp,fun x hx=>by
  rcases List.mem_append.mp hx with h | h
  ·exact hp x h
  ·simp at h;subst h;exact hn⟩,r⟩
structure Lies (sc:Str→List Str)(fin:List Str)(stk:Stk):Prop where
 topo:Topo sc fin
 nd:(nm stk).Nodup
 dis:∀x∈fin,x∉nm stk
noncomputable def zfb:Stk→Nat
 | []=>0
 | (_,l)::t=>l.length+1+zfb t
theorem zdi {p:Str}{l:List Str}{t:Stk}{x:Str} :x∈nm ((p,l)::t)↔x∈nm t∨x=p:=by rw[zbc,List.mem_append,List.mem_singleton]
theorem Lies.pop {fin:List Str}{p:Str}{l:List Str}{t:Stk}(h:Lies sc fin ((p,l)::t))(hs:∀s∈sc p,s∈fin):Lies sc (p::fin) t:=by
 obtain⟨h1,h2,h3⟩:=h;rw[zbc,List.nodup_append] at h2;refine⟨⟨hs,fun z=>h3 p z (zdi.mpr (.inr rfl)),h1⟩,h2.1,fun x hx hm=> ?_⟩
 rcases List.mem_cons.mp hx with rfl | hx
 ·exact h2.2.2 _ hm _ (by exact List.mem_cons_self) rfl
 ·exact h3 x hx (zdi.mpr (.inl hm))
theorem zl4:∀(stk:Stk) (fin:List Str),Lies sc fin stk→zo1 sc fin stk→∃fin',(∀x,(x∈fin'∨x∈nm (adv stk).1)↔(x∈fin∨x∈nm stk))∧Lies sc fin' (adv stk).1∧((adv stk).2=none→(adv stk).1= []) ∧
  ∀m,(adv stk).2=some m→Path sc fin' (adv stk).1 m∧zfb (adv stk).1 < zfb stk∧∃p∈nm stk,m∈sc p
 | [],fin,L,_=>⟨fin,fun _=>Iff.rfl,L,fun _=>rfl,(fun _ h=>by exact nsE h)⟩
 | (p,s::r)::t,fin,L,⟨⟨pre,e,hp⟩,P⟩=>⟨fin,fun _=>Iff.rfl,⟨L.topo,L.nd,L.dis⟩,(fun h=>by exact snE h),fun m h=>by
  obtain rfl:=Option.some.inj h
  exact⟨⟨⟨pre,e,hp⟩,P⟩,by show r.length+1+zfb t < (s::r).length+1+zfb t;rw[List.length_cons];lia,p,zdi.mpr (.inr rfl),by rw[e];simp⟩⟩
 | (p,[])::t,fin,L,⟨⟨pre,e,hp⟩,P⟩=>by
  have hs:∀s∈sc p,s∈fin:=fun s hs=>by rw[e,List.append_nil] at hs;exact hp s hs
  obtain⟨fin',h1,h2,h3,h4⟩:=zl4 t (p::fin) (L.pop hs) ((P.mono fun x hx=>List.mem_cons_of_mem _ hx).go List.mem_cons_self);refine⟨fin',fun x=> ?_,h2,h3,fun m hm=> ?_⟩
  ·show _∨x∈nm (adv t).1↔_
   rw[h1 x,zdi,List.mem_cons]
   constructor
   ·rintro((h | h) | h)
    ·exact .inr (.inr h)
    ·exact .inl h
    ·exact .inr (.inl h)
   ·rintro(h | h | h)
    ·exact .inl (.inr h)
    ·exact .inr h
    ·exact .inl (.inl h)
  ·obtain⟨a,b,q,hq,c⟩:=h4 m hm
   exact⟨a,by show zfb (adv t).1 < 0+1+zfb t;lia,q,zdi.mpr (.inl hq),c⟩
theorem Path.back {fin:List Str}{m:Str} :∀{stk:Stk} {x:Str},Path sc fin stk x→m∈nm stk→∃C:List Str,(∀c∈C,c=m∨∃g∈C,c∈sc g)∧m∈C∧∃g∈C,x∈sc g
 | [],_,_,h=>by exact mnE h
 | (p,l)::t,x,⟨⟨pre,e,_⟩,P⟩,h=>by
  have hx:x∈sc p:=by rw[e];simp
  rcases zdi.mp h with h | h
  ·obtain⟨C,h1,h2,g,h3,h4⟩:=P.back h
   refine⟨p::C,fun c hc=> ?_,List.mem_cons_of_mem _ h2,p,List.mem_cons_self,hx⟩
   rcases List.mem_cons.mp hc with rfl | hc
   ·exact .inr ⟨g,List.mem_cons_of_mem _ h3,h4⟩
   ·rcases h1 c hc with z | ⟨g',z,z'⟩
    ·exact .inl z
    ·exact .inr ⟨g',List.mem_cons_of_mem _ z,z'⟩
  ·subst h
   exact⟨[m],fun c hc=>.inl (List.mem_singleton.mp hc),by exact List.mem_cons_self,m,by exact List.mem_cons_self,hx⟩
noncomputable def znX (sc:Str→List Str)(seen:List Str)(n:Str):Fin1→Prop
 | .cyc _=>∃C:List Str,C≠ []∧Ring sc (· ∈C)
 | .all seen'=>∃fin,Topo sc fin∧(∀x,x∈seen'↔x∈fin)∧(∀x∈seen,x∈seen')∧n∈seen'
noncomputable def zhr (sc:Str→List Str)(keys seen:List Str):Nat:=((keys.filter fun k=> !seen.contains k).map fun k=>(sc k).length+2).sum
theorem zlV {seen:List Str}{n:Str} :∀{keys:List Str},n∈keys→n∉seen→zhr sc keys (n::seen)+(sc n).length+2≤zhr sc keys seen:=by
 have le:∀keys:List Str,zhr sc keys (n::seen)≤zhr sc keys seen:=by
  intro keys
  induction keys with
  | nil=>exact Nat.le_refl _
  | cons k r ih=>
   unfold zhr at ih ⊢;rw[List.filter_cons,List.filter_cons]
   by_cases h1:k∈seen
   ·simp only[List.contains_eq_mem,List.mem_cons,h1,or_true,decide_true,Bool.not_true,Bool.false_eq_true,if_false] at ih ⊢
    exact ih
   ·by_cases h2:k=n
    ·simp only[List.contains_eq_mem,List.mem_cons,h1,h2,true_or,decide_true,Bool.not_true,Bool.false_eq_true,if_false] at ih ⊢
     refine Nat.le_trans ih ?_
     split
     ·rw[List.map_cons,List.sum_cons];exact Nat.le_add_left _ _
     ·exact Nat.le_refl _
    ·simp only[List.contains_eq_mem,List.mem_cons,h1,h2,or_false,decide_false,Bool.not_false,if_true,List.map_cons,List.sum_cons] at ih ⊢
     lia
 intro keys
 induction keys with
 | nil=>intro h;exact mnE h
 | cons k r ih=>
  intro h hn
  by_cases h2:k=n
  ·subst h2
   have:=le r;unfold zhr at this ⊢;rw[List.filter_cons,List.filter_cons];simp only[List.contains_eq_mem,List.mem_cons,hn,true_or,decide_true,Bool.not_true,Bool.false_eq_true,if_false,decide_false,Bool.not_false,if_true,List.map_cons,List.sum_cons] at this ⊢
   lia
  ·have hm:n∈r:=by rcases List.mem_cons.mp h with z | z;exact absurd z.symm h2;exact z
   have:=ih hm hn;unfold zhr at this ⊢;rw[List.filter_cons,List.filter_cons]
   by_cases h1:k∈seen
   ·simp only[List.contains_eq_mem,List.mem_cons,h1,or_true,decide_true,Bool.not_true,Bool.false_eq_true,if_false] at this ⊢
    exact this
   ·simp only[List.contains_eq_mem,List.mem_cons,h1,h2,or_false,decide_false,Bool.not_false,if_true,List.map_cons,List.sum_cons] at this ⊢
    lia
theorem zoo (hk:keys.length≤400)(hsc:∀k∈keys,∀s∈sc k,s∈keys):∀(fuel:Nat) (seen:List Str) (stk:Stk) (n:Str) (fin:List Str),zhr sc keys seen+zfb stk < fuel→seen.Nodup→(∀x∈seen,x∈keys)→n∈keys→Lies sc fin stk→(∀x,x∈seen↔(x∈fin∨x∈nm stk))→Path sc fin stk n→∃r,Run keys sc seen stk n r∧znX sc seen n r:=by
 intro fuel
 induction fuel with
 | zero=>
  rintro _ _ _ _ h _ _ _ _ _ _
  exact absurd h (Nat.not_lt_zero _)
 | succ fuel ih=>
  rintro seen stk n fin hf nd hin hn L hs P
  have stkK:∀p∈nm stk,p∈keys:=fun p hp=>hin p ((hs p).mpr (.inr hp))
  by_cases h1:n∈seen
  ·by_cases h2:n∈nm stk
   ·refine⟨_,.found h1 h2,?_⟩
    obtain⟨C,c1,c2,g,c3,c4⟩:=P.back h2;refine⟨C,fun z=>(by rw[z] at c2;exact mnE c2),fun c hc=> ?_⟩
    rcases c1 c hc with rfl | z
    ·exact⟨g,c3,c4⟩
    ·exact z
   ·have hnf:n∈fin:=by rcases (hs n).mp h1 with z | z;exact z;exact absurd z h2
    obtain⟨fin',a1,a2,a3,a4⟩:=zl4 stk fin L (P.go hnf)
    cases ha:(adv stk).2 with
    | none=>
     refine⟨_,.stop h1 h2 ha,fin',a2.topo,fun x=> ?_,fun x hx=>hx,h1⟩;have e:=a1 x;rw[a3 ha] at e;rw[hs x,←e];exact⟨fun z=>z.elim id (fun z=>by exact mnE z),.inl⟩
    | some m=>
     obtain⟨b1,b2,p,hp,hm⟩:=a4 m ha;obtain⟨r,R,good⟩:=ih seen (adv stk).1 m fin' (by lia) nd hin (hsc p (stkK p hp) m hm) a2 (fun x=>(hs x).trans (a1 x).symm) b1;refine⟨r,.again h1 h2 ha R,?_⟩
     cases r with
     | cyc _=>exact good
     | all s'=>obtain⟨f,g1,g2,g3,g4⟩:=good;exact⟨f,g1,g2,g3,g3 n h1⟩
  ·have h2:n∉nm stk:=fun z=>h1 ((hs n).mpr (.inr z))
   have hnf:n∉fin:=fun z=>h1 ((hs n).mpr (.inl z))
   have L':Lies sc fin ((n,sc n)::stk):=⟨L.topo,by rw[zbc,List.nodup_append];exact⟨L.nd,by exact List.nodup_cons.mpr ⟨List.not_mem_nil,List.nodup_nil⟩,fun a ha b hb=>by simp at hb;subst hb;rintro rfl;exact h2 ha⟩,fun x hx hm=>by
    rcases zdi.mp hm with z | z
    ·exact L.dis x hx z
    ·subst z;exact hnf hx⟩
   have nd':(n::seen).Nodup:=List.nodup_cons.mpr ⟨h1,nd⟩
   have hin':∀x∈n::seen,x∈keys:=fun x hx=>by rcases List.mem_cons.mp hx with rfl | z;exact hn;exact hin x z
   have l1:(n::seen).length≤400:=Nat.le_trans (List.Nodup.length_le_of_subset nd' hin') hk;have l2:(nm stk).length≤400:=Nat.le_trans (List.Nodup.length_le_of_subset L.nd stkK) hk;rw[zde] at l2;rw[List.length_cons] at l1
   have hs':∀x,x∈n::seen↔(x∈fin∨x∈nm ((n,sc n)::stk)):=fun x=>by
    rw[List.mem_cons,hs x,zdi]
    constructor
    ·rintro(z | z | z)
     ·exact .inr (.inr z)
     ·exact .inl z
     ·exact .inr (.inl z)
    ·rintro(z | z | z)
     ·exact .inr (.inl z)
     ·exact .inr (.inr z)
     ·exact .inl z
   obtain⟨fin',a1,a2,a3,a4⟩:=zl4 ((n,sc n)::stk) fin L' ⟨⟨[],rfl,fun x hx=>by exact mnE hx⟩,P⟩
   cases ha:(adv ((n,sc n)::stk)).2 with
   | none=>
    refine⟨_,.pushStop h1 h2 hn (by exact slK ‹_› rfl) (by exact leK ‹_› rfl) ha,fin',a2.topo,fun x=> ?_,fun x hx=>List.mem_cons_of_mem _ hx,List.mem_cons_self⟩;have e:=a1 x;rw[a3 ha] at e;rw[hs' x,←e];exact⟨fun z=>z.elim id (fun z=>by exact mnE z),.inl⟩
   | some m=>
    obtain⟨b1,b2,p,hp,hm⟩:=a4 m ha
    have hpk:p∈keys:=by rcases zdi.mp hp with z | z;exact stkK p z;subst z;exact hn
    have hc:=zlV (sc:=sc) hn h1;have hl:zfb ((n,sc n)::stk)=(sc n).length+1+zfb stk:=rfl;obtain⟨r,R,good⟩:=ih (n::seen) (adv ((n,sc n)::stk)).1 m fin' (by lia) nd' hin' (hsc p hpk m hm) a2 (fun x=>(hs' x).trans (a1 x).symm) b1;refine⟨r,.push h1 h2 hn (by exact slK ‹_› rfl) (by exact leK ‹_› rfl) ha R,?_⟩
    cases r with
    | cyc _=>exact good
    | all s'=>obtain⟨f,g1,g2,g3,g4⟩:=good;exact⟨f,g1,g2,fun x hx=>g3 x (List.mem_cons_of_mem _ hx),g3 n List.mem_cons_self⟩
theorem zjD (hsc:∀k∈keys,∀s∈sc k,s∈keys){seen:List Str}{stk:Stk}{n:Str}{r:Fin1}(R:Run keys sc seen stk n r):seen.Nodup→(∀x∈seen,x∈keys)→∀s',r= .all s'→s'.Nodup∧∀x∈s',x∈keys:=by
 induction R with
 | found _ _=>intro _ _ s' e;cases e
 | again _ _ _ _ ih=>exact ih
 | stop _ _ _=>intro h1 h2 s' e;(injection e with e;subst e);exact⟨h1,h2⟩
 | push h _ hk _ _ _ _ ih=>intro h1 h2;exact ih (List.nodup_cons.mpr ⟨h,h1⟩) fun x hx=>by rcases List.mem_cons.mp hx with rfl | z;exact hk;exact h2 x z
 | pushStop h _ hk _ _ _=>intro h1 h2 s' e;(injection e with e;subst e);exact⟨List.nodup_cons.mpr ⟨h,h1⟩,fun x hx=>by rcases List.mem_cons.mp hx with rfl | z;exact hk;exact h2 x z⟩
theorem zoq (hk:keys.length≤400)(hsc:∀k∈keys,∀s∈sc k,s∈keys):∀(rest seen fin:List Str),seen.Nodup→(∀x∈seen,x∈keys)→(∀x∈rest,x∈keys)→Topo sc fin→(∀x,x∈seen↔x∈fin) →
  ∃o,Out keys sc rest seen o∧(match o with | some _=>∃C:List Str,C≠ []∧Ring sc (· ∈C) | none=>∃fin',Topo sc fin'∧(∀x∈fin,x∈fin')∧∀x∈rest,x∈fin'):=by
 intro rest
 induction rest with
 | nil=>
  rintro seen fin _ _ _ T _
  exact⟨none,.nil,fin,T,fun _ h=>h,fun _ h=>by exact mnE h⟩
 | cons n r ih=>
  rintro seen fin nd hin hr T hs
  by_cases h1:n∈seen
  ·obtain⟨o,O,g⟩:=ih seen fin nd hin (fun x hx=>hr x (List.mem_cons_of_mem _ hx)) T hs
   refine⟨o,.skip h1 O,?_⟩
   cases o with
   | some _=>exact g
   | none=>
    obtain⟨f,g1,g2,g3⟩:=g;refine⟨f,g1,g2,fun x hx=> ?_⟩
    rcases List.mem_cons.mp hx with rfl | z
    ·exact g2 _ ((hs _).mp h1)
    ·exact g3 x z
  ·obtain⟨f,R,good⟩:=zoo hk hsc _ seen [] n fin (Nat.lt_succ_self _) nd hin (hr n List.mem_cons_self) ⟨T,.nil,fun _ _ z=>by exact mnE z⟩ (fun x=>(hs x).trans ⟨.inl,fun z=>z.elim id (fun z=>by exact mnE z)⟩) trivial
   cases f with
   | cyc y=>exact⟨some y,.cyc h1 R,good⟩
   | all s'=>
    obtain⟨fin',g1,g2,g3,g4⟩:=good;obtain⟨k1,k2⟩:=zjD hsc R nd hin s' rfl;obtain⟨o,O,g⟩:=ih s' fin' k1 k2 (fun x hx=>hr x (List.mem_cons_of_mem _ hx)) g1 g2;refine⟨o,.run h1 R O,?_⟩
    cases o with
    | some _=>exact g
    | none=>
     obtain⟨f,j1,j2,j3⟩:=g;refine⟨f,j1,fun x hx=>j2 x ((g2 x).mp (g3 x ((hs x).mpr hx))),fun x hx=> ?_⟩
     rcases List.mem_cons.mp hx with rfl | z
     ·exact j2 _ ((g2 _).mp g4)
     ·exact j3 x z
theorem znI (hk:keys.length≤400)(hsc:∀k∈keys,∀s∈sc k,s∈keys):∃o,Out keys sc keys [] o∧(match o with | some _=>∃C:List Str,C≠ []∧Ring sc (· ∈C) | none=>∃fin,Topo sc fin∧∀x∈keys,x∈fin):=by
 obtain⟨o,O,g⟩:=zoq hk hsc keys [] [] .nil (fun _ h=>by exact mnE h) (fun _ h=>h) trivial (fun _=>Iff.rfl);refine⟨o,O,?_⟩
 cases o with
 | some _=>exact g
 | none=>obtain⟨f,a,_,b⟩:=g;exact⟨f,a,b⟩
end
section
variable {w:World}{Φ:Fm}{d:Nat}{H H':List Cell}{σ':List (Str×AV)}
theorem SS.bH {pg:Program}{K:Frag}{sc:Scope}{σ σ1 cp:List (Str×AV)}{cn cq:List Cell}{v:AV}{e t:Expr}{pos:Pos}(a:SE pg w K Φ d sc e σ H v σ1 cn)(c:SA pg w K Φ d sc t v σ1 cn cp cq)
  (hn:∀env,swapsWith e (some t) pos.line env=pure Bool.false:=by intro _;rfl)
  (he:∀env,(assignEach [t] env).map (·.2)= [PySem.assign t env]:=by intro _;rfl)
  (hw:∀env,swappedStores [t] e env=pure .none:=by intro _;rfl):SS pg w K Φ d sc (.Assign [t] e pos) σ H .next cp cq:=.mk fun env O ρ s A ok X=>by
 refine wpAny_Assign_stores (zac (a.1 env O ρ s A ok X) fun a' cm ⟨ρ1,m,X1,q,o⟩=> ?_) (hn ..) (hw env);rw[he]
 exact zac (c.1 env O ρ1 cm A a' ok X1 q) fun _ ct ⟨ρ2,cu,X2,cw⟩=>⟨ρ2,m.trans cu,X2,trivial,cw.trans o⟩
theorem SE.bM {pg:Program}{K:Frag}{sc:Scope}{σ σ1:List (Str×AV)}{cn:List Cell}{v:AV}{e:Expr}{pos:Pos}(a:SE pg w K Φ d sc e σ H v σ1 cn):SE pg w K Φ d sc (.JoinedStr [e] pos) σ H v σ1 cn:=.mk fun env O ρ s A ok X=>
 wpAny_JoinedStr_one (a.1 env O ρ s A ok X)
noncomputable def zck (S:Srt):List Str:=(S.nodes.filter fun m=>m.2.1==0).map (·.1)
open Classical in
noncomputable def zmN (S:Srt)(ad:Slot→Nat)(v:AV):Option AV:=
 if h:∃k,k < S.nodes.length∧v= .obj (ad (.info k)) then if (S.at h.choose).2.1==0 then some (.str (S.at h.choose).1) else none else none
theorem zi7 {S:Srt}{ad:Slot→Nat}{H:List Cell}(A:SorAt H ad S){k:Nat}{m:Node}(h:S.nodes[k]? =some m):zmN S ad (.obj (ad (.info k)))=if (m.2.1==0)=true then some (.str m.1) else none:=by
 have hk:=(List.getElem?_eq_some_iff.mp h).1
 have hx:∃k',k' < S.nodes.length∧AV.obj (ad (.info k))= .obj (ad (.info k')):=⟨k,hk,rfl⟩
 unfold zmN;rw[dif_pos hx];obtain⟨h1,h2⟩:=hx.choose_spec
 have:hx.choose=k:=by
  have:=A.inj (.info k) (.info hx.choose) hk h1 (by injection h2)
  injection this with e;exact e.symm
 rw[this,zdu h]
theorem zlt {g:AV→Option AV}{ad:Slot→Nat} :∀{rest:List Node} {j:Nat},(∀(k:Nat) (m:Node),rest[k]? =some m→g (.obj (ad (.info (j+k))))=if (m.2.1==0)=true then some (.str m.1) else none) →
  ((List.range' j rest.length).map fun k=>AV.obj (ad (.info k))).filterMap g=txts ((rest.filter fun m=>m.2.1==0).map (·.1))
 | [],_,_=>rfl
 | m::r,j,h=>by
  have h0:=h 0 m rfl;rw[Nat.add_zero] at h0
  have ih:=zlt (g:=g) (ad:=ad) (rest:=r) (j:=j+1) fun k m' e=>by rw[show j+1+k=j+(k+1) by exact Nat.add_right_comm _ _ _];exact h (k+1) m' e
  rw[List.length_cons,List.range'_succ,List.map_cons,List.filterMap_cons,List.filter_cons,h0,ih]
  cases z:(m.2.1==0)<;>rfl
noncomputable def adR (ad:Slot→Nat)(h:Nat):Slot→Nat
 | .ready=>h
 | s=>ad s
noncomputable def Srt.prep (S:Srt):Srt:= {S with ready:=some (zck S)}
noncomputable abbrev prSc:Scope:=zan (inS (topS 12) 3)
noncomputable abbrev prC:Expr:=stT (nthS 1 (zaf (inS (topS 12) 3)))
theorem zn3 {ad:Slot→Nat}{S:Srt}(T:TW w)(hc:Φ.calm=true)(A:SorAt H ad S)(hz:S.nodes.length≤1000)(hH:BdH H.length H):
  SE pW w (KK w) Φ d prSc prC [(q "self",.obj (ad .inst))] H (.obj (H.length+1)) [(q "self",.obj (ad .inst))] (H++ [.junk,.lst (txts (zck S))]):=by
 obtain⟨h1,h2,hd⟩:=A.dd;have hdl:=zag hd
 have hne1:ad .inst≠ad .dict:=fun z=>by cases A.inj .inst .dict trivial trivial z
 have hne2:ad .dd≠ad .dict:=fun z=>by cases A.inj .dd .dict trivial trivial z
 refine SE.pin hd fun n=> ?_
 generalize hHp:H.set (ad .dict) (.dct (zae ad 0 S.nodes) (some n))=Hp
 have lenp:Hp.length=H.length:=by rw[←hHp,List.length_set]
 have keep:∀j,j≠ad .dict→Hp[j]? =H[j]? :=fun j hj=>by rw[←hHp,List.getElem?_set_ne (fun z=>hj z.symm)]
 have gd:Hp[ad .dict]? =some (.dct (zae ad 0 S.nodes) (some n)):=by rw[←hHp];exact List.getElem?_set_self hdl
 have hHn:BdH Hp.length Hp:=by
  rw[lenp,←hHp];refine hH.set ?_;have:=hH.get hd
  cases this with | dct q=>exact .dct q
 have Sv:Src (KK w) Hp (.vals (ad .dict)) ((zae ad 0 S.nodes).map (·.2)) (fun p=>.viter (ad .dict) (zae ad 0 S.nodes).length n p):=.vals gd;have dD:Bde Hp.length [(q "self",AV.obj (ad .inst))]:=.cons (.obj (by rw[lenp];exact A.lt (s:=.inst) trivial)) .nil;have cr:=zaW (pg:=pW) (w:=w) (K:=KK w) (Φ:=Φ) (d:=d) (sc:=prSc) (σ:= [(q "self",AV.obj (ad .inst))]) (σc:= []) (elt:=exE prC) (target:=(exG prC).target) (iter:=(exG prC).iter) (ifs:=(exG prC).ifs) (scope:=exS prC) (pos:=prC.pos)
  hc Sv (.vals (by rw[lenp];exact hdl)) hHn dD (zaS rfl (by decide+kernel) rfl .nil) (by rw[List.length_map,zc3];assumption) (zmN S ad) (fun v hv H' hH' ext=> ?step)
 case step=>
  rw[zcp] at hv;obtain⟨k,hk,rfl⟩:=List.mem_map.mp hv
  have hk':k < S.nodes.length:=by have:=List.mem_range'_1.mp hk;lia
  have hm:S.nodes[k]? =some S.nodes[k]:=List.getElem?_eq_getElem hk';obtain⟨i1,i2,i3⟩:=A.info hm;have e1:H'[ad (.info k)]? =_:=ext _ _ ((keep _ (fun z=>by cases A.inj (.info k) .dict hk' trivial z)).trans i1);have e2:H'[ad (.ns k)]? =_:=ext _ _ ((keep _ (fun z=>by cases A.inj (.ns k) .dict hk' trivial z)).trans i2);refine⟨[(q "i",.obj (ad (.info k)))],SA.name (.inl rfl) .nil,(fun y u z=>by exact nsE z),?_⟩;have hg:=zi7 A hm
  have ts:STs pW w (KK w) Φ d (exS prC) ((exG prC).ifs) [(q "i",AV.obj (ad (.info k)))] H' ((S.nodes[k]).2.1==0) [(q "i",AV.obj (ad (.info k)))] H':=
   STs.one (ST.cmp (SE.slot (SE.name ⟨rfl,rfl⟩ rfl) za7 zaq e1 e2 rfl rfl) SE.int SCmp.bC)
  cases z:((S.nodes[k]).2.1==0) with
  | true=>
   rw[z] at ts hg;exact .inl ⟨_,hg,ts,SE.slot (SE.name ⟨rfl,rfl⟩ rfl) za7 zkP e1 e2 rfl rfl,.str⟩
  | false=>
   rw[z] at ts hg;exact .inr ⟨hg,ts⟩
 have efm:((zae ad 0 S.nodes).map (·.2)).filterMap (zmN S ad)=txts (zck S):=by
  rw[zcp]
  exact zlt fun k m e=>by rw[Nat.zero_add];exact zi7 A e
 rw[efm] at cr;have g1:Hp[ad .inst]? =_:=(keep _ hne1).trans h1;have g2:Hp[ad .dd]? =_:=(keep _ hne2).trans h2;have z:=SE.aw (pos:=prC.pos) (cq:=Hp++ [.viter (ad .dict) (zae ad 0 S.nodes).length n 0]) (i:=Hp.length) (SE.meth (pos:=((exG prC).iter).pos) (SE.attr (SE.name ⟨rfl,rfl⟩ rfl) zaB zaE g1 g2 rfl rfl) (GM.dict gd PySem.F.slot_dict_values rfl) .builtin SG.nil (SC.values T gd)) Sv.it cr.1 (by intro _ _;rfl);have z2:=SE.free z (i:=ad .dict) (es:=zae ad 0 S.nodes) (ep:=some n) (by rw[List.getElem?_append_left (by rw[lenp];exact hdl)];exact gd)
 have eH:(Hp++ [Cell.junk,Cell.lst (txts (zck S))]).set (ad .dict) (.dct (zae ad 0 S.nodes) none)=H++ [.junk,.lst (txts (zck S))]:=by
  rw[List.set_append_left _ _ (by rw[lenp];exact hdl),←hHp,List.set_set]
  congr 1
  refine List.ext_getElem? fun j=> ?_
  rw[List.getElem?_set]
  by_cases e:ad .dict=j
  ·subst e;rw[if_pos rfl,if_pos hdl,hd]
  ·rw[if_neg e]
 rw[eH] at z2
 have el:(Hp++ [Cell.viter (ad .dict) (zae ad 0 S.nodes).length n 0]).length=H.length+1:=by simp[lenp]
 rw[el] at z2;exact z2
noncomputable def Srt.succ (S:Srt)(n:Str):List Str:=(S.at (S.find n)).2.2
noncomputable def Srt.names (S:Srt):List Str:=S.nodes.map (·.1)
theorem zbh {S:Srt}{n:Str}(h:n∈S.names):∃m,S.nodes[S.find n]? =some m∧m.1=n:=by
 have:=zfR (S:=S) (n:=n);unfold Srt.see at this;rw[if_pos (show n∈S.nodes.map (·.1) from h)] at this;exact this
theorem SorAt.fc {ad:Slot→Nat}{S:Srt}{B:Nat}(A:SorAt H ad S)(hz:S.sm B)(hB:B≤1000):FcOk H (ad .dict) S.names S.succ (fun n=>ad (.suc (S.find n))):=⟨fun n hn=>by
 obtain⟨m,hm,rfl⟩:=zbh hn;obtain⟨i1,i2,i3⟩:=A.info hm;obtain⟨_,_,hd⟩:=A.dd;have hg:=zbd (ad:=ad) (j:=0) A.nd hm;rw[Nat.zero_add] at hg
 have hs:S.succ m.1=m.2.2:=by unfold Srt.succ;rw[zdu hm]
 exact⟨_,_,_,_,_,_,hd,hg,i1,i2,by rw[hs];exact i3,by rw[hs];have:=hz.2 m (List.mem_of_getElem? hm);exact Nat.le_trans ‹_› ‹_›⟩⟩
theorem zfU {S:Srt}{s:Slot}(h:S.prep.ok s):S.ok s∨s= .ready:=by
 cases s<;>first | exact .inl h | exact .inr rfl
theorem zdQ {ad:Slot→Nat}{S:Srt}{h:Nat}{s:Slot}(hr:S.ready=none)(hs:S.ok s):adR ad h s=ad s:=by
 cases s with
 | ready=>have:S.ready.isSome=true:=hs;rw[hr] at this;exact ftE this
 | _=>rfl
theorem zjK {ad:Slot→Nat}{S:Srt}{h:Nat}(hr:S.ready=none):dset (zaM ad S) (q "_ready_nodes") (.obj h)=zaM (adR ad h) S.prep:=by
 unfold zaM;rw[hr];rfl
noncomputable abbrev zbb (H:List Cell)(ad:Slot→Nat)(S:Srt):List Cell:=(H++ [Cell.junk,Cell.lst (txts (zck S))]).set (ad .dd) (.ns (zaM (adR ad (H.length+1)) S.prep))
theorem zfV {ad:Slot→Nat}{S:Srt}(A:SorAt H ad S)(hr:S.ready=none):SorAt (zbb H ad S) (adR ad (H.length+1)) S.prep∧Apart S ad H (zbb H ad S)∧Wider S S.prep ad (adR ad (H.length+1)) H.length:=by
 refine⟨⟨fun s hs=> ?_,fun a b ha hb e=> ?_,A.nd⟩,(Apart.refl.more _).set (s:=.dd) trivial,fun s hs=> ?_⟩
 ·rcases zfU hs with h | rfl
  ·rw[zdQ hr h]
   by_cases hdd:s= .dd
   ·subst hdd
    rw[List.getElem?_set_self (by rw[List.length_append];have:=A.lt h;exact Nat.lt_of_lt_of_le ‹_› (Nat.le_add_right _ _))];rfl
   ·rw[List.getElem?_set_ne (fun z=>hdd (A.inj .dd s trivial h z).symm),List.getElem?_append_left (A.lt h),A.cells s h]
    cases s with
    | dd=>exact absurd rfl hdd
    | ready=>have:S.ready.isSome=true:=h;rw[hr] at this;exact ftE this
    | dict=>show some (Cell.dct (zae ad 0 S.nodes) none)=some (Cell.dct (zae (adR ad (H.length+1)) 0 S.nodes) none);rw[zdK (ad':=adR ad (H.length+1)) (ad:=ad) fun _ _ _=>rfl]
    | _=>rfl
  ·show((H++ [Cell.junk,Cell.lst (txts (zck S))]).set _ _)[H.length+1]? =_
   rw[List.getElem?_set_ne (by have:=A.lt (s:=.dd) trivial;lia)];exact zeM
 ·rcases zfU ha with h | rfl<;>rcases zfU hb with h' | rfl
  ·rw[zdQ hr h,zdQ hr h'] at e;exact A.inj _ _ h h' e
  ·rw[zdQ hr h] at e;have:=A.lt h;have e':ad a=H.length+1:=e;lia
  ·rw[zdQ hr h'] at e;have:=A.lt h';have e':H.length+1=ad b:=e;lia
  ·rfl
 ·rcases zfU hs with h | rfl
  ·exact .inl ⟨h,zdQ hr h⟩
  ·right;show H.length≤H.length+1;exact Nat.le_add_right _ _
theorem SCcx.plain {K:Frag}{g cQ:Str→Option Value}{fd:FuncData}{body:List Stmt}{a:Addr}{cls:Value}{ns:List Str}{xs:List AV}(T:TopOk K g cQ)(F:FnOk K a fd body)(hb:∀vs:List Value,vs.length=ns.length→bindArgs fd ⟨vs,[]⟩=pure (ns.zip vs))
  (hnd:ns.Nodup) (hl:∀x∈ns,fd.scope.names.lookup x=some .local∨fd.scope.names.lookup x=some .cell) (hx:xs.length=ns.length)
  (hB:∀L,SSsx pW w K (Φ.deeper L) d fd.scope body (ns.zip xs) H cls σ' H'):SCcx pW w K Φ (d+1) (.ref a) xs H cls H':=
 SCcx.gen (ds:= []) (dv:= []) T F (fun s vs _ h=>by rw[List.append_nil];exact BindsTo.of_eq (hb vs (h.trans hx))) (fun _ _=>.nil) hnd hl (by simpa using hx) (by rw[List.append_nil];exact hB)
theorem SSx.ifT {pg:Program}{K:Frag}{sc:Scope}{σ σ1 cp:List (Str×AV)}{cn cq:List Cell}{cls:Value}{pos:Pos}{t:Expr}{body orelse:List Stmt}(a:ST pg w K Φ d sc t σ H true σ1 cn)(c:SSsx pg w K Φ d sc body σ1 cn cls cp cq):SSx pg w K Φ d sc (.If t body orelse pos) σ H cls cp cq:=.mk fun env O ρ s A ok X=>by
 refine wpAny_If (wpAny_mono (a.1 env O ρ s A ok X) (fun b' cm ⟨e,ρ1,m,X1,o⟩=> ?_) fun _ _ z=>z.elim);subst e
 exact wpAny_mono (c.1 env O ρ1 cm A ok X1) (fun _ _ z=>z.elim) fun _ _ z=>z.then m o X.rel.big
theorem zfl {ad:Slot→Nat}{S:Srt}{B:Nat}{o:Option (List Str)}(T:TW w)(hc:Φ.calm=true)(A:SorAt H ad S)(hr:S.ready=none)(hz:S.sm B)(hB:B≤1000)(R:Out S.names S.succ S.names [] o)(hH:BdH H.length H):
  SS pW w (KK w) Φ (d+1) prSc (nthS 0 (zaf (inS (topS 12) 3))) [(q "self",.obj (ad .inst))] H .next [(q "self",.obj (ad .inst))] H ∧
  SS pW w (KK w) Φ (d+1) prSc (nthS 1 (zaf (inS (topS 12) 3))) [(q "self",.obj (ad .inst))] H .next [(q "self",.obj (ad .inst))] (zbb H ad S) ∧
  SS pW w (KK w) Φ (d+1) prSc (nthS 2 (zaf (inS (topS 12) 3))) [(q "self",.obj (ad .inst))] (zbb H ad S) .next [(q "self",.obj (ad .inst)),(q "cycle",outV o)] (zbb H ad S):=by
 obtain⟨g1,g2,g3⟩:=A.dd;obtain⟨A2,Ap,W⟩:=zfV A hr;obtain⟨k1,k2,k3⟩:=A2.dd;refine⟨SS.ifF (ST.cmp (SE.attr (SE.name ⟨rfl,rfl⟩ rfl) zaB zao g1 g2 (zfG hr) rfl) SE.none SCmp.am) SSs.nil,?_,?_⟩
 ·unfold zbb
  rw[←zjK hr];refine SS.bH (zn3 T hc A (by have:=hz.1;exact Nat.le_trans ‹_› ‹_›) hH) (SA.attr (SE.name ⟨rfl,rfl⟩ rfl) zaB zao ?_ ?_ (show 4≤1000 by decide))
  ·rw[List.getElem?_append_left (zag g1)];exact g1
  ·rw[List.getElem?_append_left (zag g2)];exact g2
 ·have fc:=(c_fc (d:=d) (H:=zbb H ad S) (i:=ad .inst) T k1 k2 (by unfold zaM;rfl) k3 zbO (A2.fc (show S.prep.sm B from hz) hB) R).2 Φ hc
  exact SS.assign (fun _ _ _=>rfl) (SE.meth (SE.name ⟨rfl,rfl⟩ rfl) (GM.inst zaB zgX zgA k1 k2 rfl) zeY SG.nil fc.sem) (SA.name (.inl rfl) (.there rfl .nil))
theorem zlZ {ad:Slot→Nat}{S:Srt}{B:Nat}(T:TW w)(hc:Φ.calm=true)(A:SorAt H ad S)(hr:S.ready=none)(hz:S.sm B)(hB:B≤1000)(R:Out S.names S.succ S.names [] none):
  SCc pW w (KK w) Φ (d+2) (.ref 126) [.obj (ad .inst)] H .none (zbb H ad S):=SCc.bd fun hH=>by
 refine SCc.plain (f:=.next) (ns:= [q "self"]) (σ':= [(q "self",.obj (ad .inst)),(q "cycle",.none)]) T zdZ (len1 fun _=>rfl) (by exact List.nodup_cons.mpr ⟨List.not_mem_nil,List.nodup_nil⟩) (fun x hx=>by simp at hx;subst hx;exact .inl rfl) rfl fun L=> ?_
 obtain⟨a,b,c⟩:=zfl (Φ:=Φ.deeper L) (d:=d) T hc A hr hz hB R hH;exact SSs.cons a (SSs.cons b (SSs.cons c (SSs.cons (SS.ifF (ST.val (SE.name ⟨rfl,rfl⟩ rfl) STr.none) SSs.nil) SSs.nil)))
theorem zkm {ad:Slot→Nat}{S:Srt}{B:Nat}{ys:List Str}(T:TW w)(hc:Φ.calm=true)(A:SorAt H ad S)(hr:S.ready=none)(hz:S.sm B)(hB:B≤1000)(R:Out S.names S.succ S.names [] (some ys)):
  SCcx pW w (KK w) Φ (d+2) (.ref 126) [.obj (ad .inst)] H (.ref 89) (zbb H ad S):=fun ρ s A' vs ok Rl g p=>by
 have hH:=Rl.bd;obtain⟨A2,Ap,W⟩:=zfV A hr;obtain⟨k1,k2,k3⟩:=A2.dd;obtain⟨hne,hlen⟩:=(c_fc (w:=w) (d:=d) (H:=zbb H ad S) (i:=ad .inst) T k1 k2 (by unfold zaM;rfl) k3 zbO (A2.fc (show S.prep.sm B from hz) hB) R).1 ys rfl;refine SCcx.plain (ns:= [q "self"]) (σ':= [(q "self",.obj (ad .inst)),(q "cycle",outV (some ys))]) T zdZ (len1 fun _=>rfl) (by exact List.nodup_cons.mpr ⟨List.not_mem_nil,List.nodup_nil⟩) (fun x hx=>by simp at hx;subst hx;exact .inl rfl) rfl (fun L=> ?_) ρ s A' vs ok Rl g p;obtain⟨a,b,c⟩:=zfl (Φ:=Φ.deeper L) (d:=d) T hc A hr hz hB R hH;refine SSsx.cons a (SSsx.cons b (SSsx.cons c (SSsx.first ?_)));refine SSx.ifT ((ST.val (SE.name ⟨rfl,rfl⟩ rfl) (STr.list .lst (by rw[zaa,sizeLine_eq];exact leK ‹_› rfl))).eq (by rw[zbn];cases ys<;>first | exact absurd rfl hne | rfl)) (SSsx.first (SSx.bp (Φ:=Φ.deeper L) hc excW (SE.glob T ⟨rfl,rfl⟩ rfl zdY) (SG.some (SL.cons (SE.bM SE.str) (SL.cons (SE.name ⟨rfl,rfl⟩ rfl) SL.nil))) (small rfl)))
theorem zfF {ad:Slot→Nat}{S:Srt}{B:Nat}{o:Option (List Str)}(T:TW w)(hc:Φ.calm=true)(A:SorAt H ad S)(hr:S.ready=none)(hz:S.sm B)(hB:B≤1000)(R:Out S.names S.succ S.names [] o):
  SCc pW w (KK w) Φ (d+3) (.ref 314) [.obj (ad .inst)] H (.bool o.isSome) (zbb H ad S):=by
 obtain⟨g1,g2,g3⟩:=A.dd
 refine SCc.plain (f:=.ret (.bool o.isSome)) (ns:= [q "sorter"]) (σ':= [(q "sorter",.obj (ad .inst))]) T zfd (len1 fun _=>rfl) (by exact List.nodup_cons.mpr ⟨List.not_mem_nil,List.nodup_nil⟩) (fun x hx=>by simp at hx;subst hx;exact .inl rfl) rfl fun L=> ?_
 cases o with
 | none=>
  exact SSs.cons (SS.bQ (SSs.cons (SS.expr (fun _ _ _=>rfl) (SE.meth (SE.name ⟨rfl,rfl⟩ rfl) (GM.inst zaB zgW zgz g1 g2 rfl) zd2 SG.nil (zlZ (Φ:=Φ.deeper L) (d:=d) T hc A hr hz hB R).sem)) SSs.nil) SSs.nil) (SSs.stop (SS.ret SE.bool))
 | some ys=>
  exact SSs.stop (SS.tryX (SSsx.first (SSx.expr (fun _ _ _=>rfl) (SEx.meth (SE.name ⟨rfl,rfl⟩ rfl) (GM.inst zaB zgW zgz g1 g2 rfl) zd2 SG.nil (zkm (Φ:=Φ.deeper L) (d:=d) T hc A hr hz hB R).sem))) (SE.glob T ⟨rfl,rfl⟩ rfl zdY) (zlh excW) (SSs.stop (SS.ret SE.bool)))
noncomputable def Srt.mod (S:Srt)(n:Str)(f:Int→Int):Srt:=S.setN (S.find n) ((S.at (S.find n)).1,f (S.at (S.find n)).2.1,(S.at (S.find n)).2.2)
noncomputable def Srt.wReady (S:Srt)(rs:List Str):Srt:= {S with ready:=some rs}
noncomputable def Srt.wPass (S:Srt)(k:Int):Srt:= {S with pass:=k}
noncomputable def Srt.wFin (S:Srt)(k:Int):Srt:= {S with fin:=k}
theorem zdJ {S S':Srt}(h:S'.names=S.names)(n:Str):S'.find n=S.find n:=by
 have e:∀S:Srt,S.find n=S.names.findIdx (fun x=>x=n):=fun S=>by unfold Srt.find Srt.names;rw[List.findIdx_map];rfl
 rw[e,e,h]
theorem za0 {S:Srt}{n:Str}{f:Int→Int}(h:n∈S.names):(S.mod n f).names=S.names:=by
 obtain⟨m,hm,_⟩:=zbh h;exact zbB hm (by rw[zdu hm])
theorem zoD {S:Srt}{n:Str}{f:Int→Int}(h:n∈S.names)(k:Nat):(S.mod n f).at k=if k=S.find n then ((S.at k).1,f (S.at k).2.1,(S.at k).2.2) else S.at k:=by
 obtain⟨m,hm,_⟩:=zbh h;have:=(List.getElem?_eq_some_iff.mp hm).1;show(List.set _ _ _).getD k zaU=_;rw[zcb this]
 split
 ·rename_i z;subst z;rfl
 ·rfl
theorem zdh {S:Srt}{n:Str}{f:Int→Int}(h:n∈S.names)(x:Str):(S.mod n f).succ x=S.succ x:=by
 unfold Srt.succ;rw[zdJ (za0 h),zoD h]
 split<;>rfl
theorem zcy {S:Srt}{k:Nat}{m:Node}(h:S.nodes[k]? =some m):k < S.nodes.length:=(List.getElem?_eq_some_iff.mp h).1
theorem zc9 {H:List Cell}{i j:Nat}{c c':Cell}(h:i≠j)(e:H[j]? =some c):(H.set i c')[j]? =some c:=(List.getElem?_set_ne h).trans e
theorem SorAt.mod {ad:Slot→Nat}{S:Srt}{n:Str}{m:Node}(A:SorAt H ad S)(hm:S.nodes[S.find n]? =some m)(f:Int→Int):
  SorAt (H.set (ad (.info (S.find n))) (.info (ad (.ns (S.find n))) (some (.str m.1)) (some (.int (f m.2.1))) (some (.obj (ad (.suc (S.find n))))))) ad (S.mod n f):=by
 have:=A.setNp hm (f m.2.1);unfold Srt.mod;rw[zdu hm];exact this
theorem SorAt.setReady {ad:Slot→Nat}{S:Srt}{rs:List Str}(A:SorAt H ad S)(hr:S.ready=some rs)(rs':List Str):SorAt (H.set (ad .ready) (.lst (txts rs'))) ad (S.wReady rs'):=by
 have ok:S.ok .ready:=by show S.ready.isSome=true;rw[hr];rfl
 refine A.upd ok (fun t=> ?_) rfl rfl fun t ht hne=> ?_
 ·cases t<;>first | exact Iff.rfl | (show(some rs').isSome=true↔S.ready.isSome=true;rw[hr];simp)
 ·cases t with
  | ready=>exact absurd rfl hne
  | dd=>show Cell.ns (zaM ad (S.wReady rs'))=Cell.ns (zaM ad S);unfold zaM;rw[hr];rfl
  | _=>rfl
theorem SorAt.setPass {ad:Slot→Nat}{S:Srt}(A:SorAt H ad S)(k:Int):SorAt (H.set (ad .dd) (.ns (zaM ad (S.wPass k)))) ad (S.wPass k):=by
 refine A.upd trivial (fun t=> ?_) rfl rfl fun t ht hne=> ?_
 ·cases t<;>exact Iff.rfl
 ·cases t with
  | dd=>exact absurd rfl hne
  | _=>rfl
theorem SorAt.setFin {ad:Slot→Nat}{S:Srt}(A:SorAt H ad S)(k:Int):SorAt (H.set (ad .dd) (.ns (zaM ad (S.wFin k)))) ad (S.wFin k):=by
 refine A.upd trivial (fun t=> ?_) rfl rfl fun t ht hne=> ?_
 ·cases t<;>exact Iff.rfl
 ·cases t with
  | dd=>exact absurd rfl hne
  | _=>rfl
theorem SorAt.rd {ad:Slot→Nat}{S:Srt}{rs:List Str}(A:SorAt H ad S)(hr:S.ready=some rs):H[ad .ready]? =some (.lst (txts rs))∧dget (zaM ad S) (q "_ready_nodes")=some (.obj (ad .ready)):=by
 have ok:S.ok .ready:=by show S.ready.isSome=true;rw[hr];rfl
 have a:H[ad .ready]? =some (.lst (txts (S.ready.getD []))):=A.cells .ready ok;rw[hr] at a;refine⟨a,?_⟩;unfold zaM;rw[hr];rfl
theorem zlN {ad:Slot→Nat}{S:Srt}(k:Int):dset (zaM ad S) (q "_npassedout") (.int k)=zaM ad (S.wPass k):=by unfold zaM;rfl
theorem zmW {ad:Slot→Nat}{S:Srt}(k:Int):dset (zaM ad S) (q "_nfinished") (.int k)=zaM ad (S.wFin k):=by unfold zaM;rfl
theorem zga {ad:Slot→Nat}{S:Srt} :dget (zaM ad S) (q "_npassedout")=some (.int S.pass):=by unfold zaM;rfl
theorem zic {ad:Slot→Nat}{S:Srt} :dget (zaM ad S) (q "_nfinished")=some (.int S.fin):=by unfold zaM;rfl
theorem zlw {ad:Slot→Nat}{S:Srt} :dget (zaM ad S) (q "_node2info")=some (.obj (ad .dict)):=by unfold zaM;rfl
noncomputable def Srt.active (S:Srt):Bool:=decide (S.fin < S.pass)|| !(S.ready.getD []).isEmpty
theorem zgo {ad:Slot→Nat}{S:Srt}{rs:List Str}(T:TW w)(A:SorAt H ad S)(hr:S.ready=some rs)(hz:rs.length≤5000):SCc pW w (KK w) Φ (d+1) (.ref 140) [.obj (ad .inst)] H (.bool S.active) H:=by
 obtain⟨g1,g2,g3⟩:=A.dd;obtain⟨r1,r2⟩:=A.rd hr
 refine SCc.plain (f:=.ret (.bool S.active)) (ns:= [q "self"]) (σ':= [(q "self",.obj (ad .inst))]) T zfe (len1 fun _=>rfl) (by exact List.nodup_cons.mpr ⟨List.not_mem_nil,List.nodup_nil⟩) (fun x hx=>by simp at hx;subst hx;exact .inl rfl) rfl fun L=> ?_
 refine SSs.cons (SS.ifF (ST.cmp (SE.attr (SE.name ⟨rfl,rfl⟩ rfl) zaB zao g1 g2 r2 rfl) SE.none (SCmp.ax rfl)) SSs.nil) (SSs.stop (SS.ret ?_));unfold Srt.active;rw[hr,Option.getD_some]
 cases z:decide (S.fin < S.pass) with
 | true=>exact SE.orL ((SE.cmp (SE.attr (SE.name ⟨rfl,rfl⟩ rfl) zaB zbK g1 g2 zic rfl) (SE.attr (SE.name ⟨rfl,rfl⟩ rfl) zaB zbw g1 g2 zga rfl) SCmp.bR).eq (congrArg AV.bool z)) STr.bool
 | false=>
  refine SE.orR ((SE.cmp (SE.attr (SE.name ⟨rfl,rfl⟩ rfl) zaB zbK g1 g2 zic rfl) (SE.attr (SE.name ⟨rfl,rfl⟩ rfl) zaB zbw g1 g2 zga rfl) SCmp.bR).eq (congrArg AV.bool z)) STr.bool ((SE.call (SE.bltn T ⟨rfl,rfl⟩ rfl zoB zoX) .type (SG.some (SL.cons (SE.attr (SE.name ⟨rfl,rfl⟩ rfl) zaB zao g1 g2 r2 rfl) SL.nil)) (SC.bE (.obj r1) (by rw[zaa,sizeLine_eq];exact leK ‹_› rfl))).eq (by rw[zbn];rfl))
noncomputable def Srt.outs (S:Srt)(ts:List Str):Srt:=ts.foldl (fun S t=>S.mod t fun _=> -1) S
theorem zft:∀{ts:List Str} {S:Srt},(∀t∈ts,t∈S.names)→(S.outs ts).names=S.names
 | [],_,_=>rfl
 | t::r,S,h=>by
  have e:=za0 (f:=fun _=> -1) (h t List.mem_cons_self);exact(zft (S:=S.mod t fun _=> -1) fun x hx=>by rw[e];exact h x (List.mem_cons_of_mem _ hx)).trans e
theorem zgO:∀(ts:List Str) (S:Srt),(S.outs ts).ready=S.ready∧(S.outs ts).pass=S.pass∧(S.outs ts).fin=S.fin:=by
 intro ts
 induction ts with
 | nil=>
  rintro _
  exact⟨rfl,rfl,rfl⟩
 | cons t r ih=>
  rintro S
  exact ih (S.mod t fun _=> -1)
noncomputable abbrev grSc:Scope:=zan (inS (topS 12) 4)
noncomputable abbrev grB:List Stmt:=stB (nthS 3 (zaf (inS (topS 12) 4)))
noncomputable abbrev grT:Expr:=stT (nthS 3 (zaf (inS (topS 12) 4)))
noncomputable def dz (i dd:Nat)(rs:List Str):List (Str×AV):= [(q "self",.obj i),(q "result",.tup (txts rs)),(q "n2i",.obj dd)]
theorem zkB {ad:Slot→Nat}{rs:List Str}{i0:Nat}{cN:Srt}{H0:List Cell}(T:TW w)(hi0:H0.length≤i0):∀(rest:List Str) (k:Nat) (H:List Cell) (S:Srt),rs.drop k=rest→H[i0]? =some (.titer (txts rs) k)→SorAt H ad S→(∀s,S.ok s→ad s≠i0)→(∀s,S.ok s→cN.ok s) →
  Apart cN ad H0 H→(∀t∈rest,t∈S.names)→∃H',(∀Φ:Fm,Φ.calm=true→SFor pW w (KK w) Φ d grSc grT i0 grB [] (dz (ad .inst) (ad .dict) rs) H .next (dz (ad .inst) (ad .dict) rs) H')∧SorAt H' ad (S.outs rest)∧Apart cN ad H0 H':=by
 intro rest
 induction rest with
 | nil=>
  rintro k H S hk hit A hne hok Ap hin
  have hnone:(txts rs)[k]? =none:=List.getElem?_eq_none (by rw[zaa];exact List.drop_eq_nil_iff.mp hk);exact⟨H.set i0 .junk,fun Φ hc=>SFor.out (SN.aI hc hit hnone) SSs.nil,A.setOther hne,Ap.setNew hi0⟩
 | cons t rest ih=>
  rintro k H S hk hit A hne hok Ap hin
  have hp:rs[k]? =some t:=by have:=congrArg (·[0]?) hk;simpa using this
  have hk':rs.drop (k+1)=rest:=by have:=congrArg (List.drop 1) hk;rw[List.drop_drop] at this;simpa using this
  have hv:(txts rs)[k]? =some (.str t):=by rw[zbf,hp];rfl
  have hi:=zag hit;have A1:SorAt (H.set i0 (.titer (txts rs) (k+1))) ad S:=A.setOther hne;have hit1:(H.set i0 (.titer (txts rs) (k+1)))[i0]? =some (.titer (txts rs) (k+1)):=List.getElem?_set_self hi;have ht:=hin t List.mem_cons_self;obtain⟨m,hm,hm1⟩:=zbh ht;subst hm1;have A2:=A1.mod hm (fun _=> -1);have ok:S.ok (.info (S.find m.1)):=(List.getElem?_eq_some_iff.mp hm).1;have nms:=za0 (f:=fun _=> -1) ht;have hit2:=zc9 (c':=.info (ad (.ns (S.find m.1))) (some (.str m.1)) (some (.int (-1))) (some (.obj (ad (.suc (S.find m.1)))))) (hne _ ok) hit1;obtain⟨H',loop,A',Ap'⟩:=ih (k+1) _ (S.mod m.1 fun _=> -1) hk' hit2 A2 (fun s hs=>hne s ((zbS s).mp hs)) (fun s hs=>hok s ((zbS s).mp hs)) ((Ap.setNew hi0).set (hok _ ok)) (fun x hx=>by rw[nms];exact hin x (List.mem_cons_of_mem _ hx));refine⟨H',fun Φ hc=> ?_,A',Ap'⟩;obtain⟨g1,g2,g3⟩:=A1.dd;obtain⟨i1,i2,i3⟩:=A1.info hm;have hg:=zbd (ad:=ad) (j:=0) A.nd hm;rw[Nat.zero_add] at hg;refine SFor.turn (SN.ao hit hv) hit1 .titer (SA.name (.inl rfl) (.there rfl (.there rfl (.there rfl .nil)))) (SSs.weaken (σ1:=dz (ad .inst) (ad .dict) rs++ [(q "node",.str m.1)]) (SSs.cons ?a SSs.nil) fun y v e=>zah e) (.inl rfl) (loop Φ hc)
  case a=>exact SS.assign (fun _ _ _=>rfl) (SE.a7 T ⟨rfl,rfl⟩ rfl zfz (v:=.int (-1)) fun _ _=>.int) (SA.slot (SE.dictItem (SE.name ⟨rfl,rfl⟩ rfl) (SE.name ⟨rfl,rfl⟩ rfl) g3 hg) za7 zaq i1 i2 (by decide) Turned.at1)
noncomputable def Srt.got (S:Srt)(rs:List Str):Srt:=((S.outs rs).wReady []).wPass (S.pass+rs.length)
theorem zdN {ad:Slot→Nat}{S:Srt}{rs:List Str}(T:TW w)(A:SorAt H ad S)(hr:S.ready=some rs)(hz:rs.length≤5000)(hin:∀t∈rs,t∈S.names):
  ∃H',(∀Φ:Fm,Φ.calm=true→SCc pW w (KK w) Φ (d+1) (.ref 133) [.obj (ad .inst)] H (.tup (txts rs)) H')∧SorAt H' ad (S.got rs)∧Apart S ad H H':=by
 obtain⟨g1,g2,g3⟩:=A.dd;obtain⟨r1,r2⟩:=A.rd hr
 have sz:(txts rs).length≤sizeLine:=by rw[zaa,sizeLine_eq];exact leK ‹_› rfl
 obtain⟨H1,loop,A1,Ap1⟩:=zkB (d:=d) (ad:=ad) (rs:=rs) (i0:=H.length) (cN:=S) (H0:=H) T (Nat.le_refl _) rs 0 (H++ [.titer (txts rs) 0]) S rfl (by exact zbN) (A.more _) (fun s hs=>Nat.ne_of_lt (A.lt hs)) (fun s hs=>hs) (Apart.refl.more _) hin;obtain⟨o1,o2,o3⟩:=zgO rs S;have hr1:(S.outs rs).ready=some rs:=o1.trans hr
 have okR:S.ok .ready:=by show S.ready.isSome=true;rw[hr];rfl
 have A2:=A1.setReady hr1 [];have A3:=A2.setPass (S.pass+rs.length);obtain⟨k1,k2,k3⟩:=A1.dd;obtain⟨l1,l2⟩:=A1.rd hr1;obtain⟨n1,n2,n3⟩:=A2.dd;refine⟨_,fun Φ hc=> ?_,A3,(Ap1.set okR).set (s:=.dd) trivial⟩
 refine SCc.plain (f:=.ret (.tup (txts rs))) (ns:= [q "self"]) (σ':=dz (ad .inst) (ad .dict) rs) T zff (len1 fun _=>rfl) (by exact List.nodup_cons.mpr ⟨List.not_mem_nil,List.nodup_nil⟩) (fun x hx=>by simp at hx;subst hx;exact .inl rfl) rfl fun L=> ?_
 refine SSs.cons (SS.ifF (ST.cmp (SE.attr (SE.name ⟨rfl,rfl⟩ rfl) zaB zao g1 g2 r2 rfl) SE.none (SCmp.ax rfl)) SSs.nil) ?_;refine SSs.cons (σ1:= [(q "self",.obj (ad .inst)),(q "result",.tup (txts rs))]) (SS.assign (fun _ _ _=>rfl) (SE.call (SE.bltn T ⟨rfl,rfl⟩ rfl znL zn8) .type (SG.some (SL.cons (SE.attr (SE.name ⟨rfl,rfl⟩ rfl) zaB zao g1 g2 r2 rfl) SL.nil)) (SC.bO (.obj r1) sz)) (SA.name (.inl rfl) (.there rfl .nil))) ?_;refine SSs.cons (σ1:=dz (ad .inst) (ad .dict) rs) (SS.assign (fun _ _ _=>rfl) (SE.attr (SE.name ⟨rfl,rfl⟩ rfl) zaB zaE g1 g2 zlw rfl) (SA.name (.inl rfl) (.there rfl (.there rfl .nil)))) ?_;refine SSs.cons (SS.for (SE.name ⟨rfl,rfl⟩ rfl) SIt.tuple (loop _ hc)) ?_;refine SSs.cons (σ1:=dz (ad .inst) (ad .dict) rs) (cn:=H1.set (ad .ready) (.lst (txts []))) (SS.expr (fun _ _ _=>rfl) (SE.meth (SE.attr (SE.name ⟨rfl,rfl⟩ rfl) zaB zao k1 k2 l2 rfl) (GM.listO l1 PySem.F.slot_list_clear rfl) .builtin SG.nil (SC.clear l1 sz))) ?_;refine SSs.cons (σ1:=dz (ad .inst) (ad .dict) rs) ?aug (SSs.stop (SS.ret (SE.name ⟨rfl,rfl⟩ rfl)))
 case aug=>
  have e:dset (zaM ad ((S.outs rs).wReady [])) (q "_npassedout") (.int (S.pass+(rs.length:Int)))=zaM ad (((S.outs rs).wReady []).wPass (S.pass+rs.length)):=zlN _;rw[←e];refine SS.aZ (SE.name ⟨rfl,rfl⟩ rfl) zaB zbw n1 n2 (zga.trans (by show some (AV.int (S.outs rs).pass)=_;rw[o2])) rfl (SE.call (SE.bltn T ⟨rfl,rfl⟩ rfl zjT zkt) .builtin (SG.some (SL.cons (SE.name ⟨rfl,rfl⟩ rfl) SL.nil)) ((SC.aU sz).eq (by rw[zaa]))) SI.addInt n1 n2 (show 4≤1000 by decide)
noncomputable def Srt.dec (S:Srt)(s:Str):Srt:=if ((S.at (S.find s)).2.1 - 1==0)=true then (S.mod s (· - 1)).wReady (S.ready.getD []++ [s]) else S.mod s (· - 1)
noncomputable def Srt.decs (S:Srt)(ss:List Str):Srt:=ss.foldl Srt.dec S
noncomputable def Srt.done1 (S:Srt)(n:Str):Srt:=((S.mod n fun _=> -2).decs (S.succ n)).wFin (S.fin+1)
noncomputable def Srt.dones (S:Srt)(ns:List Str):Srt:=ns.foldl Srt.done1 S
theorem zeV {S:Srt}{s:Str}(h:s∈S.names):(S.dec s).names=S.names:=by
 unfold Srt.dec
 split
 ·exact za0 (f:=(· - 1)) h
 ·exact za0 (f:=(· - 1)) h
theorem zje {S:Srt}{s:Str}(h:s∈S.names)(x:Str):(S.dec s).succ x=S.succ x:=by
 unfold Srt.dec
 split
 ·exact zdh (f:=(· - 1)) h x
 ·exact zdh (f:=(· - 1)) h x
theorem zm1 (S:Srt)(s:Str):(S.dec s).pass=S.pass∧(S.dec s).fin=S.fin:=by
 unfold Srt.dec
 split<;>exact⟨rfl,rfl⟩
theorem zhm {S:Srt}{s:Str}{rs:List Str}(h:S.ready=some rs):∃rs',(S.dec s).ready=some rs'∧rs'.length≤rs.length+1:=by
 unfold Srt.dec
 split
 ·exact⟨_,rfl,by rw[h];simp⟩
 ·exact⟨rs,h,by exact Nat.le_add_right _ _⟩
theorem zdM:∀{ss:List Str} {S:Srt},(∀s∈ss,s∈S.names)→(S.decs ss).names=S.names
 | [],_,_=>rfl
 | s::r,S,h=>by
  have e:=zeV (h s List.mem_cons_self);exact(zdM (ss:=r) (S:=S.dec s) fun x hx=>by rw[e];exact h x (List.mem_cons_of_mem _ hx)).trans e
theorem zhl:∀(ss:List Str) (S:Srt),(S.decs ss).pass=S.pass∧(S.decs ss).fin=S.fin:=by
 intro ss
 induction ss with
 | nil=>
  rintro _
  exact⟨rfl,rfl⟩
 | cons s r ih=>
  rintro S
  have a:=zm1 S s;have b:=ih (S.dec s);exact⟨b.1.trans a.1,b.2.trans a.2⟩
theorem zoN {S:Srt}{s:Str}{rs:List Str}(h:S.ready=some rs)(t:Slot):(S.dec s).ok t↔S.ok t:=by
 unfold Srt.dec
 split
 ·have:((S.mod s (· - 1)).wReady (S.ready.getD []++ [s])).ok t↔(S.mod s (· - 1)).ok t:=by
   cases t<;>first | exact Iff.rfl | (show(some _).isSome=true↔S.ready.isSome=true;rw[h];simp)
  exact this.trans (zbS t)
 ·exact zbS t
noncomputable abbrev dnSc:Scope:=zan (inS (topS 12) 7)
noncomputable abbrev dnB:List Stmt:=stB (nthS 2 (zaf (inS (topS 12) 7)))
noncomputable abbrev dnT:Expr:=stT (nthS 2 (zaf (inS (topS 12) 7)))
noncomputable abbrev dnB2:List Stmt:=stB (nthS 4 dnB)
noncomputable abbrev dnT2:Expr:=stT (nthS 4 dnB)
noncomputable def dC (i dd:Nat)(ns:List Str):List (Str×AV):= [(q "self",.obj i),(q "nodes",.tup (txts ns)),(q "n2i",.obj dd)]
noncomputable def dnτ (i dd:Nat)(ns:List Str)(n:Str)(o:Nat)(k:Int):List (Str×AV):= [(q "self",.obj i),(q "nodes",.tup (txts ns)),(q "n2i",.obj dd),(q "node",.str n),(q "nodeinfo",.obj o),(q "stat",.int k)]
noncomputable def dnυ (i dd:Nat)(ns:List Str)(n:Str)(o:Nat)(k:Int)(s:Str):List (Str×AV):= [(q "self",.obj i),(q "nodes",.tup (txts ns)),(q "n2i",.obj dd),(q "node",.str n),(q "nodeinfo",.obj o),(q "stat",.int k),(q "successor",.str s)]
noncomputable def dnω (i dd:Nat)(ns:List Str)(n:Str)(o:Nat)(k:Int)(s:Str)(j:Nat):List (Str×AV):= [(q "self",.obj i),(q "nodes",.tup (txts ns)),(q "n2i",.obj dd),(q "node",.str n),(q "nodeinfo",.obj o),(q "stat",.int k),(q "successor",.str s),(q "successor_info",.obj j)]
theorem zkF {ad:Slot→Nat}{ns ss:List Str}{n:Str}{i0 o:Nat}{cY:Int}{cN:Srt}{H0:List Cell}(T:TW w)(hi0:H0.length≤i0):∀(rest:List Str) (k:Nat) (H:List Cell) (S:Srt) (rs:List Str),ss.drop k=rest→H[i0]? =some (.iter (.obj (ad (.suc (S.find n)))) k)→S.succ n=ss→n∈S.names→SorAt H ad S→(∀s,S.ok s→ad s≠i0)→(∀s,S.ok s→cN.ok s) →
  Apart cN ad H0 H→(∀t∈rest,t∈S.names)→S.ready=some rs→rs.length+rest.length≤3000→∃H',(∀Φ:Fm,Φ.calm=true→SFor pW w (KK w) Φ d dnSc dnT2 i0 dnB2 [] (dnτ (ad .inst) (ad .dict) ns n o cY) H .next (dnτ (ad .inst) (ad .dict) ns n o cY) H')∧SorAt H' ad (S.decs rest)∧Apart cN ad H0 H'∧(∀s,(S.decs rest).ok s↔S.ok s):=by
 intro rest
 induction rest with
 | nil=>
  rintro k H S rs hk hit hss hn A hne hok Ap hin hr hz
  obtain⟨mn,hmn,_⟩:=zbh hn
  have es:mn.2.2=ss:=by rw[←hss];unfold Srt.succ;rw[zdu hmn]
  obtain⟨_,_,i3⟩:=A.info hmn;rw[es] at i3;have hnone:(txts ss)[k]? =none:=List.getElem?_eq_none (by rw[zaa];exact List.drop_eq_nil_iff.mp hk);exact⟨H.set i0 .junk,fun Φ hc=>SFor.out (SN.a5 hc hit (.obj i3) hnone) SSs.nil,A.setOther hne,Ap.setNew hi0,fun _=>Iff.rfl⟩
 | cons t rest ih=>
  rintro k H S rs hk hit hss hn A hne hok Ap hin hr hz
  obtain⟨mn,hmn,_⟩:=zbh hn
  have es:mn.2.2=ss:=by rw[←hss];unfold Srt.succ;rw[zdu hmn]
  obtain⟨_,_,j3⟩:=A.info hmn;rw[es] at j3
  have hp:ss[k]? =some t:=by have:=congrArg (·[0]?) hk;simpa using this
  have hk':ss.drop (k+1)=rest:=by have:=congrArg (List.drop 1) hk;rw[List.drop_drop] at this;simpa using this
  have hv:(txts ss)[k]? =some (.str t):=by rw[zbf,hp];rfl
  have hi:=zag hit;have A1:SorAt (H.set i0 (.iter (.obj (ad (.suc (S.find n)))) (k+1))) ad S:=A.setOther hne;have hit1:(H.set i0 (.iter (.obj (ad (.suc (S.find n)))) (k+1)))[i0]? =some (.iter (.obj (ad (.suc (S.find n)))) (k+1)):=List.getElem?_set_self hi;have ht:=hin t List.mem_cons_self;simp only[List.length_cons] at hz;obtain⟨m,hm,hm1⟩:=zbh ht;subst hm1;have A2:=A1.mod hm (· - 1);have ok:S.ok (.info (S.find m.1)):=zcy hm
  have okR:S.ok .ready:=by show S.ready.isSome=true;rw[hr];rfl
  have hit2:=zc9 (c':=.info (ad (.ns (S.find m.1))) (some (.str m.1)) (some (.int (m.2.1 - 1))) (some (.obj (ad (.suc (S.find m.1)))))) (hne _ ok) hit1;have Ap2:=(Ap.setNew (c:=.iter (.obj (ad (.suc (S.find n)))) (k+1)) hi0).set (c:=.info (ad (.ns (S.find m.1))) (some (.str m.1)) (some (.int (m.2.1 - 1))) (some (.obj (ad (.suc (S.find m.1)))))) (hok _ ok);generalize eH2:(H.set i0 (.iter (.obj (ad (.suc (S.find n)))) (k+1))).set (ad (.info (S.find m.1))) (.info (ad (.ns (S.find m.1))) (some (.str m.1)) (some (.int (m.2.1 - 1))) (some (.obj (ad (.suc (S.find m.1))))))=H2 at A2 hit2 Ap2;have nms:(S.dec m.1).names=S.names:=zeV ht;have okk:=zoN (s:=m.1) hr;obtain⟨rs',hr',hrl⟩:=zhm (s:=m.1) hr;have fnd:(S.dec m.1).find n=S.find n:=zdJ nms n;obtain⟨g1,g2,g3⟩:=A1.dd;obtain⟨i1,i2,i3⟩:=A1.info hm;have hg:=zbd (ad:=ad) (j:=0) A.nd hm;rw[Nat.zero_add] at hg
  have hm2:(S.mod m.1 (· - 1)).nodes[S.find m.1]? =some (m.1,m.2.1 - 1,m.2.2):=by
   show(S.nodes.set _ _)[_]? =_;rw[List.getElem?_set_self (zcy hm),zdu hm]
  obtain⟨k1,k2,k3⟩:=A2.info hm2;obtain⟨l1,l2,l3⟩:=A2.dd;obtain⟨r1,r2⟩:=A2.rd (rs:=rs) hr
  have hat:(S.at (S.find m.1)).2.1=m.2.1:=by rw[zdu hm]
  -- the turn
  have turn:∃H3,SorAt H3 ad (S.dec m.1)∧Apart cN ad H0 H3∧H3[i0]? =some (.iter (.obj (ad (.suc (S.find n)))) (k+1))∧∀Φ:Fm,SSs pW w (KK w) Φ d dnSc dnB2 (dnυ (ad .inst) (ad .dict) ns n o cY m.1) (H.set i0 (.iter (.obj (ad (.suc (S.find n)))) (k+1))) .next (dnτ (ad .inst) (ad .dict) ns n o cY) H3:=by
   have first:∀(Φ:Fm) {c:Stmt} {H3:List Cell},(c=nthS 2 dnB2)→SS pW w (KK w) Φ d dnSc c (dnω (ad .inst) (ad .dict) ns n o cY m.1 (ad (.info (S.find m.1)))) H2 .next (dnω (ad .inst) (ad .dict) ns n o cY m.1 (ad (.info (S.find m.1)))) H3 →
     SSs pW w (KK w) Φ d dnSc dnB2 (dnυ (ad .inst) (ad .dict) ns n o cY m.1) (H.set i0 (.iter (.obj (ad (.suc (S.find n)))) (k+1))) .next (dnτ (ad .inst) (ad .dict) ns n o cY) H3:=fun Φ c H3 ec z=>by
    subst ec
    refine SSs.weaken (σ1:=dnω (ad .inst) (ad .dict) ns n o cY m.1 (ad (.info (S.find m.1)))) (SSs.cons (σ1:=dnω (ad .inst) (ad .dict) ns n o cY m.1 (ad (.info (S.find m.1)))) (SS.assign (fun _ _ _=>rfl) (SE.dictItem (SE.name ⟨rfl,rfl⟩ rfl) (SE.name ⟨rfl,rfl⟩ rfl) g3 hg) (SA.name (.inl rfl) (.there rfl (.there rfl (.there rfl (.there rfl (.there rfl (.there rfl (.there rfl .nil))))))))) (SSs.cons (cn:=H2) ?aug (SSs.cons z SSs.nil))) fun y v e=>zah (τ:= [(q "successor",AV.str m.1),(q "successor_info",.obj (ad (.info (S.find m.1))))]) e
    case aug=>
     rw[←eH2];exact SS.aX (SE.name ⟨rfl,rfl⟩ rfl) za7 zaq i1 i2 rfl rfl SE.int SI.subInt i1 i2 (by decide) Turned.at1
   have test:∀Φ:Fm,ST pW w (KK w) Φ d dnSc (stT (nthS 2 dnB2)) (dnω (ad .inst) (ad .dict) ns n o cY m.1 (ad (.info (S.find m.1)))) H2 (m.2.1 - 1==0) (dnω (ad .inst) (ad .dict) ns n o cY m.1 (ad (.info (S.find m.1)))) H2:=fun Φ=>
    ST.cmp (SE.slot (SE.name ⟨rfl,rfl⟩ rfl) za7 zaq k1 k2 rfl rfl) SE.int SCmp.bC
   by_cases hzero:(m.2.1 - 1==0)=true
   ·have ed:S.dec m.1=(S.mod m.1 (· - 1)).wReady (rs++ [m.1]):=by unfold Srt.dec;rw[hat,if_pos hzero,hr];rfl
    rw[ed];refine⟨_,A2.setReady (rs:=rs) hr (rs++ [m.1]),Ap2.set (hok _ okR),zc9 (hne _ okR) hit2,fun Φ=>first Φ rfl ?_⟩;refine SS.ifT ((test Φ).eq hzero) (SSs.cons ?_ SSs.nil);rw[zap];exact SS.expr (fun _ _ _=>rfl) (SE.meth (SE.attr (SE.name ⟨rfl,rfl⟩ rfl) zaB zao l1 l2 r2 rfl) (GM.listO r1 PySem.F.slot_list_append rfl) .builtin (SG.some (SL.cons (SE.name ⟨rfl,rfl⟩ rfl) SL.nil)) (SC.append r1 (by rw[zaa,sizeLine_eq];exact leK (adR1 ‹_›) rfl)))
   ·have ed:S.dec m.1=S.mod m.1 (· - 1):=by unfold Srt.dec;rw[hat,if_neg hzero]
    rw[ed];refine⟨H2,A2,Ap2,hit2,fun Φ=>first Φ rfl ?_⟩;exact SS.ifF ((test Φ).eq (Bool.eq_false_iff.mpr hzero)) SSs.nil
  obtain⟨H3,A3,Ap3,hit3,tn⟩:=turn;obtain⟨H',loop,A',Ap',okE⟩:=ih (k+1) H3 (S.dec m.1) rs' hk' (by rw[fnd];exact hit3) ((zje ht n).trans hss) (by rw[nms];exact hn) A3 (fun s hs=>hne s ((okk s).mp hs)) (fun s hs=>hok s ((okk s).mp hs)) Ap3 (fun x hx=>by rw[nms];exact hin x (List.mem_cons_of_mem _ hx)) hr' (by lia);exact⟨H',fun Φ hc=>SFor.turn (SN.aP hit (.obj j3) hv) hit1 .iter (SA.name (.inl rfl) (.there rfl (.there rfl (.there rfl (.there rfl (.there rfl (.there rfl .nil))))))) (tn Φ) (.inl rfl) (loop Φ hc),A',Ap',fun s=>(okE s).trans (okk s)⟩
noncomputable def zd3:Srt→List Str→Prop
 | _,[]=>True
 | S,n::r=>n∈S.names∧(S.at (S.find n)).2.1= -1∧(∀s∈S.succ n,s∈S.names)∧(∃rs,S.ready=some rs∧rs.length+(S.succ n).length≤3000)∧zd3 (S.done1 n) r
theorem zny {ad:Slot→Nat}{ns:List Str}{n:Str}{S:Srt}{rs:List Str}(T:TW w)(A:SorAt H ad S)(hn:n∈S.names)(hnp:(S.at (S.find n)).2.1= -1)(hin:∀s∈S.succ n,s∈S.names)(hr:S.ready=some rs)(hz:rs.length+(S.succ n).length≤3000):
  ∃H' σ',(∀Φ:Fm,Φ.calm=true→SSs pW w (KK w) Φ d dnSc dnB (dC (ad .inst) (ad .dict) ns++ [(q "node",.str n)]) H .next σ' H')∧SorAt H' ad (S.done1 n)∧Apart S ad H H'∧(∀s,(S.done1 n).ok s↔S.ok s)∧(∀y v,(dC (ad .inst) (ad .dict) ns).lookup y=some v→σ'.lookup y=some v):=by
 obtain⟨m,hm,hm1⟩:=zbh hn;subst hm1
 have hat:m.2.1= -1:=by rw[zdu hm] at hnp;exact hnp
 have ok:S.ok (.info (S.find m.1)):=zcy hm;obtain⟨g1,g2,g3⟩:=A.dd;obtain⟨i1,i2,i3⟩:=A.info hm;rw[hat] at i1;have hg:=zbd (ad:=ad) (j:=0) A.nd hm;rw[Nat.zero_add] at hg;have A2:=A.mod hm (fun _=> -2);have nms:=za0 (f:=fun _=> -2) hn;have hsu:=zdh (f:=fun _=> -2) hn;have fnd:(S.mod m.1 fun _=> -2).find m.1=S.find m.1:=zdJ nms m.1
 have hm2:(S.mod m.1 fun _=> -2).nodes[S.find m.1]? =some (m.1,-2,m.2.2):=by
  show(S.nodes.set _ _)[_]? =_;rw[List.getElem?_set_self (zcy hm),zdu hm]
 generalize eH2:H.set (ad (.info (S.find m.1))) (.info (ad (.ns (S.find m.1))) (some (.str m.1)) (some (.int (-2))) (some (.obj (ad (.suc (S.find m.1))))))=H2 at A2
 have Ap2:Apart S ad H H2:=by rw[←eH2];exact Apart.refl.set ok
 obtain⟨k1,k2,k3⟩:=A2.info hm2
 have es:S.succ m.1=m.2.2:=by unfold Srt.succ;rw[zdu hm]
 obtain⟨H3,loop,A3,Ap3,ok3⟩:=zkF (d:=d) (ad:=ad) (ns:=ns) (ss:=S.succ m.1) (n:=m.1) (i0:=H2.length) (o:=ad (.info (S.find m.1))) (cY:= -1) (cN:=S) (H0:=H) T Ap2.1 (S.succ m.1) 0 (H2++ [.iter (.obj (ad (.suc (S.find m.1)))) 0]) (S.mod m.1 fun _=> -2) rs rfl (by rw[fnd];simp) (hsu m.1) (by rw[nms];exact hn) (A2.more _) (fun s hs=>Nat.ne_of_lt (A2.lt hs)) (fun s hs=>(zbS s).mp hs) (Ap2.more _) (fun t ht=>by rw[nms];exact hin t ht) hr hz;have A4:=A3.setFin (S.fin+1);obtain⟨l1,l2,l3⟩:=A3.dd
 have okf:∀s,(S.done1 m.1).ok s↔S.ok s:=fun s=>by
  have:(S.done1 m.1).ok s↔((S.mod m.1 fun _=> -2).decs (S.succ m.1)).ok s:=by cases s<;>exact Iff.rfl
  exact this.trans ((ok3 s).trans (zbS s))
 have efin:((S.mod m.1 fun _=> -2).decs (S.succ m.1)).fin=S.fin:=(zhl _ _).2;refine⟨_,dnτ (ad .inst) (ad .dict) ns m.1 (ad (.info (S.find m.1))) (-1),fun Φ hc=> ?_,A4,Ap3.set (s:=.dd) trivial,okf,fun y v e=>zah (τ:= [(q "node",AV.str m.1),(q "nodeinfo",.obj (ad (.info (S.find m.1)))),(q "stat",.int (-1))]) e⟩;refine SSs.cons (σ1:= [(q "self",.obj (ad .inst)),(q "nodes",.tup (txts ns)),(q "n2i",.obj (ad .dict)),(q "node",.str m.1),(q "nodeinfo",.obj (ad (.info (S.find m.1))))]) (cn:=H) ?a (SSs.cons (σ1:=dnτ (ad .inst) (ad .dict) ns m.1 (ad (.info (S.find m.1))) (-1)) (cn:=H) ?b (SSs.cons (σ1:=dnτ (ad .inst) (ad .dict) ns m.1 (ad (.info (S.find m.1))) (-1)) (cn:=H) ?c (SSs.cons (σ1:=dnτ (ad .inst) (ad .dict) ns m.1 (ad (.info (S.find m.1))) (-1)) (cn:=H2) ?e (SSs.cons (σ1:=dnτ (ad .inst) (ad .dict) ns m.1 (ad (.info (S.find m.1))) (-1)) (cn:=H3) ?f (SSs.cons ?g SSs.nil)))))
 case a=>
  exact SS.ifF (ST.cmp (SE.bv (SE.meth (SE.name ⟨rfl,rfl⟩ rfl) (GM.dict g3 PySem.F.slot_dict_get rfl) .builtin (SG.some (SL.cons (SE.name ⟨rfl,rfl⟩ rfl) SL.nil)) ((SC.bD T g3).eq (by rw[hg];first | done | rfl))) (SA.name (.inl rfl) (.there rfl (.there rfl (.there rfl (.there rfl .nil)))))) SE.none (SCmp.ax rfl)) SSs.nil
 case b=>exact SS.assign (fun _ _ _=>rfl) (SE.slot (SE.name ⟨rfl,rfl⟩ rfl) za7 zaq i1 i2 rfl rfl) (SA.name (.inl rfl) (.there rfl (.there rfl (.there rfl (.there rfl (.there rfl .nil))))))
 case c=>exact SS.ifF (ST.cmp (SE.name ⟨rfl,rfl⟩ rfl) (SE.a7 T ⟨rfl,rfl⟩ rfl zfz (v:=.int (-1)) fun _ _=>.int) SCmp.cf) SSs.nil
 case e=>
  rw[←eH2];exact SS.assign (fun _ _ _=>rfl) (SE.a7 T ⟨rfl,rfl⟩ rfl zii (v:=.int (-2)) fun _ _=>.int) (SA.slot (SE.name ⟨rfl,rfl⟩ rfl) za7 zaq i1 i2 (by decide) Turned.at1)
 case f=>exact SS.for (SE.slot (SE.name ⟨rfl,rfl⟩ rfl) za7 zbu k1 k2 rfl rfl) (SIt.list (.obj k3)) (loop Φ hc)
 case g=>
  have e:dset (zaM ad ((S.mod m.1 fun _=> -2).decs (S.succ m.1))) (q "_nfinished") (.int (S.fin+1))=zaM ad (((S.mod m.1 fun _=> -2).decs (S.succ m.1)).wFin (S.fin+1)):=zmW _;rw[←e];exact SS.aZ (SE.name ⟨rfl,rfl⟩ rfl) zaB zbK l1 l2 (zic.trans (by rw[efin])) rfl SE.int SI.addInt l1 l2 (show 4≤1000 by decide)
theorem zjq {ad:Slot→Nat}{ns:List Str}{i0:Nat}{cN:Srt}{H0:List Cell}(T:TW w)(hi0:H0.length≤i0):∀(rest:List Str) (k:Nat) (H:List Cell) (S:Srt),ns.drop k=rest→H[i0]? =some (.titer (txts ns) k)→SorAt H ad S→(∀s,S.ok s→ad s≠i0)→(∀s,S.ok s→cN.ok s) →
  Apart cN ad H0 H→zd3 S rest→∃H',(∀Φ:Fm,Φ.calm=true→SFor pW w (KK w) Φ d dnSc dnT i0 dnB [] (dC (ad .inst) (ad .dict) ns) H .next (dC (ad .inst) (ad .dict) ns) H')∧SorAt H' ad (S.dones rest)∧Apart cN ad H0 H':=by
 intro rest
 induction rest with
 | nil=>
  rintro k H S hk hit A hne hok Ap hD
  have hnone:(txts ns)[k]? =none:=List.getElem?_eq_none (by rw[zaa];exact List.drop_eq_nil_iff.mp hk);exact⟨H.set i0 .junk,fun Φ hc=>SFor.out (SN.aI hc hit hnone) SSs.nil,A.setOther hne,Ap.setNew hi0⟩
 | cons t rest ih=>
  rintro k H S hk hit A hne hok Ap hD
  have hp:ns[k]? =some t:=by have:=congrArg (·[0]?) hk;simpa using this
  have hk':ns.drop (k+1)=rest:=by have:=congrArg (List.drop 1) hk;rw[List.drop_drop] at this;simpa using this
  have hv:(txts ns)[k]? =some (.str t):=by rw[zbf,hp];rfl
  have hi:=zag hit;have A1:SorAt (H.set i0 (.titer (txts ns) (k+1))) ad S:=A.setOther hne;have hit1:(H.set i0 (.titer (txts ns) (k+1)))[i0]? =some (.titer (txts ns) (k+1)):=List.getElem?_set_self hi;obtain⟨h1,h2,h3,⟨rs,hr,hz⟩,h5⟩:=hD;obtain⟨H2,σ2,body,A2,Ap2,ok2,keep⟩:=zny (d:=d) (ns:=ns) T A1 h1 h2 h3 hr hz
  have hit2:H2[i0]? =some (.titer (txts ns) (k+1)):=by rw[Ap2.2 i0 (by rw[List.length_set];exact hi) hne];exact hit1
  obtain⟨H',loop,A',Ap'⟩:=ih (k+1) H2 (S.done1 t) hk' hit2 A2 (fun s hs=>hne s ((ok2 s).mp hs)) (fun s hs=>hok s ((ok2 s).mp hs)) ((Ap.setNew hi0).trans (fun s hs=>.inl ⟨hok s hs,rfl⟩) Ap2) h5;exact⟨H',fun Φ hc=>SFor.turn (SN.ao hit hv) hit1 .titer (SA.name (.inl rfl) (.there rfl (.there rfl (.there rfl .nil)))) (SSs.weaken (body Φ hc) keep) (.inl rfl) (loop Φ hc),A',Ap'⟩
theorem znt {ad:Slot→Nat}{ns:List Str}{S:Srt}{rs:List Str}(T:TW w)(A:SorAt H ad S)(hr:S.ready=some rs)(hD:zd3 S ns)(hz:ns.length≤1000):
  ∃H',(∀Φ:Fm,Φ.calm=true→SCc pW w (KK w) Φ (d+1) (.ref 154) (.obj (ad .inst)::txts ns) H .none H')∧SorAt H' ad (S.dones ns)∧Apart S ad H H':=by
 obtain⟨g1,g2,g3⟩:=A.dd;obtain⟨r1,r2⟩:=A.rd hr;obtain⟨H1,loop,A1,Ap1⟩:=zjq (d:=d) (ad:=ad) (ns:=ns) (i0:=H.length) (cN:=S) (H0:=H) T (Nat.le_refl _) ns 0 (H++ [.titer (txts ns) 0]) S rfl (by exact zbN) (A.more _) (fun s hs=>Nat.ne_of_lt (A.lt hs)) (fun s hs=>hs) (Apart.refl.more _) hD;refine⟨H1,fun Φ hc=> ?_,A1,Ap1⟩
 refine SCc.star (σ':=dC (ad .inst) (ad .dict) ns) (f:=.next) (ns:= [q "self"]) (va:=q "nodes") (xs:= [.obj (ad .inst)]) (ys:=txts ns) T zhf (by decide+kernel) (fun vs ws h=> ?bind) (by decide+kernel) (fun x hx=> ?loc) rfl (by rw[zaa,sizeLine_eq];exact leK ‹_› rfl) fun L=> ?body
 case bind=>
  refine znR h fun a=> ?_
  cases ws<;>rfl
 case loc=>simp at hx;rcases hx with rfl | rfl<;>rfl
 case body=>
  refine SSs.cons (SS.ifF (ST.cmp (SE.attr (SE.name ⟨rfl,rfl⟩ rfl) zaB zao g1 g2 r2 rfl) SE.none (SCmp.ax rfl)) SSs.nil) ?_;refine SSs.cons (σ1:=dC (ad .inst) (ad .dict) ns) (SS.assign (fun _ _ _=>rfl) (SE.attr (SE.name ⟨rfl,rfl⟩ rfl) zaB zaE g1 g2 zlw rfl) (SA.name (.inl rfl) (.there rfl (.there rfl .nil)))) ?_;exact SSs.cons (SS.for (SE.name ⟨rfl,rfl⟩ rfl) SIt.tuple (loop _ hc)) SSs.nil
theorem zk8 {S S':Srt}(h1:S'.names=S.names)(h2:S'.ready.isSome=S.ready.isSome)(s:Slot):S'.ok s↔S.ok s:=by
 have hl:S'.nodes.length=S.nodes.length:=by have:=congrArg List.length h1;unfold Srt.names at this;rwa [List.length_map,List.length_map] at this
 cases s with
 | ready=>show S'.ready.isSome=true↔S.ready.isSome=true;rw[h2]
 | info k=>show k < _↔k < _;rw[hl]
 | ns k=>show k < _↔k < _;rw[hl]
 | suc k=>show k < _↔k < _;rw[hl]
 | _=>exact Iff.rfl
theorem zdl {S:Srt}{rs:List Str}(h:∀t∈rs,t∈S.names):(S.got rs).names=S.names:=zft h
theorem zeJ (S:Srt)(rs:List Str):(S.got rs).ready=some []:=rfl
theorem zke:∀(ss:List Str) {S:Srt} {rs:List Str},S.ready=some rs→∃rs',(S.decs ss).ready=some rs':=by
 intro ss
 induction ss with
 | nil=>
  rintro _ rs h
  exact⟨rs,h⟩
 | cons s r ih=>
  rintro S rs h
  obtain⟨rs',h',_⟩:=zhm (s:=s) h;exact ih (S:=S.dec s) h'
theorem zdL:∀{ns:List Str} {S:Srt},zd3 S ns→(S.dones ns).names=S.names∧(S.ready.isSome=true→(S.dones ns).ready.isSome=true)
 | [],_,_=>⟨rfl,fun h=>h⟩
 | n::r,S,⟨h1,h2,h3,⟨rs,hr,h4⟩,h5⟩=>by
  have e1:(S.mod n fun _=> -2).names=S.names:=za0 (f:=fun _=> -2) h1;have e2:(S.done1 n).names=S.names:=(zdM (ss:=S.succ n) (S:=S.mod n fun _=> -2) fun s hs=>by rw[e1];exact h3 s hs).trans e1;obtain⟨rs',hr'⟩:=zke (S.succ n) (S:=S.mod n fun _=> -2) (rs:=rs) hr;have e3:(S.done1 n).ready=some rs':=hr';obtain⟨a,b⟩:=zdL h5;exact⟨a.trans e2,fun _=>b (by rw[e3];rfl)⟩
inductive Told:Srt→List (List Str)→Prop
 | stop {S rs} :S.ready=some rs→rs.length≤60→S.active=false→Told S []
 | step {S rs rest} :S.ready=some rs→rs.length≤60→S.active=true→(∀t∈rs,t∈S.names)→(S.got rs).active=true→zd3 ((S.got rs).got []) rs→Told (((S.got rs).got []).dones rs) rest→Told S (srt rs::rest)
noncomputable def zbU (R:List (List Str)):List AV:=R.map fun x=>.lst (txts x)
theorem zk4 (R:List (List Str)):(zbU R).length=R.length:=List.length_map ..
theorem zjI (R:List (List Str))(x:List Str):zbU R++ [.lst (txts x)]=zbU (R++ [x]):=by unfold zbU;simp
noncomputable abbrev tdSc:Scope:=zan (topS 35)
noncomputable abbrev tdT:Expr:=stT (nthS 1 (zaf (topS 35)))
noncomputable abbrev tdB:List Stmt:=stB (nthS 1 (zaf (topS 35)))
noncomputable def dg (i r:Nat)(c:Bool):List (Str×AV):= [(q "sorter",.obj i),(q "rounds",.obj r),(q "ring",.bool c)]
noncomputable def nmO (env:Env)(line:Nat):List Expr→List Str:=List.filterMap fun
 | .Name id pos=>if env.kindOf id==some .local&&pos.line==line then some id else none
 | _=>none
theorem zdf {env:Env}{line:Nat}{a:Str}{p:Pos}{ts:List Expr}{ns:List Str}(h:env.kindOf a=some .local)(hl:p.line=line)(hn:nmO env line ts=ns):nmO env line (.Name a p::ts)=a::ns:=by
 subst hn hl;unfold nmO;refine List.filterMap_cons_some ?_;show(if (env.kindOf a==some NameKind.local&&p.line==p.line)=true then some a else none)=some a;exact if_pos (by rw[h,beq_self_eq_true p.line];rfl)
theorem zom {ts vs:List Expr}{names:List Str}{p3 p4:Pos}{k k':Nat}(env:Env)(hl:(!(ts.length==2|| ts.length==3)|| vs.length !=ts.length)=false)(hb:env.blockKind= .function)(hst:(vs.any fun | .Starred .. =>true | _=>false)=false)(hn:nmO env ((ts.head?.map (·.pos.line)).getD 0) ts=names)(hd:(names.length !=ts.length|| names.eraseDups.length !=names.length)=false)(hf:vs.all (foldedForSure 8)=false)(hc:vs.all (constantsAlone 8)=false):swappedStores [.Tuple ts k p3] (.Tuple vs k' p4) env=pure (some names):=by
 subst hn
 have n:∀{b:Bool},b=false→ ¬ b=true:=fun h g=>Bool.false_ne_true (h.symm.trans g)
 exact(if_neg (n (by rw[hl,hb];rfl))).trans ((if_neg (n hst)).trans ((if_neg (n hd)).trans ((if_neg (n hf)).trans (if_neg (n hc)))))
theorem zon {a b:Str}{cz cG:Expr}{cL c8 p3 p4:Pos}{k k':Nat}(hd: [a,b].eraseDups.length=2)(hl:c8.line=cL.line)(hst:([cz,cG].any fun | .Starred .. =>true | _=>false)=false)(hf: [cz,cG].all (foldedForSure 8)=false)(hc: [cz,cG].all (constantsAlone 8)=false)(env:Env)(hb:env.blockKind= .function)(hk:∀n∈ [a,b],env.kindOf n=some .local):
  swappedStores [.Tuple [.Name a cL,.Name b c8] k p3] (.Tuple [cz,cG] k' p4) env=pure (some [a,b]):=
 zom env rfl hb hst (zdf (hk a List.mem_cons_self) rfl (zdf (hk b (List.mem_cons_of_mem _ List.mem_cons_self)) hl rfl)) (by rw[hd];rfl) hf hc
theorem zjn {i r:Nat}{c:Bool}{ad:Slot→Nat}{Sx:Srt}{adx:Slot→Nat}{Hx:List Cell}(T:TW w)(hr0:Hx.length≤r){S:Srt}{R:List (List Str)}(R':Told S R)(hi:i=ad .inst):∀(H:List Cell) (acc:List (List Str)),SorAt H ad S→H[r]? =some (.lst (zbU acc))→(∀s,S.ok s→ad s≠r)→Wider Sx S adx ad Hx.length→Apart Sx adx Hx H→acc.length+R.length≤1000 →
  ∃H',(∀Φ:Fm,Φ.calm=true→SWh pW w (KK w) Φ (d+2) tdSc tdT tdB [] (dg i r c) H .next (dg i r c) H')∧H'[r]? =some (.lst (zbU (acc++R)))∧Apart Sx adx Hx H':=by
 subst hi
 have test:∀{H:List Cell} {S:Srt} {rs:List Str} (Φ:Fm),SorAt H ad S→S.ready=some rs→rs.length≤60→ST pW w (KK w) Φ (d+2) tdSc tdT (dg (ad .inst) r c) H S.active (dg (ad .inst) r c) H:=fun {H S rs} Φ A hr hz=>by
  obtain⟨g1,g2,_⟩:=A.dd;exact ST.val (SE.meth (SE.name ⟨rfl,rfl⟩ rfl) (GM.inst zaB zcX zcQ g1 g2 rfl) zbY SG.nil (zgo (d:=d+1) T A hr (by exact leK ‹_› rfl)).sem) STr.bool
 induction R' with
 | @stop S rs hr hz ha=>
  intro H acc A hl hne W Ap hlen;refine⟨H,fun Φ hc=>SWh.out ((test Φ A hr hz).eq ha) SSs.nil,by rw[List.append_nil];exact hl,Ap⟩
 | @step S rs rest hr hz ha hin ha1 hD R' ih=>
  intro H acc A hl hne W Ap hlen;simp only[List.length_cons] at hlen;obtain⟨H1,call1,A1,Ap1⟩:=zdN (d:=d+1) T A hr (by exact leK ‹_› rfl) hin;have n1:=zdl hin;have r1:=zeJ S rs;have ok1:=zk8 (S':=S.got rs) n1 (by rw[r1,hr];rfl);obtain⟨H2,call2,A2,Ap2⟩:=zdN (d:=d+1) T A1 r1 (Nat.zero_le _) (fun t ht=>by exact mnE ht);have n2:=(zdl (S:=S.got rs) (rs:= []) fun t ht=>by exact mnE ht).trans n1;have r2:=zeJ (S.got rs) [];have ok2:=zk8 (S':=(S.got rs).got []) n2 (by rw[r2,hr];rfl)
  have l1:H1[r]? =some (.lst (zbU acc)):=by rw[Ap1.2 r (zag hl) hne];exact hl
  have l2:H2[r]? =some (.lst (zbU acc)):=by rw[Ap2.2 r (zag l1) fun s hs=>hne s ((ok1 s).mp hs)];exact l1
  have hne2:∀s,((S.got rs).got []).ok s→ad s≠r:=fun s hs=>hne s ((ok2 s).mp hs)
  have W1:Wider Sx (S.got rs) adx ad Hx.length:=fun s hs=>W s ((ok1 s).mp hs)
  have W2:Wider Sx ((S.got rs).got []) adx ad Hx.length:=fun s hs=>W s ((ok2 s).mp hs)
  have A3:=A2.setOther (c:=.lst (zbU (acc++ [srt rs]))) hne2;have l3:(H2.set r (.lst (zbU (acc++ [srt rs]))))[r]? =some (.lst (zbU (acc++ [srt rs]))):=List.getElem?_set_self (zag l2);have Ap3:Apart Sx adx Hx (H2.set r (.lst (zbU (acc++ [srt rs])))):=(((Ap.trans W Ap1).trans W1 Ap2)).setNew hr0;obtain⟨H4,call4,A4,Ap4⟩:=znt (d:=d+1) T A3 r2 hD (by exact leK ‹_› rfl);obtain⟨n4',r4'⟩:=zdL hD;have n4:=n4'.trans n2
  have r4:(((S.got rs).got []).dones rs).ready.isSome=S.ready.isSome:=by rw[r4' (by rw[r2];rfl),hr];rfl
  have ok4:=zk8 (S':=((S.got rs).got []).dones rs) n4 r4
  have l4:H4[r]? =some (.lst (zbU (acc++ [srt rs]))):=by rw[Ap4.2 r (zag l3) hne2];exact l3
  obtain⟨H',loop,l',Ap'⟩:=ih H4 (acc++ [srt rs]) A4 l4 (fun s hs=>hne s ((ok4 s).mp hs)) (fun s hs=>W s ((ok4 s).mp hs)) (Ap3.trans W2 Ap4) (by rw[List.length_append,List.length_singleton];exact rot1 ‹_›);refine⟨H',fun Φ hc=>SWh.turn ((test Φ A hr hz).eq ha) (SSs.weaken (σ1:=dg (ad .inst) r c++ [(q "ready",.tup (txts rs))]) (SSs.cons (σ1:=dg (ad .inst) r c++ [(q "ready",.tup (txts rs))]) (cn:=H1) ?a (SSs.cons (σ1:=dg (ad .inst) r c++ [(q "ready",.tup (txts rs))]) (cn:=H2) ?b (SSs.cons (σ1:=dg (ad .inst) r c++ [(q "ready",.tup (txts rs))]) (cn:=H2.set r (.lst (zbU (acc++ [srt rs])))) ?e (SSs.cons ?f SSs.nil)))) fun y v e=>zah e) (.inl rfl) (loop Φ hc),by rw[List.append_assoc] at l';exact l',Ap'⟩
  case a=>
   obtain⟨g1,g2,_⟩:=A.dd;exact SS.assign (fun _ _ _=>rfl) (SE.meth (SE.name ⟨rfl,rfl⟩ rfl) (GM.inst zaB zcY zcR g1 g2 rfl) zbZ SG.nil (call1 Φ hc).sem) (SA.name (.inl rfl) (.there rfl (.there rfl (.there rfl .nil))))
  case b=>
   obtain⟨g1,g2,_⟩:=A1.dd;refine SS.ifF (ST.bool (SAll.orGo ((ST.not (ST.val (SE.meth (SE.name ⟨rfl,rfl⟩ rfl) (GM.inst zaB zcX zcQ g1 g2 rfl) zbY SG.nil (zgo (d:=d+1) T A1 r1 (Nat.zero_le _)).sem) STr.bool)).eq (by rw[ha1];rfl)) (SAll.orGo (ST.cmp (SE.meth (SE.name ⟨rfl,rfl⟩ rfl) (GM.inst zaB zcY zcR g1 g2 rfl) zbZ SG.nil (call2 Φ hc).sem) (SE.tuple SL.nil (small rfl)) (SCmp.bA (n:=1) .nil)) SAll.aV))) SSs.nil
  case e=>
   rw[←zjI];exact SS.expr (fun _ _ _=>rfl) (SE.meth (SE.name ⟨rfl,rfl⟩ rfl) (GM.listO l2 PySem.F.slot_list_append rfl) .builtin (SG.some (SL.cons (SE.call (SE.bltn T ⟨rfl,rfl⟩ rfl zed zek) .builtin (SG.some (SL.cons (SE.name ⟨rfl,rfl⟩ rfl) SL.nil)) (SC.sorted .tup (by exact slK ‹_› rfl))) SL.nil)) (SC.append l2 (by rw[zk4,sizeLine_eq];exact leK (adR1 ‹_›) rfl)))
  case f=>
   obtain⟨g1,g2,_⟩:=A3.dd;obtain⟨of,hof,hda⟩:=(zhf (P:=w.params)).at_;exact SS.expr (fun _ _ _=>rfl) (SE.au zaB znk zng zmM zjt (by decide+kernel) (SE.name ⟨rfl,rfl⟩ rfl) g1 g2 rfl ⟨of,_,hof,hda⟩ (SG.star (SE.name ⟨rfl,rfl⟩ rfl) .tup (by rw[zaa,sizeLine_eq];exact leK ‹_› rfl)) (call4 Φ hc))
theorem zoP {ad:Slot→Nat}{S:Srt}{B:Nat}{o:Option (List Str)}{R:List (List Str)}(T:TW w)(A:SorAt H ad S)(hr:S.ready=none)(hz:S.sm B)(hB:B≤1000)(O:Out S.names S.succ S.names [] o)(R':Told S.prep R)(hR:R.length≤900):
  ∃H' r,(∀Φ:Fm,Φ.calm=true→SCc pW w (KK w) Φ (d+4) (.ref 321) [.obj (ad .inst)] H (.tup [.obj r,.bool o.isSome]) H')∧H'[r]? =some (.lst (zbU R))∧Apart S ad H H':=by
 obtain⟨A1,Ap1,W1⟩:=zfV A hr;have Ap2:=Ap1.more [Cell.lst []];obtain⟨H',loop,l',Ap'⟩:=zjn (d:=d+1) (i:=ad .inst) (r:=(zbb H ad S).length) (c:=o.isSome) (ad:=adR ad (H.length+1)) (Sx:=S) (adx:=ad) (Hx:=H) T Ap1.1 R' rfl (zbb H ad S++ [Cell.lst []]) [] (A1.more _) (by simp[zbU]) (fun s hs=>Nat.ne_of_lt (A1.lt hs)) W1 Ap2 (by simpa using (by exact leK ‹_› rfl:R.length≤1000));refine⟨H',(zbb H ad S).length,fun Φ hc=> ?_,by simpa using l',Ap'⟩
 refine SCc.plain (f:=.ret (.tup [.obj (zbb H ad S).length,.bool o.isSome])) (ns:= [q "sorter"]) (σ':=dg (ad .inst) (zbb H ad S).length o.isSome) T zj8 (len1 fun _=>rfl) (by exact List.nodup_cons.mpr ⟨List.not_mem_nil,List.nodup_nil⟩) (fun x hx=>by simp at hx;subst hx;exact .inl rfl) rfl fun L=> ?_
 refine SSs.cons (σ1:=dg (ad .inst) (zbb H ad S).length o.isSome) (cn:=zbb H ad S++ [Cell.lst []]) ?a (SSs.cons (SS.aj (loop (Φ.deeper L) hc)) (SSs.stop (SS.ret (SE.tuple (SL.cons (SE.name ⟨rfl,rfl⟩ rfl) (SL.cons (SE.name ⟨rfl,rfl⟩ rfl) SL.nil)) (small rfl)))))
 case a=>
  refine SS.swap (Φ:=Φ.deeper L) (xs:= [.bool o.isSome,.obj (zbb H ad S).length]) (names:= [q "ring",q "rounds"]) hc ?hw (SE.tuple (SL.cons (SE.call (SE.glob T ⟨rfl,rfl⟩ rfl zcK) zcM (SG.some (SL.cons (SE.name ⟨rfl,rfl⟩ rfl) SL.nil)) (zfF (d:=d) (Φ:=Φ.deeper L) T hc A hr hz hB O).sem) (SL.cons (SE.listO SL.nil (small rfl)) SL.nil)) (small rfl)) rfl ?U
  case hw=>exact zon (by decide) rfl rfl (by decide+kernel) (by decide+kernel)
  case U=>exact .cons rfl (.there rfl .nil) (.cons rfl (.there rfl (.there rfl .nil)) .nil)
inductive Dealt:Srt→List Str→List Str→Prop
 | stop {S wt rs} :S.ready=some rs→rs.length≤60→S.active=false→Dealt S wt []
 | step {S wt rs n wt' rest} :S.ready=some rs→(wt++rs).length≤60→S.active=true→(∀t∈rs,t∈S.names)→srt (wt++rs)=n::wt'→zd3 (S.got rs) [n]→Dealt ((S.got rs).dones [n]) wt' rest→Dealt S wt (n::rest)
noncomputable abbrev dlSc:Scope:=zan (topS 36)
noncomputable abbrev dlT:Expr:=stT (nthS 1 (zaf (topS 36)))
noncomputable abbrev dlB:List Stmt:=stB (nthS 1 (zaf (topS 36)))
noncomputable def dh (i r:Nat)(c:Bool)(wt:List Str):List (Str×AV):= [(q "sorter",.obj i),(q "told",.obj r),(q "waiting",.lst (txts wt)),(q "ring",.bool c)]
theorem zo7 {a b c:Str}{cz cG dA:Expr}{cL c8 p5 p3 p4:Pos}{k k':Nat}(hd: [a,b,c].eraseDups.length=3)(hl:c8.line=cL.line)(hl':p5.line=cL.line)(hst:([cz,cG,dA].any fun | .Starred .. =>true | _=>false)=false)(hf: [cz,cG,dA].all (foldedForSure 8)=false)(hc: [cz,cG,dA].all (constantsAlone 8)=false)(env:Env)(hb:env.blockKind= .function)(hk:∀n∈ [a,b,c],env.kindOf n=some .local):
  swappedStores [.Tuple [.Name a cL,.Name b c8,.Name c p5] k p3] (.Tuple [cz,cG,dA] k' p4) env=pure (some [a,b,c]):=
 zom env rfl hb hst (zdf (hk a List.mem_cons_self) rfl (zdf (hk b (List.mem_cons_of_mem _ List.mem_cons_self)) hl (zdf (hk c (List.mem_cons_of_mem _ (List.mem_cons_of_mem _ List.mem_cons_self))) hl' rfl))) (by rw[hd];rfl) hf hc
theorem zm5 (x:AV)(xs:List AV):cut (some 1) none (x::xs)=xs:=zm7 (x::xs) 1
theorem zhE {i r:Nat}{c:Bool}{ad:Slot→Nat}{Sx:Srt}{adx:Slot→Nat}{Hx:List Cell}(T:TW w)(hr0:Hx.length≤r){S:Srt}{wt R:List Str}(R':Dealt S wt R)(hi:i=ad .inst):∀(H:List Cell) (acc:List Str),SorAt H ad S→H[r]? =some (.lst (txts acc))→(∀s,S.ok s→ad s≠r)→Wider Sx S adx ad Hx.length→Apart Sx adx Hx H→acc.length+R.length≤1000 →
  ∃H' wt',(∀Φ:Fm,Φ.calm=true→SWh pW w (KK w) Φ (d+2) dlSc dlT dlB [] (dh i r c wt) H .next (dh i r c wt') H')∧H'[r]? =some (.lst (txts (acc++R)))∧Apart Sx adx Hx H':=by
 subst hi
 have test:∀{H:List Cell} {S:Srt} {rs wt:List Str} (Φ:Fm),SorAt H ad S→S.ready=some rs→rs.length≤60→ST pW w (KK w) Φ (d+2) dlSc dlT (dh (ad .inst) r c wt) H S.active (dh (ad .inst) r c wt) H:=fun {H S rs wt} Φ A hr hz=>by
  obtain⟨g1,g2,_⟩:=A.dd;exact ST.val (SE.meth (SE.name ⟨rfl,rfl⟩ rfl) (GM.inst zaB zcX zcQ g1 g2 rfl) zbY SG.nil (zgo (d:=d+1) T A hr (by exact leK ‹_› rfl)).sem) STr.bool
 induction R' with
 | @stop S wt rs hr hz ha=>
  intro H acc A hl hne W Ap hlen;refine⟨H,wt,fun Φ hc=>SWh.out ((test Φ A hr hz).eq ha) SSs.nil,by rw[List.append_nil];exact hl,Ap⟩
 | @step S wt rs n wt' rest hr hz ha hin hs hD R' ih=>
  intro H acc A hl hne W Ap hlen;simp only[List.length_cons] at hlen
  have hz1:rs.length≤60:=by rw[List.length_append] at hz;exact adL1 ‹_›
  have hlw:(n::wt').length≤60:=by rw[←hs,(zaC _).length_eq];exact hz
  obtain⟨H1,call1,A1,Ap1⟩:=zdN (d:=d+1) T A hr (by exact leK ‹_› rfl) hin;have n1:=zdl hin;have r1:=zeJ S rs;have ok1:=zk8 (S':=S.got rs) n1 (by rw[r1,hr];rfl)
  have l1:H1[r]? =some (.lst (txts acc)):=by rw[Ap1.2 r (zag hl) hne];exact hl
  have hne1:∀s,(S.got rs).ok s→ad s≠r:=fun s hs=>hne s ((ok1 s).mp hs)
  have W1:Wider Sx (S.got rs) adx ad Hx.length:=fun s hs=>W s ((ok1 s).mp hs)
  obtain⟨H2,call2,A2,Ap2⟩:=znt (d:=d+1) T A1 r1 hD (by exact Nat.succ_pos _);obtain⟨n2',r2'⟩:=zdL hD;have n2:=n2'.trans n1;have ok2:=zk8 (S':=(S.got rs).dones [n]) n2 (by rw[r2' (by rw[r1];rfl),hr];rfl)
  have l2:H2[r]? =some (.lst (txts acc)):=by rw[Ap2.2 r (zag l1) hne1];exact l1
  have hne2:∀s,((S.got rs).dones [n]).ok s→ad s≠r:=fun s hs=>hne s ((ok2 s).mp hs)
  have A3:=A2.setOther (c:=.lst (txts (acc++ [n]))) hne2;have l3:(H2.set r (.lst (txts (acc++ [n]))))[r]? =some (.lst (txts (acc++ [n]))):=List.getElem?_set_self (zag l2);have Ap3:Apart Sx adx Hx (H2.set r (.lst (txts (acc++ [n])))):=(((Ap.trans W Ap1).trans W1 Ap2)).setNew hr0;obtain⟨H',wt'',loop,l',Ap'⟩:=ih _ (acc++ [n]) A3 l3 hne2 (fun s hs=>W s ((ok2 s).mp hs)) Ap3 (by rw[List.length_append,List.length_singleton];exact rot1 ‹_›)
  have szw:(txts (n::wt')).length≤sizeLine:=by rw[zaa,sizeLine_eq];exact leK ‹_› rfl
  have v0:(txts (n::wt'))[(0:Int).toNat]? =some (.str n):=rfl;refine⟨H',wt'',fun Φ hc=>SWh.turn ((test Φ A hr hz1).eq ha) (SSs.cons (σ1:=dh (ad .inst) r c (n::wt')) (cn:=H1) ?a (SSs.cons (σ1:=dh (ad .inst) r c (n::wt')) (cn:=H2) ?b (SSs.cons (σ1:=dh (ad .inst) r c (n::wt')) (cn:=H2.set r (.lst (txts (acc++ [n])))) ?e (SSs.cons (σ1:=dh (ad .inst) r c wt') ?f SSs.nil)))) (.inl rfl) (loop Φ hc),by rw[List.append_assoc] at l';exact l',Ap'⟩
  case a=>
   obtain⟨g1,g2,_⟩:=A.dd;rw[←hs];exact SS.assign (fun _ _ _=>rfl) (SE.call (SE.bltn T ⟨rfl,rfl⟩ rfl zed zek) .builtin (SG.some (SL.cons ((SE.bin (SE.name ⟨rfl,rfl⟩ rfl) (SE.call (SE.bltn T ⟨rfl,rfl⟩ rfl zoz zoV) .type (SG.some (SL.cons (SE.meth (SE.name ⟨rfl,rfl⟩ rfl) (GM.inst zaB zcY zcR g1 g2 rfl) zbZ SG.nil (call1 Φ hc).sem) SL.nil)) (SC.b7 .tup (by rw[zaa,sizeLine_eq];exact leK ‹_› rfl))) (SB.ai .lst .lst (by rw[←List.length_append,←zap,zaa,sizeLine_eq];exact leK ‹_› rfl))).eq (congrArg AV.lst (zap wt rs).symm)) SL.nil)) (SC.sorted (.lst .lst) (by exact slK ‹_› rfl))) (SA.name (.inl rfl) (.there rfl (.there rfl .here)))
  case b=>
   obtain⟨g1,g2,_⟩:=A1.dd;exact SS.expr (fun _ _ _=>rfl) (SE.meth (SE.name ⟨rfl,rfl⟩ rfl) (GM.inst zaB znk zng g1 g2 rfl) zl2 (SG.some (SL.cons (SE.item (SE.name ⟨rfl,rfl⟩ rfl) SE.int .lst (by decide) (by decide) v0) SL.nil)) (call2 Φ hc).sem)
  case e=>
   rw[zap];exact SS.expr (fun _ _ _=>rfl) (SE.meth (SE.name ⟨rfl,rfl⟩ rfl) (GM.listO l2 PySem.F.slot_list_append rfl) .builtin (SG.some (SL.cons (SE.item (SE.name ⟨rfl,rfl⟩ rfl) SE.int .lst (by decide) (by decide) v0) SL.nil)) (SC.append l2 (by rw[zaa,sizeLine_eq];exact leK (adR1 ‹_›) rfl)))
  case f=>
   exact SS.assign (fun _ _ _=>rfl) ((SE.af (SE.name ⟨rfl,rfl⟩ rfl) (SPart.some SE.int) SPart.none .lst szw).eq (congrArg AV.lst (zm5 (.str n) (txts wt')))) (SA.name (.inl rfl) (.there rfl (.there rfl .here)))
theorem zn7 {ad:Slot→Nat}{S:Srt}{B:Nat}{o:Option (List Str)}{R:List Str}(T:TW w)(A:SorAt H ad S)(hr:S.ready=none)(hz:S.sm B)(hB:B≤1000)(O:Out S.names S.succ S.names [] o)(R':Dealt S.prep [] R)(hR:R.length≤900):
  ∃H' r,(∀Φ:Fm,Φ.calm=true→SCc pW w (KK w) Φ (d+4) (.ref 328) [.obj (ad .inst)] H (.tup [.obj r,.bool o.isSome]) H')∧H'[r]? =some (.lst (txts R))∧Apart S ad H H':=by
 obtain⟨A1,Ap1,W1⟩:=zfV A hr;have Ap2:=Ap1.more [Cell.lst []];obtain⟨H',wt',loop,l',Ap'⟩:=zhE (d:=d+1) (i:=ad .inst) (r:=(zbb H ad S).length) (c:=o.isSome) (ad:=adR ad (H.length+1)) (Sx:=S) (adx:=ad) (Hx:=H) T Ap1.1 R' rfl (zbb H ad S++ [Cell.lst []]) [] (A1.more _) (by simp[txts]) (fun s hs=>Nat.ne_of_lt (A1.lt hs)) W1 Ap2 (by simpa using (by exact leK ‹_› rfl:R.length≤1000));refine⟨H',(zbb H ad S).length,fun Φ hc=> ?_,by simpa using l',Ap'⟩
 refine SCc.plain (f:=.ret (.tup [.obj (zbb H ad S).length,.bool o.isSome])) (ns:= [q "sorter"]) (σ':=dh (ad .inst) (zbb H ad S).length o.isSome wt') T zim (len1 fun _=>rfl) (by exact List.nodup_cons.mpr ⟨List.not_mem_nil,List.nodup_nil⟩) (fun x hx=>by simp at hx;subst hx;exact .inl rfl) rfl fun L=> ?_
 refine SSs.cons (σ1:=dh (ad .inst) (zbb H ad S).length o.isSome []) (cn:=zbb H ad S++ [Cell.lst []]) ?a (SSs.cons (SS.aj (loop (Φ.deeper L) hc)) (SSs.stop (SS.ret (SE.tuple (SL.cons (SE.name ⟨rfl,rfl⟩ rfl) (SL.cons (SE.name ⟨rfl,rfl⟩ rfl) SL.nil)) (small rfl)))))
 case a=>
  refine SS.swap (Φ:=Φ.deeper L) (xs:= [.bool o.isSome,.lst [],.obj (zbb H ad S).length]) (names:= [q "ring",q "waiting",q "told"]) hc ?hw (SE.tuple (SL.cons (SE.call (SE.glob T ⟨rfl,rfl⟩ rfl zcK) zcM (SG.some (SL.cons (SE.name ⟨rfl,rfl⟩ rfl) SL.nil)) (zfF (d:=d) (Φ:=Φ.deeper L) T hc A hr hz hB O).sem) (SL.cons (SE.list SL.nil (small rfl)) (SL.cons (SE.listO SL.nil (small rfl)) SL.nil))) (small rfl)) rfl ?U
  case hw=>exact zo7 (by decide) rfl rfl rfl (by decide+kernel) (by decide+kernel)
  case U=>exact .cons rfl (.there rfl .nil) (.cons rfl (.there rfl (.there rfl .nil)) (.cons rfl (.there rfl (.there rfl (.there rfl .nil))) .nil))
end
section
noncomputable def zdP:List Str:= [q "a",q "./a",q ".b",q "./.b",q "c",q "../s/c",q "d/e",q "./d//e",q "../t",q "../../../t"]
noncomputable def txt2 (a b:Str):Str:=Txt.join (q " ") [a,b]
noncomputable def zc0 (s:Str):Bool:=Txt.slice s none (some 1)==q "."
noncomputable def dotS (s:Str):Str:=(if zc0 s=true then q "." else Str.empty)++s
noncomputable def zgu (s:Str):Str:=if zc0 s=true then Txt.slice s (some 1) none else s
noncomputable def zc8:List (Str×Str):= [(q "./a",q "a"),(q "./.b",q ".b"),(q "./d//e",q "d/e")]
noncomputable def zeb (i:Str):Str:=((zc8.find? fun kv=>kv.1=i).map (·.2)).getD i
noncomputable def zaL:List Str:= [q "/s/a",q "/s/.b",q "/s/c",q "/s/d/e",q "/t"]
noncomputable def zaR (a:Nat):Str:=zaL.getD a (q "")
noncomputable def zla (s:Str):Bool:= !s.cps.toList.contains 10&& !s.cps.toList.contains 13&&(dotS s).cps.toList==zcq s.cps.toList&& !(dotS s).cps.toList.contains 13&&decide (zgu (dotS s)=s)&&decide (s.length≤40)&&decide ((dotS s).length≤40)
noncomputable def zni (a b:Str):Bool:=
 zla (txt2 a b)&& !([q "",q "."].any (· ==txt2 a b))&& !([q "",q ".."].any (· ==dotS (txt2 a b)))&&decide (Txt.split (txt2 a b) (q " ")= [a,b])&&(zc0 (txt2 a b)==zc0 a)&&decide (Txt.split (dotS (txt2 a b)) (q " ")= [dotS a,b])
theorem znK:(zdP.all fun a=>zdP.all fun b=>zni a b)=true:=by decide+kernel
theorem okMt:zla (q "")=true:=by decide+kernel
theorem zpb:zla (q ".")=true:=by decide+kernel
noncomputable def zos (a b:Nat):Bool:=zdP.any (· ==zaT a b)&& !Txt.startswith (zaT a b) (q "/")&& !Txt.startswith (dotS (zaT a b)) (q "/")&&decide ((zaT a b).length≤20)&&decide ((dotS (zaT a b)).length≤21) &&
 decide (zaZ (za1 (q "/s") (zaT a b))=zaR a)&&decide (zaZ (za1 (q "/s/") (zaT a b))=zaR a)&&decide (zaZ (q "q/../" ++zaT a b)=zeb (zaT a b)) &&
 decide (zaZ (za1 (q "/s") (dotS (zaT a b)))=if zc0 (zaT a b)=true then zdE (zaT a b) else zaR a)
theorem zor:((List.range 5).all fun a=>(List.range 2).all fun b=>zos a b)=true:=by decide+kernel
noncomputable def zeG:List (List Nat)→List Nat
 | []=> []
 | [r]=>r
 | r::s::rest=>r++ [13,10]++zeG (s::rest)
theorem zef:∀rows:List Str,(Str.join (q "\r\n") rows).cps.toList=zeG (rows.map fun s=>s.cps.toList)
 | []=>rfl
 | [r]=>rfl
 | r::s::rest=>by
  show(r++q "\r\n" ++Str.join (q "\r\n") (s::rest)).cps.toList=r.cps.toList++ [13,10]++zeG ((s::rest).map fun s=>s.cps.toList);rw[ze2,ze2,zef (s::rest)];rfl
theorem zeu:∀rows:List (List Nat),outD rows=zeG (rows.map zcq++ [[]])
 | []=>rfl
 | [r]=>rfl
 | r::s::rest=>by
  have:=zeu (s::rest);show zcq r++ [13,10]++outD (s::rest)=_;rw[this];rfl
open StrLaws in
theorem ziC {x:Str}{k:Nat} :At x (q "\r\n") x.length k↔(x.cps.toList.drop k).take 2= [13,10]:=by
 unfold At;rw[subAt_eq];have h2:(q "\r\n").length=2:=rfl;have h3:(q "\r\n").cps.toList= [13,10]:=rfl;rw[h2,h3]
 constructor
 ·rintro⟨_,h⟩;exact eq_of_beq h
 ·intro h
  refine⟨?_,by rw[h];rfl⟩;have:=congrArg List.length h;simp at this;show k+2≤x.cps.size
  lia
open StrLaws Builtin.Str in
theorem zhq {x:Str} :∀(rows:List (List Nat)) (a:Nat) (cuts:List Nat) (f:Nat),rows≠ []→(∀r∈rows,13∉r)→x.cps.toList.drop a=zeG rows→ChainG x (q "\r\n") x.length a cuts f→(∀k,f≤k→ ¬ At x (q "\r\n") x.length k) →
  (partsFrom x 2 a cuts).map (fun s=>s.cps.toList)=rows
 | [],_,_,_,h,_,_,_,_=>absurd rfl h
 | [r],a,cuts,f,_,h13,hd,hG,hn=>by
  have hr:=h13 r (by exact List.mem_cons_self)
  have no:∀k,a≤k→ ¬ At x (q "\r\n") x.length k:=fun k hk hA=>by
   have:=ziC.mp hA;rw[show k=a+(k - a) by lia,←List.drop_drop,hd] at this
   have h1:13∈(r.drop (k - a)).take 2:=by show 13∈((zeG [r]).drop (k - a)).take 2;rw[this];simp
   exact hr (List.mem_of_mem_drop (List.mem_of_mem_take h1))
  cases cuts with
  | nil=>
   show[(strSub x a x.length).cps.toList]= [r];rw[strSub_toList,hd]
   have:(zeG [r]).length≤x.length - a:=by rw[←hd,List.length_drop];exact Nat.le_refl _
   rw[List.take_of_length_le this];rfl
  | cons c cs=>exact absurd hG.2.1 (no c hG.1)
 | r::s::rest,a,cuts,f,_,h13,hd,hG,hn=>by
  have hr:=h13 r (by exact List.mem_cons_self)
  have hd':x.cps.toList.drop a=r++([13,10]++zeG (s::rest)):=by rw[hd];show r++ [13,10]++zeG (s::rest)=_;rw[List.append_assoc]
  have here:At x (q "\r\n") x.length (a+r.length):=by
   rw[ziC,←List.drop_drop,hd',List.drop_left];rfl
  have no:∀k,a≤k→k < a+r.length→ ¬ At x (q "\r\n") x.length k:=fun k h1 h2 hA=>by
   have:=ziC.mp hA;rw[show k=a+(k - a) by lia,←List.drop_drop,hd',List.drop_append_of_le_length (by lia)] at this
   have h0:(r.drop (k - a))≠ []:=fun z=>by have:=List.drop_eq_nil_iff.mp z;lia
   cases e:r.drop (k - a) with
   | nil=>exact h0 e
   | cons b t=>
    rw[e] at this;simp at this;have hb:b∈r:=List.mem_of_mem_drop (by rw[e];simp);exact hr (this.1▸hb)
  cases cuts with
  | nil=>
   have e:f=a:=hG;subst e;exact absurd here (hn _ (by exact Nat.le_add_right _ _))
  | cons c cs=>
   obtain⟨h1,h2,h3,h4⟩:=hG
   have hc:c=a+r.length:=by
    rcases Nat.lt_trichotomy c (a+r.length) with h | h | h
    ·exact absurd h2 (no c h1 h)
    ·exact h
    ·exact absurd here (h3 _ (by exact Nat.le_add_right _ _) h)
   subst hc
   have ih:=zhq (s::rest) (a+r.length+2) cs f (by exact List.cons_ne_nil _ _) (fun t ht=>h13 t (List.mem_cons_of_mem _ ht)) (by
    rw[show a+r.length+2=a+(r.length+2) by exact Nat.add_assoc _ _ _,←List.drop_drop,hd',←List.drop_drop,List.drop_left];rfl) h4 hn
   show(strSub x a (a+r.length)).cps.toList::_=_;rw[strSub_toList,hd',show a+r.length - a=r.length by lia,List.take_left];exact congrArg (r:: ·) ih
open StrLaws Builtin.Str in
theorem zjx {rows:List Str}(h2:2≤rows.length)(h13:∀r∈rows,13∉r.cps.toList):Txt.split (Txt.join (q "\r\n") rows) (q "\r\n")=rows:=by
 have e0:Txt.join (q "\r\n") rows=Str.join (q "\r\n") rows:=by show glued _ _=_;rw[glued_eq_join]
 rw[e0];generalize hx:Str.join (q "\r\n") rows=x
 have hL:x.cps.toList=zeG (rows.map fun s=>s.cps.toList):=by rw[←hx,zef]
 obtain⟨f,hG,hn⟩:=occ_tight x (q "\r\n") (by decide)
 have inj:∀{a b:List Str},a.map (fun s=>s.cps.toList)=b.map (fun s=>s.cps.toList)→a=b:=by
  intro a
  induction a with
  | nil=>intro b h;cases b with | nil=>rfl | cons _ _=>simp at h
  | cons u a ih=>
   intro b h
   cases b with
   | nil=>simp at h
   | cons v b=>simp only[List.map_cons,List.cons.injEq] at h;rw[zfM h.1,ih h.2]
 have key:=zhq (x:=x) (rows.map fun s=>s.cps.toList) 0 _ f (by cases rows with | nil=>simp at h2 | cons _ _=>simp) (fun r hr=>by obtain⟨s,hs,rfl⟩:=List.mem_map.mp hr;exact h13 s hs) (by rw[List.drop_zero,hL]) hG hn;have key':=inj key
 obtain⟨r,s,rest,rfl⟩:∃r s rest,rows=r::s::rest:=by match rows,h2 with | r::s::rest,_=>exact⟨r,s,rest,rfl⟩
 have hlen:2≤x.length:=by
  have:=congrArg List.length hL;simp only[List.map_cons] at this;show 2≤x.cps.size;rw[←Array.length_toList,this];show 2≤(r.cps.toList++ [13,10]++zeG (s.cps.toList::List.map (fun t:Str=>t.cps.toList) rest)).length;rw[List.length_append,List.length_append];have:([13,10]:List Nat).length=2:=rfl
  lia
 unfold Txt.split;rw[if_neg,if_neg]
 ·rw[partsBetween_eq];exact key'
 ·intro he
  rw[List.isEmpty_iff.mp he] at key';have:1=rest.length+2:=congrArg List.length key'
  lia
 ·rw[Bool.or_eq_true,decide_eq_true_eq,decide_eq_true_eq]
  rintro(h | h)
  ·have:(q "\r\n").length=2:=rfl
   exact noL ‹_› ‹_›
  ·have k1:Builtin.Str.strKind (q "\r\n")=1:=by decide+kernel
   rw[k1] at h;unfold Builtin.Str.strKind at h
   split at h
   ·exact absurd ‹_› (Nat.lt_irrefl _)
   ·split at h<;>lia
noncomputable def ixA (x:Int):Nat:=(x.fmod 5).toNat
noncomputable def ixB (x:Int):Nat:=((x.fdiv 5).fmod 2).toNat
noncomputable def ixC (x:Int):Nat:=((x.fdiv 10).fmod 5).toNat
noncomputable def ixD (x:Int):Nat:=((x.fdiv 50).fmod 2).toNat
theorem zf7 (x:Int):ixA x < 5∧ixB x < 2∧ixC x < 5∧ixD x < 2:=⟨zei x 5 (by decide),zei (x.fdiv 5) 2 (by decide),zei (x.fdiv 10) 5 (by decide),zei (x.fdiv 50) 2 (by decide)⟩
noncomputable def w1 (x:Int):Str:=zaT (ixA x) (ixB x)
noncomputable def w2 (x:Int):Str:=zaT (ixC x) (ixD x)
theorem zme (x:Int):zbM x= [w1 x,w2 x]:=rfl
noncomputable def zbJ (x:Int):Str:=txt2 (w1 x) (w2 x)
structure WayOk (a b:Nat):Prop where
 mem:zaT a b∈zdP
 st:Txt.startswith (zaT a b) (q "/")=false
 st':Txt.startswith (dotS (zaT a b)) (q "/")=false
 len:(zaT a b).length≤20
 len':(dotS (zaT a b)).length≤21
 n1:zaZ (za1 (q "/s") (zaT a b))=zaR a
 n2:zaZ (za1 (q "/s/") (zaT a b))=zaR a
 n3:zaZ (q "q/../" ++zaT a b)=zeb (zaT a b)
 n4:zaZ (za1 (q "/s") (dotS (zaT a b)))=if zc0 (zaT a b)=true then zdE (zaT a b) else zaR a
theorem zoe {a b:Nat}(ha:a < 5)(hb:b < 2):WayOk a b:=by
 have h:=List.all_eq_true.mp (List.all_eq_true.mp zor a (List.mem_range.mpr ha)) b (List.mem_range.mpr hb);unfold zos at h;simp only[Bool.and_eq_true,decide_eq_true_eq,Bool.not_eq_true'] at h;obtain⟨⟨⟨⟨⟨⟨⟨⟨h1,h2⟩,h3⟩,h4⟩,h5⟩,h6⟩,h7⟩,h8⟩,h9⟩:=h;obtain⟨y,hy,e⟩:=List.any_eq_true.mp h1;exact⟨(eq_of_beq e)▸hy,h2,h3,h4,h5,h6,h7,h8,h9⟩
structure RowOk (s:Str):Prop where
 n10:10∉s.cps.toList
 n13:13∉s.cps.toList
 dot:(dotS s).cps.toList=zcq s.cps.toList
 d13:13∉(dotS s).cps.toList
 un:zgu (dotS s)=s
 len:s.length≤40
 len':(dotS s).length≤40
theorem zms {s:Str}(h:zla s=true):RowOk s:=by
 unfold zla at h;simp only[Bool.and_eq_true,decide_eq_true_eq,Bool.not_eq_true'] at h;obtain⟨⟨⟨⟨⟨⟨h1,h2⟩,h3⟩,h4⟩,h5⟩,h6⟩,h7⟩:=h
 have nc:∀{l:List Nat} {n:Nat},l.contains n=false→n∉l:=fun {l n} h z=>by rw[List.contains_iff_mem.mpr z] at h;exact tfE h
 exact⟨nc h1,nc h2,eq_of_beq h3,nc h4,h5,h6,h7⟩
structure PairOk (a b:Str):Prop where
 row:RowOk (txt2 a b)
 ne:([q "",q "."].any (· ==txt2 a b))=false
 ne':([q "",q ".."].any (· ==dotS (txt2 a b)))=false
 sp:Txt.split (txt2 a b) (q " ")= [a,b]
 hd:zc0 (txt2 a b)=zc0 a
 sp':Txt.split (dotS (txt2 a b)) (q " ")= [dotS a,b]
theorem zop {a b:Str}(ha:a∈zdP)(hb:b∈zdP):PairOk a b:=by
 have h:=List.all_eq_true.mp (List.all_eq_true.mp znK a ha) b hb;unfold zni at h;simp only[Bool.and_eq_true,decide_eq_true_eq,Bool.not_eq_true',beq_iff_eq] at h;obtain⟨⟨⟨⟨⟨h1,h2⟩,h3⟩,h4⟩,h5⟩,h6⟩:=h;exact⟨zms h1,h2,h3,h4,h5,h6⟩
theorem way1 (x:Int):WayOk (ixA x) (ixB x):=zoe (zf7 x).1 (zf7 x).2.1
theorem way2 (x:Int):WayOk (ixC x) (ixD x):=zoe (zf7 x).2.2.1 (zf7 x).2.2.2
theorem zfW (x:Int):PairOk (w1 x) (w2 x):=zop (way1 x).mem (way2 x).mem
noncomputable def zak (N:List Int):List Str:=N.map zbJ
noncomputable def zai (N:List Int):List Str:=zeE (zak N)
noncomputable def zaA (N:List Int):List Str:=zaG (zak N) (zak N).length
theorem zcm (N:List Int):zai N=zaA N++ [q ""]:=rfl
theorem zob {ts:List Str}{P:Str→Prop}(h:∀t∈ts,P t)(h0:P (q ""))(h1:P (q ".")):∀n,n≤ts.length→∀s∈zaG ts n,P s:=by
 intro n
 induction n with
 | zero=>
  rintro _ s hs
  exact mnE hs
 | succ n ih=>
  rintro hn s hs
  rw[zbm] at hs;unfold zca at hs
  rcases List.mem_append.mp hs with hs | hs
  ·rcases List.mem_append.mp hs with hs | hs
   ·exact ih (by exact Nat.le_of_lt ‹_›) s hs
   ·rw[List.mem_singleton] at hs
    subst hs;rw[List.getD_eq_getElem?_getD,List.getElem?_eq_getElem (show n < ts.length by assumption)];exact h _ (List.getElem_mem _)
  ·unfold zeS at hs
   have h3:n % 3 < 3:=Nat.mod_lt _ (by decide)
   match n % 3,h3,hs with
   | 0,_,hs=>exact mnE hs
   | 1,_,hs=>simp at hs;subst hs;exact h0
   | 2,_,hs=>simp at hs;subst hs;exact h1
theorem zgg (N:List Int):∀s∈zaA N,RowOk s:=zob (fun t ht=>by obtain⟨x,_,rfl⟩:=List.mem_map.mp ht;exact(zfW x).row) (zms okMt) (zms zpb) _ (Nat.le_refl _)
theorem zcZ (N:List Int):∀s∈zai N,RowOk s:=fun s hs=>by
 rw[zcm] at hs
 rcases List.mem_append.mp hs with h | h
 ·exact zgg N s h
 ·rw[List.mem_singleton.mp h];exact zms okMt
theorem zfK {ts:List Str}{f:Str→Str}{p:Str→Bool}(h:∀t∈ts,p (f t)=true)(h0:p (f (q ""))=false)(h1:p (f (q "."))=false):∀n,n≤ts.length→((zaG ts n).map f).filter p=(ts.take n).map f:=by
 intro n
 induction n with
 | zero=>
  rintro _
  exact rfl
 | succ n ih9=>
  rintro hn
  have ih:=ih9 (by exact Nat.le_of_lt ‹_›)
  have hlt:n < ts.length:=by assumption
  have e1:ts.getD n (q "")=ts[n]:=by rw[List.getD_eq_getElem?_getD,List.getElem?_eq_getElem hlt];rfl
  have e2:((zeS n).map f).filter p= []:=by
   unfold zeS;have h3:n % 3 < 3:=Nat.mod_lt _ (by decide)
   match n % 3,h3 with
   | 0,_=>rfl
   | 1,_=>show([f (q "")].filter p)= [];rw[List.filter_cons,h0];rfl
   | 2,_=>show([f (q ".")].filter p)= [];rw[List.filter_cons,h1];rfl
  rw[zbm];unfold zca;rw[List.map_append,List.map_append,List.filter_append,List.filter_append,ih,e2,e1,List.append_nil,List.take_succ_eq_append_getElem hlt,List.map_append]
  congr 1
  show[f ts[n]].filter p= [f ts[n]];rw[List.filter_cons,h _ (List.getElem_mem _)];rfl
noncomputable def zcn (s:Str):Bool:= !([q "",q "."].any (· ==s))
noncomputable def zbW (s:Str):Bool:= !([q "",q ".."].any (· ==s))
theorem zkY (N:List Int):(zai N).filter zcn=zak N:=by
 have:=zfK (ts:=zak N) (f:=id) (p:=zcn) (fun t ht=>by obtain⟨x,_,rfl⟩:=List.mem_map.mp ht;show(!_)=true;rw[show id (zbJ x)=txt2 (w1 x) (w2 x) from rfl,(zfW x).ne];rfl) (by decide+kernel) (by decide+kernel) _ (Nat.le_refl _);rw[List.map_id,List.take_length,List.map_id] at this;rw[zcm,List.filter_append];rw[show zaA N=zaG (zak N) (zak N).length from rfl,this]
 have h0:([q ""].filter zcn)= []:=by decide+kernel
 rw[h0,List.append_nil]
theorem zhj (N:List Int):((zai N).map dotS).filter zbW=(zak N).map dotS:=by
 have:=zfK (ts:=zak N) (f:=dotS) (p:=zbW) (fun t ht=>by obtain⟨x,_,rfl⟩:=List.mem_map.mp ht;show(!_)=true;rw[show dotS (zbJ x)=dotS (txt2 (w1 x) (w2 x)) from rfl,(zfW x).ne'];rfl) (by decide+kernel) (by decide+kernel) _ (Nat.le_refl _);rw[List.take_length] at this;rw[zcm,List.map_append,List.filter_append];rw[show zaA N=zaG (zak N) (zak N).length from rfl,this]
 have h0:(([q ""].map dotS).filter zbW)= []:=by decide+kernel
 rw[h0,List.append_nil]
noncomputable def zba (N:List Int):Str:=Txt.join (q "\r\n") ((zai N).map dotS)
theorem zbP (N:List Int):(zaA N).length≤2 * N.length:=by have:=zf6 (zak N) (zak N).length;unfold zak at this;rw[List.length_map] at this;unfold zaA zak;rw[List.length_map];exact this
theorem zoZ (ts:List Str):∀n,n≤(zaG ts n).length:=by
 intro n
 induction n with
 | zero=>
  exact Nat.zero_le _
 | succ n ih=>
  rw[zbm];unfold zca;simp only[List.length_append,List.length_cons,List.length_nil];have:=ih;solve_by_elim (maxDepth:=5) [leK,slK,Nat.le_trans,Nat.lt_of_lt_of_le,Nat.lt_of_le_of_lt,Nat.le_of_lt,Nat.le_add_right,Nat.succ_le_succ,Nat.le_succ]
theorem zfr {N:List Int}(h:1≤N.length):Txt.split (zba N) (q "\r\n")=(zai N).map dotS:=by
 refine zjx ?_ fun r hr=> ?_
 ·rw[List.length_map,zcm,List.length_append]
  have:=zoZ (zak N) (zak N).length;unfold zak at this;rw[List.length_map] at this
  have:N.length≤(zaA N).length:=by unfold zaA zak;rw[List.length_map];exact this
  simp;exact Nat.lt_of_lt_of_le ‹_› ‹_›
 ·obtain⟨s,hs,rfl⟩:=List.mem_map.mp hr
  exact(zcZ N s hs).d13
theorem zmJ (N:List Int):((zai N).map dotS).map zgu=zai N:=by
 rw[List.map_map]
 conv=>rhs;rw[←List.map_id (zai N)]
 exact List.map_congr_left fun s hs=>(zcZ N s hs).un
noncomputable def nlOf (k:Nat):Str:=if k % 2=0 then q "\n" else q "\r\n"
noncomputable def zbv (N:List Int):List Str:=(List.range (zaA N).length).map fun k=>(zai N).getD k (q "")++nlOf k
noncomputable def zbX:Nat→List Str→List (List Nat×Bool)
 | _,[]=> []
 | k,s::r=>(s.cps.toList,decide (k % 2=1))::zbX (k+1) r
theorem zjL:∀(core:List Str) (k:Nat) (f:Nat→Str),(∀j,j < core.length→f (k+j)=core.getD j (q "")++nlOf (k+j))→cat ((List.range' k core.length).map f)=zcg (zbX k core):=by
 intro core
 induction core with
 | nil=>
  rintro _ _ _
  exact rfl
 | cons s r ih9=>
  rintro k f h
  have h0:=h 0 (by exact Nat.succ_pos _)
  have ih:=ih9 (k+1) f fun j hj=>by
   have:=h (j+1) (by simp;assumption)
   rw[show k+1+j=k+(j+1) by exact Nat.add_right_comm _ _ _];exact this
  rw[List.length_cons,List.range'_succ,List.map_cons,zbi,ih];rw[Nat.add_zero] at h0;rw[h0];show(s++nlOf k).cps.toList++_=s.cps.toList++(if decide (k % 2=1)=true then [13,10] else [10])++zcg (zbX (k+1) r);rw[ze2]
  congr 2
  unfold nlOf
  by_cases z:k % 2=0
  ·rw[if_pos z,if_neg (by simp;assumption)];rfl
  ·rw[if_neg z,if_pos (by simp;lia)];rfl
theorem zlD:∀(core:List Str) (k:Nat),outN (zbX k core)=zb2 (core.map fun s=>s.cps.toList):=by
 intro core
 induction core with
 | nil=>
  rintro _
  exact rfl
 | cons s r ih=>
  rintro k
  show s.cps.toList++ [13,10]++outN (zbX (k+1) r)=s.cps.toList++ [13,10]++zb2 _;rw[ih]
theorem zlE:∀(core:List Str) (k:Nat),(∀s∈core,RowOk s)→∀rb∈zbX k core,10∉rb.1∧13∉rb.1:=by
 intro core
 induction core with
 | nil=>
  rintro _ _ _ h
  exact mnE h
 | cons s r ih=>
  rintro k hs rb h
  rcases List.mem_cons.mp h with rfl | h
  ·exact⟨(hs s (by exact List.mem_cons_self)).n10,(hs s (by exact List.mem_cons_self)).n13⟩
  ·exact ih (k+1) (fun t ht=>hs t (List.mem_cons_of_mem _ ht)) rb h
theorem zk1:∀(core:List Str),(∀s∈core,RowOk s)→(zb2 (core.map fun s=>s.cps.toList)).length≤42 * core.length:=by
 intro core
 induction core with
 | nil=>
  rintro _
  exact Nat.zero_le _
 | cons s r ih=>
  rintro h
  have:=ih fun t ht=>h t (List.mem_cons_of_mem _ ht)
  have h1:s.cps.toList.length≤40:=by rw[Array.length_toList];exact(h s (by exact List.mem_cons_self)).len
  show(s.cps.toList++ [13,10]++zb2 _).length≤_;rw[List.length_append,List.length_append];have:([13,10]:List Nat).length=2:=rfl;have:(s::r).length=r.length+1:=rfl
  lia
theorem zk0:∀(core:List Str) (k:Nat),(∀s∈core,RowOk s)→(zcg (zbX k core)).length≤42 * core.length:=by
 intro core
 induction core with
 | nil=>
  rintro _ _
  exact Nat.zero_le _
 | cons s r ih=>
  rintro k h
  have:=ih (k+1) fun t ht=>h t (List.mem_cons_of_mem _ ht)
  have h1:s.cps.toList.length≤40:=by rw[Array.length_toList];exact(h s (by exact List.mem_cons_self)).len
  show(s.cps.toList++(if decide (k % 2=1)=true then [13,10] else [10])++zcg _).length≤_;rw[List.length_append,List.length_append,List.length_cons]
  have:(if decide (k % 2=1)=true then [13,10] else [10]:List Nat).length≤2:=by split<;>decide
  lia
theorem ziT:∀(core:List Str),(∀s∈core,RowOk s)→(outD (core.map fun s=>s.cps.toList)).length≤42 * core.length:=by
 intro core
 induction core with
 | nil=>
  rintro _
  exact Nat.zero_le _
 | cons s r ih=>
  rintro h
  have:=ih fun t ht=>h t (List.mem_cons_of_mem _ ht)
  have h1:(zcq s.cps.toList).length≤40:=by rw[←(h s (by exact List.mem_cons_self)).dot,Array.length_toList];exact(h s (by exact List.mem_cons_self)).len'
  show(zcq s.cps.toList++ [13,10]++outD _).length≤_;rw[List.length_append,List.length_append];have:([13,10]:List Nat).length=2:=rfl;have:(s::r).length=r.length+1:=rfl
  lia
theorem zmv {N:List Int}(hN:N.length≤20):∃qs1 qs2,Subs zbs (Txt.join (q "") (zbv N)) (q "\r\n") 0 qs1∧Subs zcE (Txt.join (q "") qs1) (q "..") 0 qs2∧Txt.join (q "") qs2=zba N ∧
  (Txt.join (q "") (zbv N)).cps.size≤100000∧(Txt.join (q "") qs1).cps.size≤100000∧JoinOk (q "") qs1=true∧JoinOk (q "") qs2=true∧JoinOk (q "") (zbv N)=true:=by
 have hc:=zbP N;have hok:=zgg N
 have e1:cat (zbv N)=zcg (zbX 0 (zaA N)):=by
  unfold zbv;rw[List.range_eq_range']
  refine zjL (zaA N) 0 _ fun j hj=> ?_
  rw[Nat.zero_add,zcm,List.getD_eq_getElem?_getD,List.getElem?_append_left hj,List.getD_eq_getElem?_getD]
 have z1:=zk0 (zaA N) 0 hok;have z2:=zk1 (zaA N) hok;have z3:=ziT (zaA N) hok;obtain⟨qs1,h1,h2⟩:=zo8 (zbX 0 (zaA N)) [] (zlE _ 0 hok) (by simpa using (by lia:(zcg (zbX 0 (zaA N))).length≤100000));rw[zlD] at h2;obtain⟨qs2,h3,h4⟩:=zo9 ((zaA N).map fun s=>s.cps.toList) [] 0 (Nat.zero_le _) (.inl rfl) (fun r hr=>by obtain⟨s,hs,rfl⟩:=List.mem_map.mp hr;exact(hok s hs).n10) (by simpa using (by lia:(zb2 ((zaA N).map fun s=>s.cps.toList)).length≤100000)) (fun j _ h=>by simp at h);rw[List.nil_append] at h1 h3
 have h4':cat qs2=outD ((zaA N).map fun s=>s.cps.toList):=by rw[h4];rfl
 refine⟨qs1,qs2,?_,?_,?_,?_,?_,?_,?_,?_⟩
 ·rw[zdj,e1];exact h1
 ·rw[zdj,h2];exact h3
 ·rw[zdj,h4']
  refine zfM ?_;show outD ((zaA N).map fun s=>s.cps.toList)=_
  have e0:zba N=Str.join (q "\r\n") ((zai N).map dotS):=by show Builtin.Str.glued _ _=_;rw[StrLaws.glued_eq_join]
  rw[e0,zef,zeu,zcm,List.map_append,List.map_append,List.map_map,List.map_map]
  congr 1
  congr 1
  exact List.map_congr_left fun s hs=>(hok s hs).dot.symm
 ·rw[zdj,e1];simp;lia
 ·rw[zdj,h2];simp;lia
 ·exact zdG (by rw[h2];lia)
 ·exact zdG (by rw[h4'];lia)
 ·exact zdG (by rw[e1];lia)
end
section
variable {w:World}{Φ:Fm}{d:Nat}{H H':List Cell}{σ':List (Str×AV)}
noncomputable abbrev lawB:List Stmt:=zaf (topS 38)
noncomputable abbrev zbr:Scope:=zan (topS 38)
noncomputable abbrev zby (k:Nat):Stmt:=lawB.getD k (.Pass ⟨0,0,0,0⟩)
noncomputable def zaj (N:List Int):List AV:=N.map .int
theorem zbE (N:List Int):(zaj N).length=N.length:=List.length_map ..
noncomputable def zaD (s:List Int):List Int:=s.take 5++ [15,21,84,73]
theorem ziU (s:List Int):4≤(zaD s).length∧(zaD s).length≤9:=by
 unfold zaD;rw[List.length_append,List.length_take];simp;lia
theorem cut5 (s:List Int):cut none (some 5) (zaj s)=zaj (s.take 5):=(zgf _ 5).trans List.map_take.symm
noncomputable def lσ0 (N:List Int)(sv:AV):List (Str×AV):= [(q "script",sv),(q "files",.lst (txts zaL)),(q "numbers",.lst (zaj N))]
noncomputable def lσ1 (N:List Int)(sv:AV):List (Str×AV):= [(q "script",sv),(q "files",.lst (txts zaL)),(q "numbers",.lst (zaj N)),(q "texts",.lst (txts (zak N)))]
noncomputable def lσ2 (N:List Int)(sv:AV):List (Str×AV):= [(q "script",sv),(q "files",.lst (txts zaL)),(q "numbers",.lst (zaj N)),(q "texts",.lst (txts (zak N))),(q "laid",.lst (txts (zai N)))]
noncomputable def lσ3 (N:List Int)(sv:AV):List (Str×AV):= [(q "script",sv),(q "files",.lst (txts zaL)),(q "numbers",.lst (zaj N)),(q "texts",.lst (txts (zak N))),(q "laid",.lst (txts (zai N))),(q "sent",.str (zba N))]
theorem Bds.ints {n:Nat}(N:List Int):Bds n (zaj N):=Bds.of fun x hx=>by obtain⟨i,_,rfl⟩:=List.mem_map.mp hx;exact .int
theorem l_0 {s:List Int}(T:TW w)(hc:Φ.calm=true)(hs:s.length≤1000):SS pW w (KK w) Φ d zbr (zby 0) [(q "script",.lst (zaj s))] H .next (lσ0 (zaD s) (.lst (zaj s))) H:=by
 refine SS.aN rfl (SE.tuple (SL.cons (SE.list (SL.cons SE.str (SL.cons SE.str (SL.cons SE.str (SL.cons SE.str (SL.cons SE.str SL.nil))))) (small rfl)) (SL.cons ((SE.bin (SE.af (SE.name ⟨rfl,rfl⟩ rfl) SPart.none (SPart.some SE.int) .lst (by rw[zbE,sizeLine_eq];exact leK ‹_› rfl)) (SE.list (SL.cons SE.int (SL.cons SE.int (SL.cons SE.int (SL.cons SE.int SL.nil)))) (small rfl)) (SB.ai .lst .lst ?sz)).eq ?e) SL.nil)) (small rfl)) (SA.tuple hc .tup (SAs.cons (SA.name (.inr rfl) (.there rfl .nil)) (SAs.cons (SA.name (.inl rfl) (.there rfl (.there rfl .nil))) SAs.nil)))
 case e=>rw[cut5];unfold zaD zaj;rw[List.map_append];rfl
 case sz=>rw[cut5,zbE,List.length_take,sizeLine_eq];simp;lia
noncomputable def zdH:AV→Int | .int i=>i | _=>0
theorem ziZ {f:Int→AV} :∀N:List Int,(zaj N).filterMap (fun v=>some (f (zdH v)))=N.map f:=by
 intro N
 induction N with
 | nil=>
  exact rfl
 | cons x r ih=>
  have:=ih;show(AV.int x::zaj r).filterMap _=f x::r.map f
  rw[List.filterMap_cons,this];rfl
theorem ziY {f:Str→AV} :∀ss:List Str,(txts ss).filterMap (fun v=>some (f (zam v)))=ss.map f:=by
 intro ss
 induction ss with
 | nil=>
  exact rfl
 | cons x r ih=>
  have:=ih;show(AV.str x::txts r).filterMap _=f x::r.map f
  rw[List.filterMap_cons,this];rfl
theorem zha {p:Str→Bool}{f:Str→AV} :∀ss:List Str,(txts ss).filterMap (fun v=>if p (zam v)=true then some (f (zam v)) else none)=(ss.filter p).map f:=by
 intro ss
 induction ss with
 | nil=>
  exact rfl
 | cons x r ih=>
  have:=ih;show(AV.str x::txts r).filterMap _=_;rw[List.filterMap_cons,List.filter_cons,this];have hs:zam (AV.str x)=x:=rfl;rw[hs]
  cases p x<;>rfl
theorem znT (x:Int):JoinOk (q " ") (zbM x)=true:=by
 refine joinOk_of ?_;rw[zme];have h1:=(way1 x).len;have h2:=(way2 x).len;have h3:(q " ").length=1:=rfl;simp only[List.map_cons,List.map_nil,List.sum_cons,List.sum_nil,List.length_cons,List.length_nil,h3];unfold w1 w2
 lia
theorem l_1 {N:List Int}{sv:AV}(T:TW w)(hc:Φ.calm=true)(hN:N.length≤20)(hv:Bd 0 sv):SS pW w (KK w) Φ (d+31) zbr (zby 1) (lσ0 N sv) [] .next (lσ1 N sv) []:=by
 have e:(zaj N).filterMap (fun v=>some (AV.str (zbJ (zdH v))))=txts (zak N):=by rw[ziZ (f:=fun x=>.str (zbJ x))];unfold txts zak;rw[List.map_map];rfl
 refine SS.ae rfl (SE.ofRun (ys:=txts (zak N)) (xs:=zaj N) (c:=fun p=>.iter (.lst (zaj N)) p) (SE.name ⟨rfl,rfl⟩ rfl) (.list .lst) .nil (.cons hv (.cons (.lst Bds.txts) (.cons (.lst (Bds.ints N)) .nil))) ?run) (.there rfl (.there rfl (.there rfl .nil)));rw[←e];refine zaW (σc:= []) hc (.list .lst) (.lst (Bds.ints N)) .nil (.cons hv (.cons (.lst Bds.txts) (.cons (.lst (Bds.ints N)) .nil))) (zaS rfl (by decide+kernel) rfl .nil) (by rw[zbE];exact leK ‹_› rfl) (fun v=>some (AV.str (zbJ (zdH v)))) (fun v hv' H' hH' ext=> ?_);obtain⟨x,_,rfl⟩:=List.mem_map.mp hv';refine⟨[(q "x",.int x)],SA.name (.inl rfl) .nil,(fun y u z=>by exact nsE z),.inl ⟨_,rfl,STs.nil,?_,.str⟩⟩;exact(SE.meth SE.str (GM.str PySem.F.slot_str_join rfl) .builtin (SG.some (SL.cons (SE.call (SE.glob T ⟨rfl,rfl⟩ rfl zc1) zc7 (SG.some (SL.cons (SE.name ⟨rfl,rfl⟩ rfl) SL.nil)) (ziw T).sem) SL.nil)) (SC.join .lst (znT x)))
theorem l_2 {N:List Int}{sv:AV}(T:TW w)(hc:Φ.calm=true)(hN:N.length≤20):SS pW w (KK w) Φ (d+31) zbr (zby 2) (lσ1 N sv) [] .next (lσ2 N sv) []:=
 SS.ae rfl (SE.call (SE.glob T ⟨rfl,rfl⟩ rfl zjY) zkp (SG.some (SL.cons (SE.name ⟨rfl,rfl⟩ rfl) SL.nil)) (zoR T hc .nil (by unfold zak;rw[List.length_map];exact leK ‹_› rfl)).sem) (.there rfl (.there rfl (.there rfl (.there rfl .nil))))
theorem bd2 {N:List Int}{sv:AV}(hv:Bd 0 sv):Bde 0 (lσ2 N sv):=.cons hv (.cons (.lst Bds.txts) (.cons (.lst (Bds.ints N)) (.cons (.lst Bds.txts) (.cons (.lst Bds.txts) .nil))))
theorem bd3 {N:List Int}{sv:AV}(hv:Bd 0 sv):Bde 0 (lσ3 N sv):=.cons hv (.cons (.lst Bds.txts) (.cons (.lst (Bds.ints N)) (.cons (.lst Bds.txts) (.cons (.lst Bds.txts) (.cons .str .nil)))))
theorem zou:∀{a:Nat},a < 2→ [AV.str (q "\n"),.str (q "\r\n")][a]? =some (.str (if a=0 then q "\n" else q "\r\n"))
 | 0,_=>rfl
 | 1,_=>rfl
 | n+2,h=>absurd h (by lia)
theorem zov (k:Nat):(nlOf k).length≤2:=by unfold nlOf;split<;>decide
theorem zb6 (N:List Int):(zai N).length=(zaA N).length+1:=by rw[zcm,List.length_append];rfl
theorem l_3 {N:List Int}{sv:AV}(T:TW w)(hc:Φ.calm=true)(hN:N.length≤20)(hv:Bd 0 sv):SS pW w (KK w) Φ (d+31) zbr (zby 3) (lσ2 N sv) [] .next (lσ3 N sv) []:=by
 obtain⟨qs1,qs2,h1,h2,h3,z1,z2,j1,j2,j0⟩:=zmv hN;have hc40:(zaA N).length≤40:=Nat.le_trans (zbP N) (Nat.mul_le_mul_left 2 hN);have hll:=zb6 N
 have e:((List.range (zaA N).length).map fun k:Nat=>AV.int k).filterMap (fun v=>some (AV.str ((zai N).getD (zdH v).toNat (q "")++nlOf (zdH v).toNat)))=txts (zbv N):=by
  unfold zbv txts;rw[List.filterMap_map,List.map_map];show(List.range (zaA N).length).filterMap (fun k=>some _)=_;rw[List.filterMap_eq_map'];rfl
 have hq:=znb (Φ:=Φ) (d:=d+30) (H:= []) (tx:=Txt.join (q "") (zbv N)) T h1 h2 z1 z2 j1 j2;rw[h3] at hq;refine SS.assign (fun _ _ _=>rfl) (SE.call (SE.glob T ⟨rfl,rfl⟩ rfl zig) ziy (SG.some (SL.cons (SE.meth SE.str (GM.str PySem.F.slot_str_join rfl) .builtin (SG.some (SL.cons (SE.ofRun (ys:=txts (zbv N)) (xs:=(List.range (zaA N).length).map fun k:Nat=>AV.int k) (c:=fun p=>.riter (zaA N).length p) (x:=.rng (zaA N).length) ?iter (.rng (leK hc40 rfl)) .nil (bd2 hv) ?run) SL.nil)) (SC.join .lst j0)) SL.nil)) hq.sem) (SA.name (.inl rfl) (.there rfl (.there rfl (.there rfl (.there rfl (.there rfl .nil))))))
 case iter=>
  exact SE.call (SE.bltn T ⟨rfl,rfl⟩ rfl zey zeZ) .type (SG.some (SL.cons ((SE.bin (SE.call (SE.bltn T ⟨rfl,rfl⟩ rfl zjT zkt) .builtin (SG.some (SL.cons (SE.name ⟨rfl,rfl⟩ rfl) SL.nil)) (SC.ap .lst (by rw[zaa,sizeLine_eq,hll];exact leK (Nat.succ_le_succ hc40) rfl))) SE.int SB.subInt).eq (congrArg AV.int (by rw[zaa,hll];exact Int.add_sub_cancel (((zaA N).length:Nat):Int) 1))) SL.nil)) SC.range
 case run=>
  rw[←e];refine zaW (σc:= [(q "laid",.lst (txts (zai N)))]) hc (.rng (leK hc40 rfl)) .rng .nil (bd2 hv) (zaS rfl (by decide+kernel) rfl (.cons rfl rfl .nil)) (by rw[List.length_map,List.length_range];exact leK hc40 rfl) (fun v=>some (AV.str ((zai N).getD (zdH v).toNat (q "")++nlOf (zdH v).toNat))) (fun v hv' H' hH' ext=> ?_);obtain⟨k,hk,rfl⟩:=List.mem_map.mp hv';have hk':=List.mem_range.mp hk
  have hkl:k < (zai N).length:=by rw[hll];exact Nat.lt_succ_of_lt hk'
  refine⟨[(q "laid",.lst (txts (zai N))),(q "k",.int k)],SA.name (.inl rfl) (.there rfl .nil),(fun y u z=>zah (τ:= [(q "k",AV.int k)]) z),.inl ⟨_,rfl,STs.nil,?_,.str⟩⟩
  have hg:(txts (zai N))[((k:Nat):Int).toNat]? =some (.str ((zai N).getD k (q ""))):=by
   rw[Int.toNat_natCast,zbf,List.getD_eq_getElem?_getD,List.getElem?_eq_getElem hkl];rfl
  have hm:((k:Int).fmod 2).toNat=k % 2:=zg9 k 2;have r2:=zaK (k:Int) (n:=2) (by decide);have hrow:=(zcZ N ((zai N).getD k (q "")) (by rw[List.getD_eq_getElem?_getD,List.getElem?_eq_getElem hkl];exact List.getElem_mem _)).len;have hnl:=zov k;exact SE.bin (SE.item (SE.name ⟨rfl,rfl⟩ rfl) (SE.name ⟨rfl,rfl⟩ rfl) .lst (Int.natCast_nonneg _) (znU (Nat.lt_of_lt_of_le hk' (leK hc40 rfl))) hg) (SE.item (SE.list (SL.cons SE.str (SL.cons SE.str SL.nil)) (small rfl)) (SE.bin (SE.name ⟨rfl,rfl⟩ rfl) SE.int (SB.ah (by decide))) .lst r2.1 (Int.lt_trans r2.2 (by decide)) (by rw[hm];exact zou (Nat.mod_lt _ (by decide)))) (SB.addStr (by rw[sizeLine_eq];exact Nat.le_trans (Nat.add_le_add hrow hnl) (by decide)))
theorem zlP (N:List Int)(hN:N.length≤20):JoinOk (q "\r\n") ((zai N).map dotS)=true:=by
 refine joinOk_of ?_;have hcl:=zbP N;have hll:=zb6 N;have h2:(q "\r\n").length=2:=rfl
 have:∀l:List Str,(∀s∈l,RowOk s)→((l.map dotS).map (·.length)).sum≤40 * l.length:=by
  intro l
  induction l with
  | nil=>intro _;exact Nat.zero_le _
  | cons s r ih=>
   intro h
   have:=ih fun t ht=>h t (List.mem_cons_of_mem _ ht)
   have h1:=(h s (by exact List.mem_cons_self)).len';simp only[List.map_cons,List.sum_cons,List.length_cons] at this ⊢
   lia
 have:=this (zai N) (zcZ N);rw[List.length_map,h2]
 lia
theorem ziK {N:List Int}(hN:N.length≤20):(zba N).length≤100000:=by
 have e0:zba N=Str.join (q "\r\n") ((zai N).map dotS):=by show Builtin.Str.glued _ _=_;rw[StrLaws.glued_eq_join]
 have z3:=ziT (zaA N) (zgg N);have hcl:=zbP N
 have:(zba N).cps.toList=outD ((zaA N).map fun s=>s.cps.toList):=by
  rw[e0,zef,zeu,zcm,List.map_append,List.map_append,List.map_map]
  congr 1
  congr 1
  rw[List.map_map]
  exact List.map_congr_left fun s hs=>(zgg N s hs).dot
 show(zba N).cps.size≤_;rw[←Array.length_toList,this]
 lia
theorem l_4 {N:List Int}{sv:AV}(T:TW w)(hc:Φ.calm=true)(hN:N.length≤20)(hv:Bd 0 sv):SS pW w (KK w) Φ (d+31) zbr (zby 4) (lσ3 N sv) [] .next (lσ3 N sv) []:=by
 have hcl:=zbP N;have hll:=zb6 N
 have e:(txts (zai N)).filterMap (fun v=>some (AV.str (dotS (zam v))))=txts ((zai N).map dotS):=by rw[ziY (f:=fun s=>.str (dotS s))];unfold txts;rw[List.map_map];rfl
 refine SS.ifF ((ST.cmp (SE.name ⟨rfl,rfl⟩ rfl) (SE.meth SE.str (GM.str PySem.F.slot_str_join rfl) .builtin (SG.some (SL.cons (SE.ofRun (ys:=txts ((zai N).map dotS)) (xs:=txts (zai N)) (c:=fun p=>.iter (.lst (txts (zai N))) p) (SE.name ⟨rfl,rfl⟩ rfl) (.list .lst) .nil (bd3 hv) ?run) SL.nil)) (SC.join .lst (zlP N hN))) SCmp.a8).eq (by show(zba N !=zba N)=false;simp)) SSs.nil;rw[←e];refine zaW (σc:= []) hc (.list .lst) (.lst Bds.txts) .nil (bd3 hv) (zaS rfl (by decide+kernel) rfl .nil) (by rw[zaa];lia) (fun v=>some (AV.str (dotS (zam v)))) (fun v hv' H' hH' ext=> ?_);obtain⟨s,hs,rfl⟩:=List.mem_map.mp hv';have hr:=zcZ N s hs;refine⟨[(q "row",.str s)],SA.name (.inl rfl) .nil,(fun y u z=>by exact nsE z),.inl ⟨_,rfl,STs.nil,?_,.str⟩⟩;have hl:s.length≤40:=hr.len
 exact SE.bin (SE.bin SE.str (SE.cmp (SE.ac (SE.name ⟨rfl,rfl⟩ rfl) SPart.none (SPart.some SE.int) (by rw[sizeLine_eq];exact leK ‹_› rfl)) SE.str SCmp.ak) SB.bP) (SE.name ⟨rfl,rfl⟩ rfl) (SB.addStr (by
  have:∀b:Bool,(if b=true then q "." else Str.empty).length≤1:=fun b=>by cases b<;>decide
  rw[sizeLine_eq]
  exact Nat.le_trans (Nat.add_le_add (this _) hl) (by decide)))
noncomputable def lσ4 (N:List Int)(sv:AV):List (Str×AV):= [(q "script",sv),(q "files",.lst (txts zaL)),(q "numbers",.lst (zaj N)),(q "texts",.lst (txts (zak N))),(q "laid",.lst (txts (zai N))),(q "sent",.str (zba N)),(q "heard",.lst (txts (zai N)))]
theorem l_5 {N:List Int}{sv:AV}(T:TW w)(hc:Φ.calm=true)(hN:N.length≤20)(hN1:1≤N.length)(hv:Bd 0 sv):SS pW w (KK w) Φ (d+31) zbr (zby 5) (lσ3 N sv) [] .next (lσ4 N sv) []:=by
 have hcl:=zbP N;have hll:=zb6 N
 have e:(txts ((zai N).map dotS)).filterMap (fun v=>some (AV.str (zgu (zam v))))=txts (zai N):=by
  rw[ziY (f:=fun s=>.str (zgu s))]
  conv=>rhs;rw[←zmJ N]
  unfold txts;rw[List.map_map,List.map_map,List.map_map];rfl
 refine SS.ofRun (ys:=txts (zai N)) (xs:=txts ((zai N).map dotS)) (c:=fun p=>.iter (.lst (txts ((zai N).map dotS))) p) (x:=.lst (txts ((zai N).map dotS))) ((SE.meth (SE.name ⟨rfl,rfl⟩ rfl) (GM.str PySem.F.slot_str_split rfl) .builtin (SG.some (SL.cons SE.str SL.nil)) (SC.splitS rfl (ziK hN))).eq (congrArg (fun l=>AV.lst (txts l)) (zfr hN1))) (.list .lst) .nil (bd3 hv) ?run rfl (.there rfl (.there rfl (.there rfl (.there rfl (.there rfl (.there rfl .nil)))))) rfl;rw[←e];refine zaW (σc:= []) hc (.list .lst) (.lst Bds.txts) .nil (bd3 hv) (zaS rfl (by decide+kernel) rfl .nil) (by rw[zaa,List.length_map];lia) (fun v=>some (AV.str (zgu (zam v)))) (fun v hv' H' hH' ext=> ?_);obtain⟨s',hs',rfl⟩:=List.mem_map.mp hv';obtain⟨s,hs,rfl⟩:=List.mem_map.mp hs'
 have hl:(dotS s).length≤sizeLine:=by have:=(zcZ N s hs).len';rw[sizeLine_eq];exact leK ‹_› rfl
 refine⟨[(q "row",.str (dotS s))],SA.name (.inl rfl) .nil,(fun y u z=>by exact nsE z),.inl ⟨_,rfl,STs.nil,?_,.str⟩⟩;show SE pW w (KK w) Φ (d+31) _ _ _ _ (.str (zgu (dotS s))) _ _
 have test:∀{b:Bool},zc0 (dotS s)=b→ST pW w (KK w) Φ (d+31) (exS (stT ((zby 5)))) (exE (exE (stT ((zby 5))))) [(q "row",.str (dotS s))] H' b [(q "row",.str (dotS s))] H':=fun h=>
  (ST.cmp (SE.ac (SE.name ⟨rfl,rfl⟩ rfl) SPart.none (SPart.some SE.int) hl) SE.str SCmp.ak).eq h
 unfold zgu
 cases z:zc0 (dotS s) with
 | true=>rw[if_pos rfl];exact SE.ifT (test z) (SE.ac (SE.name ⟨rfl,rfl⟩ rfl) (SPart.some SE.int) SPart.none hl)
 | false=>rw[if_neg Bool.false_ne_true];exact SE.ifF (test z) (SE.name ⟨rfl,rfl⟩ rfl)
noncomputable def zaH (N:List Int):List (Str×Str):=N.map fun x=>(w1 x,w2 x)
noncomputable def zal (N:List Int):List (Str×Str):=N.map fun x=>(zaR (ixA x),zaR (ixC x))
noncomputable def lσ5 (N:List Int)(sv:AV):List (Str×AV):= [(q "script",sv),(q "files",.lst (txts zaL)),(q "numbers",.lst (zaj N)),(q "texts",.lst (txts (zak N))),(q "laid",.lst (txts (zai N))),(q "sent",.str (zba N)),(q "heard",.lst (txts (zai N))),(q "words",.lst (zab (zaH N)))]
noncomputable def lσ6 (N:List Int)(sv:AV):List (Str×AV):= [(q "script",sv),(q "files",.lst (txts zaL)),(q "numbers",.lst (zaj N)),(q "texts",.lst (txts (zak N))),(q "laid",.lst (txts (zai N))),(q "sent",.str (zba N)),(q "heard",.lst (txts (zai N))),(q "words",.lst (zab (zaH N))),(q "rows",.lst (zab (zal N)))]
noncomputable def lσ7 (N:List Int)(sv:AV):List (Str×AV):= [(q "script",sv),(q "files",.lst (txts zaL)),(q "numbers",.lst (zaj N)),(q "texts",.lst (txts (zak N))),(q "laid",.lst (txts (zai N))),(q "sent",.str (zba N)),(q "heard",.lst (txts (zai N))),(q "words",.lst (zab (zaH N))),(q "rows",.lst (zab (zal N))),(q "bare",.obj 0)]
theorem bd4 {N:List Int}{sv:AV}(hv:Bd 0 sv):Bde 0 (lσ4 N sv):=.cons hv (.cons (.lst Bds.txts) (.cons (.lst (Bds.ints N)) (.cons (.lst Bds.txts) (.cons (.lst Bds.txts) (.cons .str (.cons (.lst Bds.txts) .nil))))))
theorem bd5 {N:List Int}{sv:AV}(hv:Bd 0 sv):Bde 0 (lσ5 N sv):=.cons hv (.cons (.lst Bds.txts) (.cons (.lst (Bds.ints N)) (.cons (.lst Bds.txts) (.cons (.lst Bds.txts) (.cons .str (.cons (.lst Bds.txts) (.cons (.lst (zas _)) .nil)))))))
theorem bd6 {n:Nat}{N:List Int}{sv:AV}(hv:Bd n sv):Bde n (lσ6 N sv):=.cons hv (.cons (.lst Bds.txts) (.cons (.lst (Bds.ints N)) (.cons (.lst Bds.txts) (.cons (.lst Bds.txts) (.cons .str (.cons (.lst Bds.txts) (.cons (.lst (zas _)) (.cons (.lst (zas _)) .nil))))))))
theorem bd7 {n:Nat}{N:List Int}{sv:AV}(hv:Bd n sv)(h:0 < n):Bde n (lσ7 N sv):=.cons hv (.cons (.lst Bds.txts) (.cons (.lst (Bds.ints N)) (.cons (.lst Bds.txts) (.cons (.lst Bds.txts) (.cons .str (.cons (.lst Bds.txts) (.cons (.lst (zas _)) (.cons (.lst (zas _)) (.cons (.obj h) .nil)))))))))
theorem l_6 {N:List Int}{sv:AV}(T:TW w)(hc:Φ.calm=true)(hN:N.length≤20)(hv:Bd 0 sv):SS pW w (KK w) Φ (d+31) zbr (zby 6) (lσ4 N sv) [] .next (lσ5 N sv) []:=by
 have hcl:=zbP N;have hll:=zb6 N
 have e:(txts (zai N)).filterMap (fun v=>if zcn (zam v)=true then some (AV.lst (txts (Txt.split (zam v) (q " ")))) else none)=zab (zaH N):=by
  rw[zha (p:=zcn) (f:=fun s=>.lst (txts (Txt.split s (q " ")))),zkY];unfold zak zab zaH;rw[List.map_map,List.map_map]
  refine List.map_congr_left fun x _=> ?_
  show AV.lst (txts (Txt.split (txt2 (w1 x) (w2 x)) (q " ")))=_
  rw[(zfW x).sp];rfl
 refine SS.ofRun (ys:=zab (zaH N)) (xs:=txts (zai N)) (c:=fun p=>.iter (.lst (txts (zai N))) p) (x:=.lst (txts (zai N))) (SE.name ⟨rfl,rfl⟩ rfl) (.list .lst) .nil (bd4 hv) ?run rfl (.there rfl (.there rfl (.there rfl (.there rfl (.there rfl (.there rfl (.there rfl .nil))))))) rfl;rw[←e];refine zaW (σc:= []) hc (.list .lst) (.lst Bds.txts) .nil (bd4 hv) (zaS rfl (by decide+kernel) rfl .nil) (by rw[zaa];lia) (fun v=>if zcn (zam v)=true then some (AV.lst (txts (Txt.split (zam v) (q " ")))) else none) (fun v hv' H' hH' ext=> ?_);obtain⟨s,hs,rfl⟩:=List.mem_map.mp hv';have hl:s.length≤100000:=Nat.le_trans (zcZ N s hs).len (by decide);refine⟨[(q "row",.str s)],SA.name (.inl rfl) .nil,(fun y u z=>by exact nsE z),?_⟩;refine zfN (g:=fun v=>if zcn (zam v)=true then some (AV.lst (txts (Txt.split (zam v) (q " ")))) else none) (v:=.str s) (b:=zcn s) (y:=.lst (txts (Txt.split s (q " ")))) (STs.one ?tt) rfl ?ee (.lst Bds.txts)
 case tt=>exact ST.cmp (SE.name ⟨rfl,rfl⟩ rfl) (SE.list (SL.cons SE.str (SL.cons SE.str SL.nil)) (small rfl)) (SCmp.ag (zs:= [q "",q "."]) .lst)
 case ee=>exact SE.meth (SE.name ⟨rfl,rfl⟩ rfl) (GM.str PySem.F.slot_str_split rfl) .builtin (SG.some (SL.cons SE.str SL.nil)) (SC.splitS rfl hl)
noncomputable def znY (f g:Str→Str):AV→Option AV
 | .lst [.str a,.str b]=>some (zaX (f a,g b))
 | _=>none
theorem zj0 {f g:Str→Str} :∀E:List (Str×Str),(zab E).filterMap (znY f g)=zab (E.map fun e=>(f e.1,g e.2)):=by
 intro E
 induction E with
 | nil=>
  exact rfl
 | cons e r ih=>
  have:=ih;show(zaX e::zab r).filterMap _=zaX (f e.1,g e.2)::zab (r.map fun e=>(f e.1,g e.2))
  rw[List.filterMap_cons,this];rfl
theorem l_7 {N:List Int}{sv:AV}(T:TW w)(hc:Φ.calm=true)(hN:N.length≤20)(hv:Bd 0 sv):SS pW w (KK w) Φ (d+31) zbr (zby 7) (lσ5 N sv) [] .next (lσ6 N sv) []:=by
 have e:(zab (zaH N)).filterMap (znY (fun s=>zaZ (za1 (q "/s") s)) (fun s=>zaZ (za1 (q "/s/") s)))=zab (zal N):=by
  rw[zj0];unfold zaH zal;rw[List.map_map]
  congr 1
  refine List.map_congr_left fun x _=> ?_
  show(zaZ (za1 (q "/s") (zaT (ixA x) (ixB x))),zaZ (za1 (q "/s/") (zaT (ixC x) (ixD x))))=_;rw[(way1 x).n1,(way2 x).n2]
 refine SS.ae rfl (SE.ofRun (ys:=zab (zal N)) (xs:=zab (zaH N)) (c:=fun p=>.iter (.lst (zab (zaH N))) p) (SE.name ⟨rfl,rfl⟩ rfl) (.list .lst) .nil (bd5 hv) ?run) (.there rfl (.there rfl (.there rfl (.there rfl (.there rfl (.there rfl (.there rfl (.there rfl .nil))))))));rw[←e];refine zaW (σc:= []) hc (.list .lst) (.lst (zas _)) .nil (bd5 hv) (zaS rfl (by decide+kernel) rfl .nil) (by unfold zab zaH;rw[List.length_map,List.length_map];exact leK ‹_› rfl) (znY (fun s=>zaZ (za1 (q "/s") s)) (fun s=>zaZ (za1 (q "/s/") s))) (fun v hv' H' hH' ext=> ?_);obtain⟨e',he,rfl⟩:=List.mem_map.mp hv';obtain⟨x,_,rfl⟩:=List.mem_map.mp he;have a:=way1 x;have b:=way2 x;have l1:(za1 (q "/s") (w1 x)).length≤900:=zeF (a:=2) (Nat.le_refl 2) a.len (by decide);have l2:(za1 (q "/s/") (w2 x)).length≤900:=zeF (a:=3) (Nat.le_refl 3) b.len (by decide);refine⟨[(q "one",.str (w1 x)),(q "two",.str (w2 x))],SA.tuple hc (.lst .lst) (SAs.cons (SA.name (.inl rfl) .nil) (SAs.cons (SA.name (.inl rfl) (.there rfl .nil)) SAs.nil)),(fun y u z=>by exact nsE z),.inl ⟨_,rfl,STs.nil,?_,.lst (.cons .str (.cons .str .nil))⟩⟩;have lw1:(w1 x).length≤1000:=Nat.le_trans a.len (by decide);have lw2:(w2 x).length≤1000:=Nat.le_trans b.len (by decide)
 exact SE.list (SL.cons (SE.call (SE.glob T ⟨rfl,rfl⟩ rfl zcB) zcD (SG.some (SL.cons (SE.call (SE.glob T ⟨rfl,rfl⟩ rfl zly) zl0 (SG.some (SL.cons SE.str (SL.cons (SE.name ⟨rfl,rfl⟩ rfl) SL.nil))) (ziA T hc hH' a.st (by decide) (by decide) lw1).sem) SL.nil)) (zce T hc hH' l1).sem)
  (SL.cons (SE.call (SE.glob T ⟨rfl,rfl⟩ rfl zcB) zcD (SG.some (SL.cons (SE.call (SE.glob T ⟨rfl,rfl⟩ rfl zly) zl0 (SG.some (SL.cons SE.str (SL.cons (SE.name ⟨rfl,rfl⟩ rfl) SL.nil))) (ziA T hc hH' b.st (by decide) (by decide) lw2).sem) SL.nil)) (zce T hc hH' l2).sem) SL.nil)) (small rfl)
theorem zmU (H:List Cell):∀E:List (Str×Str),Eqvs H 2 (zab E) (zab E):=by
 intro E
 induction E with
 | nil=>
  exact .nil
 | cons e r ih=>
  exact .cons (.lst .lst .lst (.cons .str (.cons .str .nil))) (ih)
theorem zgd (H:List Cell)(n:Nat):∀ss:List Str,Eqvs H n (txts ss) (txts ss):=by
 intro ss
 induction ss with
 | nil=>
  exact .nil
 | cons s r ih=>
  exact .cons .str (ih)
theorem zgc:∀{a:Nat},a < 5→(txts zaL)[a]? =some (.str (zaR a))
 | 0,_=>rfl
 | 1,_=>rfl
 | 2,_=>rfl
 | 3,_=>rfl
 | 4,_=>rfl
 | n+5,h=>absurd h (by lia)
theorem l_8 {N:List Int}{sv:AV}(T:TW w)(hc:Φ.calm=true)(hN:N.length≤20)(hv:Bd 0 sv):SS pW w (KK w) Φ (d+31) zbr (zby 8) (lσ6 N sv) [] .next (lσ6 N sv) []:=by
 have e:(zaj N).filterMap (fun v=>some (zaX (zaR (ixA (zdH v)),zaR (ixC (zdH v)))))=zab (zal N):=by rw[ziZ (f:=fun x=>zaX (zaR (ixA x),zaR (ixC x)))];unfold zab zal;rw[List.map_map];rfl
 refine SS.ifF (ST.cmp (SE.name ⟨rfl,rfl⟩ rfl) (SE.ofRun (ys:=zab (zal N)) (xs:=zaj N) (c:=fun p=>.iter (.lst (zaj N)) p) (SE.name ⟨rfl,rfl⟩ rfl) (.list .lst) .nil (bd6 hv) ?run) (SCmp.bB .lst .lst (zmU _ _))) SSs.nil;rw[←e];refine zaW (σc:= [(q "files",.lst (txts zaL))]) hc (.list .lst) (.lst (Bds.ints N)) .nil (bd6 hv) (zaS rfl (by decide+kernel) rfl (.cons rfl rfl .nil)) (by rw[zbE];exact leK ‹_› rfl) (fun v=>some (zaX (zaR (ixA (zdH v)),zaR (ixC (zdH v))))) (fun v hv' H' hH' ext=> ?_);obtain⟨x,_,rfl⟩:=List.mem_map.mp hv';refine⟨[(q "files",.lst (txts zaL)),(q "x",.int x)],SA.name (.inl rfl) (.there rfl .nil),(fun y u z=>zah (τ:= [(q "x",AV.int x)]) z),.inl ⟨_,rfl,STs.nil,?_,.lst (.cons .str (.cons .str .nil))⟩⟩;have r5:=zaK x (n:=5) (by decide);have r5':=zaK (x.fdiv 10) (n:=5) (by decide);exact SE.list (SL.cons (SE.item (SE.name ⟨rfl,rfl⟩ rfl) (SE.bin (SE.name ⟨rfl,rfl⟩ rfl) SE.int (SB.ah (by decide))) .lst r5.1 (by lia) (zgc (zf7 x).1)) (SL.cons (SE.item (SE.name ⟨rfl,rfl⟩ rfl) (SE.bin (SE.bin (SE.name ⟨rfl,rfl⟩ rfl) SE.int (SB.aL T rfl (by exact Nat.le_add_left _ _) (by decide))) SE.int (SB.ah (by decide))) .lst r5'.1 (by lia) (zgc (zf7 x).2.2.1)) SL.nil)) (small rfl)
theorem l_9 {N:List Int}{sv:AV}(T:TW w):SS pW w (KK w) Φ d zbr (zby 9) (lσ6 N sv) [] .next (lσ7 N sv) [.dct (zax zc8) none]:=
 SS.ae rfl (SE.aH (kvs:=zc8) (.cons (.cons (.cons .nil))) (by exact List.cons_ne_nil _ _) (by decide) (by decide)) (.there rfl (.there rfl (.there rfl (.there rfl (.there rfl (.there rfl (.there rfl (.there rfl (.there rfl .nil)))))))))
theorem zjM {f:Str×Str→List AV}{G:AV→AV→AV}(F:Str→Str)(h:∀v u,u∈zdo v→G v u= .str (F (zam u))):∀E:List (Str×Str),(zab E).flatMap (fun v=>(zdo v).map (G v))=txts (E.flatMap fun e=> [F e.1,F e.2]):=by
 intro E
 induction E with
 | nil=>
  exact rfl
 | cons e r ih=>
  have:=ih;show(zaX e::zab r).flatMap _=_;rw[List.flatMap_cons,List.flatMap_cons,this,zap]
  congr 1
  have h1:=h (zaX e) (.str e.1) (by exact List.mem_cons_self);have h2:=h (zaX e) (.str e.2) (by exact List.mem_cons_of_mem _ List.mem_cons_self);show[G (zaX e) (.str e.1),G (zaX e) (.str e.2)]=_
  rw[h1,h2];rfl
theorem l_10 {N:List Int}{sv:AV}(T:TW w)(hc:Φ.calm=true)(hN:N.length≤20)(hv:Bd 1 sv):SS pW w (KK w) Φ (d+31) zbr (zby 10) (lσ7 N sv) [.dct (zax zc8) none] .next (lσ7 N sv) [.dct (zax zc8) none]:=by
 have hH:BdH 1 [Cell.dct (zax zc8) none]:=.cons (.dct (.cons .str (.cons .str (.cons .str .nil)))) .nil
 have e1:(zab (zaH N)).flatMap (fun v=>(zdo v).map fun u=>AV.str (zaZ (q "q/../" ++zam u)))=txts ((zaH N).flatMap fun e=> [zeb e.1,zeb e.2]):=by
  rw[zjM (f:=fun _=> []) (fun s=>zaZ (q "q/../" ++s)) (fun v u _=>rfl)]
  congr 1
  unfold zaH;rw[List.flatMap_map,List.flatMap_map]
  congr 1
  funext x
  show[zaZ (q "q/../" ++zaT (ixA x) (ixB x)),zaZ (q "q/../" ++zaT (ixC x) (ixD x))]=_
  rw[(way1 x).n3,(way2 x).n3];rfl
 have e2:∀N:List Int,(zaj N).flatMap (fun v=>(txts (zbM (zdH v))).map fun u=>AV.str (zeb (zam u)))=txts ((zaH N).flatMap fun e=> [zeb e.1,zeb e.2]):=fun N=>by
  unfold zaj zaH;rw[List.flatMap_map,List.flatMap_map]
  induction N with
  | nil=>rfl
  | cons x r ih=>
   rw[List.flatMap_cons,List.flatMap_cons,zap,ih];rfl
 refine SS.ifF (ST.cmp (SE.ofRun (ys:=txts ((zaH N).flatMap fun e=> [zeb e.1,zeb e.2])) (xs:=zab (zaH N)) (c:=fun p=>.iter (.lst (zab (zaH N))) p) (SE.name ⟨rfl,rfl⟩ rfl) (.list .lst) hH (bd7 hv (by decide)) ?r1) (SE.ofRun (ys:=txts ((zaH N).flatMap fun e=> [zeb e.1,zeb e.2])) (xs:=zaj N) (c:=fun p=>.iter (.lst (zaj N)) p) (SE.name ⟨rfl,rfl⟩ rfl) (.list .lst) hH (bd7 hv (by decide)) ?r2) (SCmp.bB (n:=1) .lst .lst (zgd _ _ _))) SSs.nil
 case r1=>
  rw[←e1];refine zgj (H:= [Cell.dct (zax zc8) none]) (σc:= []) hc (.list .lst) (.lst (zas _)) hH (bd7 hv (by decide)) .nil (zaS rfl (by decide+kernel) rfl .nil) (by unfold zab zaH;rw[List.length_map,List.length_map];exact leK ‹_› rfl) zdo (fun v u=>AV.str (zaZ (q "q/../" ++zam u))) (fun v hv=>by obtain⟨e,_,rfl⟩:=List.mem_map.mp hv;rfl) (fun v hv' H' hH' ext=> ?_);obtain⟨e',he,rfl⟩:=List.mem_map.mp hv';obtain⟨x,_,rfl⟩:=List.mem_map.mp he;refine⟨[(q "row",zaX (w1 x,w2 x))],SA.name (.inl rfl) .nil,.cons (.lst (.cons .str (.cons .str .nil))) .nil,(fun y u z=>by exact nsE z),SE.name ⟨rfl,rfl⟩ rfl,.lst (.cons .str (.cons .str .nil)),fun u hu H'' hH'' ext''=> ?_⟩
  obtain⟨s,rfl,hs⟩:∃s,u= .str s∧s.length≤20:=by
   rcases zf0 hu with rfl | rfl
   ·exact⟨_,rfl,(way1 x).len⟩
   ·exact⟨_,rfl,(way2 x).len⟩
  have h5:(Str.ofString "q/../").length=5:=rfl;refine⟨[(q "row",zaX (w1 x,w2 x)),(q "word",.str s)],SA.name (.inl rfl) (.there rfl .nil),fun y v z=>zah (τ:= [(q "word",AV.str s)]) z,?_,.str⟩;exact SE.call (SE.glob T ⟨rfl,rfl⟩ rfl zcB) zcD (SG.some (SL.cons (SE.bin SE.str (SE.name ⟨rfl,rfl⟩ rfl) (SB.addStr (by rw[sizeLine_eq];lia))) SL.nil)) (zce T hc hH'' (by rw[zbD];lia)).sem
 case r2=>
  rw[←e2 N];refine zgj (H:= [Cell.dct (zax zc8) none]) (σc:= [(q "bare",.obj 0)]) hc (.list .lst) (.lst (Bds.ints N)) hH (bd7 hv (by decide)) (.cons (.obj (by decide)) .nil) (zaS rfl (by decide+kernel) rfl (.cons rfl rfl .nil)) (by rw[zbE];exact leK ‹_› rfl) (fun v=>txts (zbM (zdH v))) (fun v u=>AV.str (zeb (zam u))) (fun v hv=>rfl) (fun v hv' H' hH' ext=> ?_);obtain⟨x,_,rfl⟩:=List.mem_map.mp hv';refine⟨[(q "bare",.obj 0),(q "x",.int x)],SA.name (.inl rfl) (.there rfl .nil),.cons (.obj (show 0 < 1 by decide)) (.cons .int .nil),(fun y u z=>zah (τ:= [(q "x",AV.int x)]) z),SE.call (SE.glob T ⟨rfl,rfl⟩ rfl zc1) zc7 (SG.some (SL.cons (SE.name ⟨rfl,rfl⟩ rfl) SL.nil)) (ziw T).sem,.lst Bds.txts,fun u hu H'' hH'' ext''=> ?_⟩;obtain⟨s,_,rfl⟩:=List.mem_map.mp hu;have e0:H''[0]? =some (.dct (zax zc8) none):=ext'' 0 _ rfl;refine⟨[(q "bare",.obj 0),(q "x",.int x),(q "word",.str s)],SA.name (.inl rfl) (.there rfl (.there rfl .nil)),fun y v z=>zah (τ:= [(q "word",AV.str s)]) z,?_,.str⟩;exact SE.meth (SE.name ⟨rfl,rfl⟩ rfl) (GM.dict e0 PySem.F.slot_dict_get rfl) .builtin (SG.some (SL.cons (SE.name ⟨rfl,rfl⟩ rfl) (SL.cons (SE.name ⟨rfl,rfl⟩ rfl) SL.nil))) ((SC.bS T e0).eq (zi5 _ _ _))
structure Two (L:List (Nat×Cell))(H:List Cell)(i1 i2:Nat)(a1:Slot→Nat)(S1:Srt)(a2:Slot→Nat)(S2:Srt):Prop where
 A1:SorAt H a1 S1
 A2:SorAt H a2 S2
 sep:∀s t,S1.ok s→S2.ok t→a1 s≠a2 t
 keep:∀jc∈L,H[jc.1]? =some jc.2∧(∀s,S1.ok s→a1 s≠jc.1)∧(∀s,S2.ok s→a2 s≠jc.1)
 e1:a1 .inst=i1
 e2:a2 .inst=i2
 r1:S1.ready=none
 r2:S2.ready=none
theorem Two.left {L:List (Nat×Cell)}{i1 i2:Nat}{a1 a1' a2:Slot→Nat}{S1 S1' S2:Srt}(D:Two L H i1 i2 a1 S1 a2 S2)(A':SorAt H' a1' S1')(Ap:Apart S1 a1 H H')(W:Wider S1 S1' a1 a1' H.length)(e:a1' .inst=a1 .inst)(r:S1'.ready=none):Two L H' i1 i2 a1' S1' a2 S2:=by
 have old:∀t,S2.ok t→a2 t < H.length:=fun t ht=>D.A2.lt ht
 refine⟨A',D.A2.frame fun t ht=>Ap.2 _ (old t ht) fun s hs=>D.sep s t hs ht,fun s t hs ht=> ?_,fun jc h=> ?_,e.trans D.e1,D.e2,r,D.r2⟩
 ·rcases W s hs with ⟨h,e⟩ | h
  ·rw[e];exact D.sep s t h ht
  ·have:=old t ht;exact neT' ‹_› ‹_›
 ·obtain⟨k1,k2,k3⟩:=D.keep jc h
  refine⟨by rw[Ap.2 _ (zag k1) k2];exact k1,fun s hs=> ?_,k3⟩
  rcases W s hs with ⟨h,e⟩ | h
  ·rw[e];exact k2 s h
  ·have:=zag k1;exact neT' ‹_› ‹_›
theorem Two.right {L:List (Nat×Cell)}{i1 i2:Nat}{a1 a2' a2:Slot→Nat}{S1 S2' S2:Srt}(D:Two L H i1 i2 a1 S1 a2 S2)(A':SorAt H' a2' S2')(Ap:Apart S2 a2 H H')(W:Wider S2 S2' a2 a2' H.length)(e:a2' .inst=a2 .inst)(r:S2'.ready=none):Two L H' i1 i2 a1 S1 a2' S2':=by
 have old:∀t,S1.ok t→a1 t < H.length:=fun t ht=>D.A1.lt ht
 refine⟨D.A1.frame fun t ht=>Ap.2 _ (old t ht) fun s hs=>(D.sep t s ht hs).symm,A',fun s t hs ht=> ?_,fun jc h=> ?_,D.e1,e.trans D.e2,D.r1,r⟩
 ·rcases W t ht with ⟨h,e⟩ | h
  ·rw[e];exact D.sep s t hs h
  ·have:=old s hs;exact neT ‹_› ‹_›
 ·obtain⟨k1,k2,k3⟩:=D.keep jc h
  refine⟨by rw[Ap.2 _ (zag k1) k3];exact k1,k2,fun s hs=> ?_⟩
  rcases W s hs with ⟨h,e⟩ | h
  ·rw[e];exact k3 s h
  ·have:=zag k1;exact neT' ‹_› ‹_›
theorem Two.turn {L:List (Nat×Cell)}{c c':Cell}{i0 i1 i2:Nat}{a1 a2:Slot→Nat}{S1 S2:Srt}(D:Two ((i0,c)::L) H i1 i2 a1 S1 a2 S2)(hL:∀jc∈L,jc.1≠i0):Two ((i0,c')::L) (H.set i0 c') i1 i2 a1 S1 a2 S2:=by
 obtain⟨k1,k2,k3⟩:=D.keep (i0,c) (by exact List.mem_cons_self);refine⟨D.A1.setOther k2,D.A2.setOther k3,D.sep,fun jc h=> ?_,D.e1,D.e2,D.r1,D.r2⟩
 rcases List.mem_cons.mp h with rfl | h
 ·exact⟨List.getElem?_set_self (zag k1),k2,k3⟩
 ·obtain⟨l1,l2,l3⟩:=D.keep jc (List.mem_cons_of_mem _ h)
  exact⟨zc9 (fun z=>hL jc h z.symm) l1,l2,l3⟩
theorem Two.more {L:List (Nat×Cell)}{c:Cell}{i1 i2:Nat}{a1 a2:Slot→Nat}{S1 S2:Srt}(D:Two L H i1 i2 a1 S1 a2 S2):Two ((H.length,c)::L) (H++ [c]) i1 i2 a1 S1 a2 S2:=by
 refine⟨D.A1.more _,D.A2.more _,D.sep,fun jc h=> ?_,D.e1,D.e2,D.r1,D.r2⟩
 rcases List.mem_cons.mp h with rfl | h
 ·exact⟨by exact zbN,fun s hs=>Nat.ne_of_lt (D.A1.lt hs),fun s hs=>Nat.ne_of_lt (D.A2.lt hs)⟩
 ·obtain⟨l1,l2,l3⟩:=D.keep jc h
  exact⟨by rw[List.getElem?_append_left (zag l1)];exact l1,l2,l3⟩
theorem Two.less {L:List (Nat×Cell)}{c:Nat×Cell}{i1 i2:Nat}{a1 a2:Slot→Nat}{S1 S2:Srt}(D:Two (c::L) H i1 i2 a1 S1 a2 S2):Two L H i1 i2 a1 S1 a2 S2:=⟨D.A1,D.A2,D.sep,fun jc h=>D.keep jc (List.mem_cons_of_mem _ h),D.e1,D.e2,D.r1,D.r2⟩
noncomputable def lσ8 (N:List Int)(sv:AV)(i1 i2:Nat):List (Str×AV):= [(q "script",sv),(q "files",.lst (txts zaL)),(q "numbers",.lst (zaj N)),(q "texts",.lst (txts (zak N))),(q "laid",.lst (txts (zai N))),(q "sent",.str (zba N)),(q "heard",.lst (txts (zai N))),(q "words",.lst (zab (zaH N))),(q "rows",.lst (zab (zal N))),(q "bare",.obj 0),(q "second",.obj i2),(q "first",.obj i1)]
noncomputable def cU (N:List Int)(sv:AV)(i1 i2 k:Nat):List (Str×AV):= [(q "script",sv),(q "files",.lst (txts zaL)),(q "numbers",.lst (zaj N)),(q "texts",.lst (txts (zak N))),(q "laid",.lst (txts (zai N))),(q "sent",.str (zba N)),(q "heard",.lst (txts (zai N))),(q "words",.lst (zab (zaH N))),(q "rows",.lst (zab (zal N))),(q "bare",.obj 0),(q "second",.obj i2),(q "first",.obj i1),(q "k",.int k)]
noncomputable abbrev zks:Nat×Cell:=(0,.dct (zax zc8) none)
theorem l_11 {N:List Int}{sv:AV}(T:TW w):∃H' i1 i2 a1 a2,(∀Φ:Fm,Φ.calm=true→SS pW w (KK w) Φ (d+2) zbr (zby 11) (lσ7 N sv) [.dct (zax zc8) none] .next (lσ8 N sv i1 i2) H')∧Two [zks] H' i1 i2 a1 srt0 a2 srt0:=by
 obtain⟨H1,c1,A1,k1,l1⟩:=c_ts (d:=d) (H:= [.dct (zax zc8) none]) T;obtain⟨H2,c2,A2,k2,l2⟩:=c_ts (d:=d) (H:=H1) T
 have lt1:∀s,srt0.ok s→zgq 1 s < H1.length:=fun s hs=>A1.lt hs
 have low:∀n s,srt0.ok s→n≤zgq n s:=fun n s hs=>by
  cases s with
  | inst=>show n≤n+1;exact Nat.le_add_right _ _
  | dd=>exact Nat.le_refl _
  | dict=>show n≤n+2;exact Nat.le_add_right _ _
  | ready=>exact ftE hs
  | info k=>exact absurd hs (Nat.not_lt_zero _)
  | ns k=>exact absurd hs (Nat.not_lt_zero _)
  | suc k=>exact absurd hs (Nat.not_lt_zero _)
 have h1:1≤H1.length:=l1;refine⟨H2,2,H1.length+1,zgq 1,zgq H1.length,fun Φ hc=> ?_,⟨A1.frame fun s hs=>k2 _ (lt1 s hs),A2,fun s t hs ht=> ?_,fun jc h=> ?_,rfl,rfl,rfl,rfl⟩⟩
 ·refine SS.swap (xs:= [.obj 2,.obj (H1.length+1)]) (names:= [q "first",q "second"]) hc ?hw (SE.tuple (SL.cons (SE.aK (SE.glob T ⟨rfl,rfl⟩ rfl zbG) zlX SG.nil (c1 Φ).sem) (SL.cons (SE.aK (SE.glob T ⟨rfl,rfl⟩ rfl zbG) zlX SG.nil (c2 Φ).sem) SL.nil)) (small rfl)) rfl ?U
  case hw=>exact zon (by decide) rfl rfl (by decide+kernel) (by decide+kernel)
  case U=>exact .cons rfl (.there rfl (.there rfl (.there rfl (.there rfl (.there rfl (.there rfl (.there rfl (.there rfl (.there rfl (.there rfl .nil)))))))))) (.cons rfl (.there rfl (.there rfl (.there rfl (.there rfl (.there rfl (.there rfl (.there rfl (.there rfl (.there rfl (.there rfl (.there rfl .nil))))))))))) .nil)
 ·have a:=lt1 s hs
  have b:=low H1.length t ht;show zgq 1 s≠zgq H1.length t;exact neT ‹_› ‹_›
 ·rw[List.mem_singleton] at h
  subst h;refine⟨?_,fun s hs=> ?_,fun s hs=> ?_⟩
  ·show H2[0]? =_
   rw[k2 0 ‹_›,k1 0 (by exact Nat.le_refl _)];rfl
  ·have:=low 1 s hs;show zgq 1 s≠0;exact Nat.ne_of_gt ‹_›
  ·have:=low H1.length s hs;show zgq H1.length s≠0;exact neT' ‹_› ‹_›
noncomputable def zar (E:List (Str×Str))(n:Str):List Str:=(E.filter fun e=>e.1==n).map (·.2)
noncomputable def zlB (S:Srt)(e:Str×Str):Srt:=(S.add e.1 [e.2]).add e.1 []
noncomputable def zcj (E:List (Str×Str))(k:Nat)(S:Srt)(e:Str×Str):Srt:=if (((E.take k).map (·.1)).any (· ==e.1))=true then S else (S.add e.1 (zar E e.1)).add e.1 []
noncomputable def fstS (E:List (Str×Str)):Nat→Srt
 | 0=>srt0
 | k+1=>zlB (fstS E k) (E.getD k (q "",q ""))
noncomputable def sndS (E:List (Str×Str)):Nat→Srt
 | 0=>srt0
 | k+1=>zcj E k (sndS E k) (E.getD k (q "",q ""))
theorem zlA (E:List (Str×Str)):∀k,(fstS E k).sm (4 * k):=by
 intro k
 induction k with
 | zero=>
  exact⟨Nat.le_refl _,fun m hm=>by exact mnE hm⟩
 | succ k ih=>
  exact(zfH (ps:= []) (zfH (n:=(E.getD k (q "",q "")).1) (ps:= [(E.getD k (q "",q "")).2]) (ih))).more (by simp;exact Nat.le_refl _)
theorem zex (E:List (Str×Str))(n:Str):(zar E n).length≤E.length:=by unfold zar;rw[List.length_map];exact List.length_filter_le _ _
theorem zkO (E:List (Str×Str))(hE:E.length≤9):∀k,(sndS E k).sm (20 * k):=by
 intro k
 induction k with
 | zero=>
  exact⟨Nat.le_refl _,fun m hm=>by exact mnE hm⟩
 | succ k ih=>
  have h:=ih;have hn:=zex E (E.getD k (q "",q "")).1;show(zcj E k _ _).sm _;unfold zcj
  split
  ·exact h.more (by exact Nat.le_add_right _ _)
  ·exact(zfH (ps:= []) (zfH h)).more (by rw[List.length_nil];lia)
end
section
noncomputable def ndAt (nodes:List Node)(x:Str):Node:=nodes.getD (nodes.findIdx fun y=>y.1=x) zaU
theorem za6 (m:Node)(r:List Node)(x:Str):ndAt (m::r) x=if m.1=x then m else ndAt r x:=by
 unfold ndAt;rw[List.findIdx_cons]
 by_cases h:m.1=x
 ·simp[h]
 ·simp[h]
theorem zgU {n:Str}(x:Str):∀{nodes:List Node},n∉nodes.map (·.1)→ndAt (nodes++ [(n,0,[])]) x=if x=n then (n,0,[]) else ndAt nodes x
 | [],_=>by
  show ndAt [(n,0,[])] x=_;rw[za6]
  by_cases h:x=n
  ·subst h;simp
  ·rw[if_neg h,if_neg (fun z=>h z.symm)]
 | m::r,h=>by
  simp only[List.map_cons,List.mem_cons,not_or] at h;rw[List.cons_append,za6,za6,zgU x h.2]
  by_cases h1:m.1=x
  ·rw[if_pos h1,if_pos h1,if_neg (fun z=>h.1 (z.symm.trans h1.symm))]
  ·rw[if_neg h1,if_neg h1]
theorem ziW {n:Str}{m:Node}(hm:m.1=n)(x:Str):∀{nodes:List Node},n∈nodes.map (·.1)→ndAt (nodes.set (nodes.findIdx fun y=>y.1=n) m) x=if x=n then m else ndAt nodes x
 | [],h=>by exact mnE h
 | a::r,h=>by
  rw[List.findIdx_cons]
  by_cases h1:a.1=n
  ·simp only[h1,decide_true,cond_true,List.set_cons_zero]
   rw[za6,za6,hm,h1]
   by_cases h2:x=n
   ·subst h2;simp
   ·rw[if_neg (fun z=>h2 z.symm),if_neg h2,if_neg (fun z=>h2 z.symm)]
  ·simp only[h1,decide_false,cond_false,List.set_cons_succ]
   have hr:n∈r.map (·.1):=by rcases List.mem_cons.mp h with z | z;exact absurd z.symm h1;exact z
   rw[za6,za6,ziW hm x hr]
   by_cases h2:a.1=x
   ·rw[if_pos h2,if_pos h2,if_neg (fun z=>h1 (h2.trans z))]
   ·rw[if_neg h2,if_neg h2]
theorem zfY {m:Node} :∀{nodes:List Node},(nodes.map (·.1)).Nodup→m∈nodes→ndAt nodes m.1=m
 | a::r,nd,h=>by
  simp only[List.map_cons,List.nodup_cons] at nd;rw[za6]
  rcases List.mem_cons.mp h with rfl | h
  ·rw[if_pos rfl]
  ·rw[if_neg (fun z:a.1=m.1=>nd.1 (z▸List.mem_map_of_mem (f:=(·.1)) h)),zfY nd.2 h]
noncomputable def Srt.nd (S:Srt)(x:Str):Node:=ndAt S.nodes x
noncomputable def Srt.cnt (S:Srt)(x:Str):Int:=(S.nd x).2.1
theorem zhx (S:Srt)(x:Str):S.at (S.find x)=S.nd x:=rfl
theorem zhO (S:Srt)(x:Str):S.succ x=(S.nd x).2.2:=rfl
theorem zep (S:Srt)(n:Str):(S.see n).names=addT S.names n:=by
 unfold Srt.see addT Srt.names
 split
 ·rfl
 ·show(S.nodes++ [((n,0,[]):Node)]).map (·.1)=_
  rw[List.map_append];rfl
theorem zld {x:Str} :∀{nodes:List Node},x∉nodes.map (·.1)→ndAt nodes x=zaU
 | [],_=>rfl
 | m::r,h=>by
  simp only[List.map_cons,List.mem_cons,not_or] at h;rw[za6,if_neg (fun z=>h.1 z.symm),zld h.2]
theorem ziM (S:Srt)(n x:Str):((S.see n).nd x).2=(S.nd x).2:=by
 unfold Srt.see
 split
 ·rfl
 ·rename_i h
  show(ndAt (S.nodes++ [(n,0,[])]) x).2=(ndAt S.nodes x).2;rw[zgU x h]
  split
  ·rename_i z;subst z;rw[zld h];rfl
  ·rfl
theorem zbj (S:Srt)(n:Str):(S.see n).find n=S.find n:=by
 unfold Srt.see
 split
 ·rfl
 ·rename_i h
  have h1:S.nodes.findIdx (fun y=>decide (y.1=n))=S.nodes.length:=List.findIdx_eq_length.mpr fun m hm=>by
   rw[decide_eq_false_iff_not];intro z;exact h (z▸List.mem_map_of_mem (f:=(·.1)) hm)
  show(S.nodes++ [((n,0,[]):Node)]).findIdx (fun y=>decide (y.1=n))=S.nodes.findIdx (fun y=>decide (y.1=n));rw[List.findIdx_append,h1,if_neg (Nat.lt_irrefl _)];simp[List.findIdx_cons]
theorem zdU (S:Srt)(n:Str):n∈(S.see n).names:=by rw[zep];exact zf1.mpr (.inr rfl)
theorem zhT {S:Srt}{n:Str}{c:Int}{l:List Str}(h:n∈S.names)(x:Str):(S.setN (S.find n) (n,c,l)).nd x=if x=n then (n,c,l) else S.nd x:=ziW (n:=n) (m:=(n,c,l)) rfl x h
theorem zgT {S:Srt}{n:Str}(h:n∈S.names):(S.nd n).1=n:=by
 obtain⟨m,hm,e⟩:=zbh h;have:=zdu hm;rw[zhx] at this;rw[this,e]
theorem zeo {S:Srt}{n:Str}{c:Int}{l:List Str}(h:n∈S.names):(S.setN (S.find n) (n,c,l)).names=S.names:=by
 obtain⟨m,hm,e⟩:=zbh h;exact zbB hm e.symm
theorem zgp (S:Srt)(n p:Str):(S.addSucc n p).names=addT S.names p:=by
 unfold Srt.addSucc;dsimp only
 have e:((S.see p).at (S.find p)).1=p:=by rw[←zbj,zhx];exact zgT (zdU S p)
 rw[e,←zbj,zeo (zdU S p),zep]
theorem zfJ (S:Srt)(n p x:Str):((S.addSucc n p).nd x).2=if x=p then ((S.nd p).2.1,(S.nd p).2.2++ [n]) else (S.nd x).2:=by
 unfold Srt.addSucc;dsimp only
 have e:((S.see p).at (S.find p)).1=p:=by rw[←zbj,zhx];exact zgT (zdU S p)
 rw[e,←zbj,zhT (zdU S p),zhx]
 split
 ·rw[ziM]
 ·exact ziM S p x
theorem zkv (S:Srt)(n:Str)(k:Nat):(S.add0 n k).names=addT S.names n:=by
 unfold Srt.add0;dsimp only
 have e:((S.see n).at (S.find n)).1=n:=by rw[←zbj,zhx];exact zgT (zdU S n)
 rw[e,←zbj,zeo (zdU S n),zep]
theorem zl7 (S:Srt)(n x:Str)(k:Nat):((S.add0 n k).nd x).2=if x=n then ((S.nd n).2.1+k,(S.nd n).2.2) else (S.nd x).2:=by
 unfold Srt.add0;dsimp only
 have e:((S.see n).at (S.find n)).1=n:=by rw[←zbj,zhx];exact zgT (zdU S n)
 rw[e,←zbj,zhT (zdU S n),zhx]
 split
 ·rw[ziM]
 ·exact ziM S n x
theorem zhN (n:Str):∀(ps:List Str) (S:Srt),(ps.foldl (fun S p=>S.addSucc n p) S).names=ps.foldl addT S.names:=by
 intro ps
 induction ps with
 | nil=>
  rintro _
  exact rfl
 | cons p r ih=>
  rintro S
  rewrite [List.foldl_cons,List.foldl_cons,ih,zgp];rfl
theorem zkN (n x:Str):∀(ps:List Str) (S:Srt),(ps.foldl (fun S p=>S.addSucc n p) S).cnt x=S.cnt x:=by
 intro ps
 induction ps with
 | nil=>
  rintro _
  exact rfl
 | cons p r ih=>
  rintro S
  rw[List.foldl_cons,ih];unfold Srt.cnt;rw[zfJ]
  split
  ·rename_i z;subst z;rfl
  ·rfl
theorem zjv (n x y:Str):∀(ps:List Str) (S:Srt),((ps.foldl (fun S p=>S.addSucc n p) S).succ x).count y=(S.succ x).count y+if y=n then ps.count x else 0:=by
 intro ps
 induction ps with
 | nil=>
  rintro _
  simp
 | cons p r ih=>
  rintro S
  rw[List.foldl_cons,ih,zhO,zfJ,zhO]
  by_cases h:x=p
  ·subst h
   rw[if_pos rfl,List.count_append,List.count_cons_self]
   by_cases h2:y=n
   ·subst h2;rw[if_pos rfl,if_pos rfl];simp;exact Nat.add_right_comm _ _ _
   ·rw[if_neg h2,if_neg h2];simp[List.count_singleton];exact fun z=>h2 z.symm
  ·rw[if_neg h,List.count_cons_of_ne (fun z=>h z.symm)]
structure Gr (F:Str→Prop)(N:Str→List Str)(S:Srt):Prop where
 nd:S.names.Nodup
 mem:∀x,x∈S.names↔F x∨∃n,x∈N n
 cnt:∀x,S.cnt x=(N x).length
 suc:∀x n,(S.succ x).count n=(N n).count x
 rdy:S.ready=none
 pas:S.pass=0
 fin:S.fin=0
theorem Gr.add {F:Str→Prop}{N:Str→List Str}{S:Srt}(G:Gr F N S)(n:Str)(ps:List Str):Gr (fun x=>F x∨x=n) (fun x=>if x=n then N n++ps else N x) (S.add n ps):=by
 obtain⟨r1,r2,r3⟩:=ze4 S n ps
 have hn:(S.add n ps).names=ps.foldl addT (addT S.names n):=by unfold Srt.add;rw[zhN,zkv]
 refine⟨?_,fun x=> ?_,fun x=> ?_,fun x y=> ?_,r1.trans G.rdy,r2.trans G.pas,r3.trans G.fin⟩
 ·rw[hn];exact zbq (zfw G.nd)
 ·rw[hn,zbV,zf1,G.mem]
  constructor
  ·rintro(((h | ⟨m,h⟩) | h) | h)
   ·exact .inl (.inl h)
   ·refine .inr ⟨m,?_⟩
    show x∈if m=n then N n++ps else N m
    split
    ·rename_i z;subst z;exact List.mem_append_left _ h
    ·exact h
   ·exact .inl (.inr h)
   ·exact .inr ⟨n,by show x∈if n=n then N n++ps else N n;rw[if_pos rfl];exact List.mem_append_right _ h⟩
  ·rintro((h | h) | ⟨m,h⟩)
   ·exact .inl (.inl (.inl h))
   ·exact .inl (.inr h)
   ·have h':x∈if m=n then N n++ps else N m:=h
    split at h'
    ·rcases List.mem_append.mp h' with z | z
     ·exact .inl (.inl (.inr ⟨n,z⟩))
     ·exact .inr z
    ·exact .inl (.inl (.inr ⟨m,h'⟩))
 ·unfold Srt.add
  rw[zkN];unfold Srt.cnt;rw[zl7];have c1:=G.cnt x;unfold Srt.cnt at c1;show _=(((if x=n then N n++ps else N x).length:Nat):Int)
  by_cases h:x=n
  ·subst h
   rw[if_pos rfl,if_pos rfl,List.length_append];show(S.nd x).2.1+(ps.length:Int)=_
   rw[c1];solve_by_elim (maxDepth:=4) [leK,ltK,slK,llK,kL]
  ·rw[if_neg h,if_neg h];exact c1
 ·unfold Srt.add
  rw[zjv]
  have e:(S.add0 n ps.length).succ x=S.succ x:=by
   rw[zhO,zl7]
   split
   ·rename_i z;subst z;rfl
   ·rfl
  rw[e,G.suc];show _=(if y=n then N n++ps else N y).count x
  by_cases h:y=n
  ·subst h;rw[if_pos rfl,if_pos rfl,List.count_append]
  ·rw[if_neg h,if_neg h];rfl
theorem Gr.of {F F':Str→Prop}{N N':Str→List Str}{S:Srt}(G:Gr F N S)(hF:∀x,F' x↔F x)(hN:∀x,N' x=N x):Gr F' N' S:=by
 have e1:F'=F:=funext fun x=>propext (hF x)
 have e2:N'=N:=funext hN
 rw[e1,e2];exact G
theorem gr0:Gr (fun _=>False) (fun _=> []) srt0:=⟨.nil,fun x=>⟨(fun h=>by exact mnE h),fun h=>h.elim False.elim (fun⟨_,z⟩=>by exact mnE z)⟩,fun _=>rfl,fun _ _=>rfl,rfl,rfl,rfl⟩
noncomputable def zaV (E:zaN)(x:Str):Prop:=x∈E.map (·.1)
theorem zjS (E:zaN)(e:Str×Str)(x:Str):zar (E++ [e]) x=if x=e.1 then zar E e.1++ [e.2] else zar E x:=by
 unfold zar;rw[List.filter_append,List.map_append]
 by_cases h:x=e.1
 ·subst h;rw[if_pos rfl];simp
 ·rw[if_neg h]
  have:(e.1==x)=false:=by simp;exact fun z=>h z.symm
  simp[this]
theorem znp (E:zaN):∀k,k≤E.length→Gr (zaV (E.take k)) (zar (E.take k)) (fstS E k)
 | 0,_=>gr0.of (fun x=>⟨(fun h=>by exact mnE h),fun h=>h.elim⟩) (fun _=>rfl)
 | k+1,hk=>by
  have hlt:k < E.length:=hk
  have e0:E.getD k (q "",q "")=E[k]:=by rw[List.getD_eq_getElem?_getD,List.getElem?_eq_getElem hlt];rfl
  have G:=znp E k (by exact Nat.le_of_lt ‹_›)
  refine((G.add (E.getD k (q "",q "")).1 [(E.getD k (q "",q "")).2]).add (E.getD k (q "",q "")).1 []).of (fun x=> ?_) fun x=> ?_
  ·rw[e0,List.take_succ_eq_append_getElem hlt]
   unfold zaV;rw[List.map_append,List.mem_append]
   simp
  ·rw[e0,List.take_succ_eq_append_getElem hlt,zjS]
   by_cases h:x=E[k].1
   ·rw[if_pos h,if_pos h,if_pos rfl,List.append_nil]
   ·rw[if_neg h,if_neg h]
theorem zhA (E:zaN)(x:Str):((E.map (·.1)).any (· ==x))=true↔zaV E x:=by
 unfold zaV;rw[List.any_eq_true];exact⟨fun⟨y,h,e⟩=>eq_of_beq e▸h,fun h=>⟨x,h,BEq.rfl⟩⟩
open Classical in
theorem znh (E:zaN):∀k,k≤E.length→Gr (zaV (E.take k)) (fun x=>if zaV (E.take k) x then zar E x else []) (sndS E k)
 | 0,_=>gr0.of (fun x=>⟨(fun h=>by exact mnE h),fun h=>h.elim⟩) (fun x=>if_neg (fun h=>by exact mnE h))
 | k+1,hk=>by
  have hlt:k < E.length:=hk
  have e0:E.getD k (q "",q "")=E[k]:=by rw[List.getD_eq_getElem?_getD,List.getElem?_eq_getElem hlt];rfl
  have G:=znh E k (by exact Nat.le_of_lt ‹_›)
  have hF:∀x,zaV (E.take (k+1)) x↔zaV (E.take k) x∨x=E[k].1:=fun x=>by
   rw[List.take_succ_eq_append_getElem hlt];unfold zaV;rw[List.map_append,List.mem_append];simp
  show Gr _ _ (zcj E k (sndS E k) (E.getD k (q "",q "")));rw[e0];unfold zcj
  by_cases h:(((E.take k).map (·.1)).any (· ==E[k].1))=true
  ·rw[if_pos h]
   have hk':=(zhA _ _).mp h
   have hF':∀x,zaV (E.take (k+1)) x↔zaV (E.take k) x:=fun x=>(hF x).trans ⟨fun z=>z.elim id fun z=>z▸hk',.inl⟩
   refine G.of hF' fun x=> ?_
   by_cases z:zaV (E.take k) x
   ·rw[if_pos z,if_pos ((hF' x).mpr z)]
   ·rw[if_neg z,if_neg (fun y=>z ((hF' x).mp y))]
  ·rw[if_neg h]
   have hk': ¬ zaV (E.take k) E[k].1:=fun z=>h ((zhA _ _).mpr z)
   refine((G.add E[k].1 (zar E E[k].1)).add E[k].1 []).of (fun x=>(hF x).trans ⟨fun z=>.inl z,fun z=>z.elim id .inr⟩) fun x=> ?_
   by_cases z:x=E[k].1
   ·rw[if_pos ((hF x).mpr (.inr z)),if_pos z,if_pos rfl,if_neg hk',z,List.append_nil,List.nil_append]
   ·rw[if_neg z,if_neg z]
    by_cases y:zaV (E.take k) x
    ·rw[if_pos y,if_pos ((hF x).mpr (.inl y))]
    ·rw[if_neg y,if_neg (fun w=>((hF x).mp w).elim y z)]
theorem zaJ {E:zaN}{x y:Str} :y∈zar E x↔(x,y)∈E:=by
 unfold zar;rw[List.mem_map]
 constructor
 ·rintro⟨e,h,rfl⟩
  obtain⟨h1,h2⟩:=List.mem_filter.mp h
  rw[←eq_of_beq h2];exact h1
 ·intro h
  exact⟨(x,y),List.mem_filter.mpr ⟨h,BEq.rfl⟩,rfl⟩
noncomputable abbrev GrE (E:zaN)(S:Srt):Prop:=Gr (zaV E) (zar E) S
theorem znZ (E:zaN):GrE E (fstS E E.length):=by have:=znp E E.length (Nat.le_refl _);rw[List.take_length] at this;exact this
open Classical in
theorem znF (E:zaN):GrE E (sndS E E.length):=by
 have:=znh E E.length (Nat.le_refl _);rw[List.take_length] at this
 refine this.of (fun _=>Iff.rfl) fun x=> ?_
 split
 ·rfl
 ·rename_i h
  cases z:zar E x with
  | nil=>rfl
  | cons y r=>
   have:(x,y)∈E:=zaJ.mp (by rw[z];simp);exact absurd (List.mem_map_of_mem (f:=(·.1)) this) h
theorem GrE.ends {E:zaN}{S:Srt}(G:GrE E S)(x:Str):x∈S.names↔x∈zau E:=by
 rw[G.mem];unfold zau zaV;rw[List.mem_flatMap,List.mem_map]
 constructor
 ·rintro(⟨e,h,rfl⟩ | ⟨n,h⟩)
  ·exact⟨e,h,by exact List.mem_cons_self⟩
  ·exact⟨(n,x),zaJ.mp h,by exact List.mem_cons_of_mem _ List.mem_cons_self⟩
 ·rintro⟨e,h,z⟩
  simp at z
  rcases z with rfl | rfl
  ·exact .inl ⟨e,h,rfl⟩
  ·exact .inr ⟨e.1,zaJ.mpr h⟩
end
end Mine
section
namespace Mine
theorem zoC {S:Srt}{n:Str}{f:Int→Int}(h:n∈S.names)(x:Str):((S.mod n f).nd x).2=if x=n then (f (S.cnt n),S.succ n) else (S.nd x).2:=by
 unfold Srt.mod;rw[zhx,zgT h,zhT h]
 split
 ·rfl
 ·rfl
theorem zfZ {S:Srt}{n:Str}{f:Int→Int}(h:n∈S.names)(x:Str):(S.mod n f).cnt x=if x=n then f (S.cnt n) else S.cnt x:=by
 unfold Srt.cnt;rw[zoC h];split<;>rfl
theorem ziR:∀{ts:List Str} {S:Srt},(∀t∈ts,t∈S.names)→∀x,(S.outs ts).cnt x=if x∈ts then -1 else S.cnt x
 | [],S,_,x=>by exact(if_neg List.not_mem_nil).symm
 | t::r,S,h,x=>by
  have e:=za0 (f:=fun _=> -1) (h t List.mem_cons_self);have ih:=ziR (ts:=r) (S:=S.mod t fun _=> -1) (fun y hy=>by rw[e];exact h y (List.mem_cons_of_mem _ hy)) x;show((S.mod t fun _=> -1).outs r).cnt x=_;rw[ih,zfZ (h t List.mem_cons_self)]
  by_cases h1:x∈r
  ·rw[if_pos h1,if_pos (List.mem_cons_of_mem _ h1)]
  ·rw[if_neg h1]
   by_cases h2:x=t
   ·rw[if_pos h2,if_pos (by rw[h2];exact List.mem_cons_self)]
   ·rw[if_neg h2,if_neg (fun z=>(List.mem_cons.mp z).elim h2 h1)]
theorem zgN:∀{ts:List Str} {S:Srt},(∀t∈ts,t∈S.names)→∀x,(S.outs ts).succ x=S.succ x
 | [],_,_,_=>rfl
 | t::r,S,h,x=>by
  have e:=za0 (f:=fun _=> -1) (h t List.mem_cons_self);show((S.mod t fun _=> -1).outs r).succ x=_;rw[zgN (ts:=r) (S:=S.mod t fun _=> -1) (fun y hy=>by rw[e];exact h y (List.mem_cons_of_mem _ hy)) x,zdh (h t List.mem_cons_self)]
theorem zn4 {S:Srt}{s:Str}(h:s∈S.names)(x:Str):(S.dec s).cnt x=if x=s then S.cnt s - 1 else S.cnt x:=by
 unfold Srt.dec
 split
 ·exact zfZ (f:=(· - 1)) h x
 ·exact zfZ (f:=(· - 1)) h x
theorem zm0:∀(ss:List Str) (S:Srt) (R:List Str),S.ready=some R→(∀s∈ss,s∈S.names)→(∀s∈ss,(ss.count s:Int)≤S.cnt s) →
  (∀x,(S.decs ss).cnt x=S.cnt x - ss.count x)∧(∀x,(S.decs ss).succ x=S.succ x)∧∃R',(S.decs ss).ready=some (R++R')∧R'.Nodup∧∀x,x∈R'↔x∈ss∧S.cnt x=ss.count x:=by
 intro ss
 induction ss with
 | nil=>
  rintro S R hr _ _
  exact⟨fun x=>by exact(Int.sub_zero _).symm,fun _=>rfl,[],by rw[List.append_nil];exact hr,.nil,fun x=>by simp⟩
 | cons s r ih=>
  rintro S R hr hn hc
  have hs:=hn s List.mem_cons_self;have en:=zeV hs;have c0:=hc s List.mem_cons_self;rw[List.count_cons_self] at c0;have ec:=zn4 hs
  have hc':∀y∈r,(r.count y:Int)≤(S.dec s).cnt y:=fun y hy=>by
   rw[ec]
   by_cases z:y=s
   ·subst z;rw[if_pos rfl];lia
   ·rw[if_neg z]
    have:=hc y (List.mem_cons_of_mem _ hy);rw[List.count_cons_of_ne (fun w=>z w.symm)] at this;exact this
  obtain⟨R1,dS,hR1⟩:∃R1,(S.dec s).ready=some (R++R1)∧R1=if S.cnt s - 1=0 then [s] else []:=by
   unfold Srt.dec
   by_cases z:S.cnt s - 1=0
   ·refine⟨[s],?_,by rw[if_pos z]⟩
    rw[if_pos (by show((S.cnt s - 1==0)=true);rw[z];rfl)];show some (S.ready.getD []++ [s])=_
    rw[hr];rfl
   ·refine⟨[],?_,by rw[if_neg z]⟩
    rw[if_neg (by show ¬ ((S.cnt s - 1==0)=true);simpa using z)];show S.ready=_;rw[hr,List.append_nil]
  obtain⟨i1,i2,R',i3,i4,i5⟩:=ih (S.dec s) (R++R1) dS (fun y hy=>by rw[en];exact hn y (List.mem_cons_of_mem _ hy)) hc';refine⟨fun x=> ?_,fun x=>(i2 x).trans (zje hs x),R1++R',by rw[←List.append_assoc];exact i3,?_,fun x=> ?_⟩
  ·show((S.dec s).decs r).cnt x=_
   rw[i1,ec]
   by_cases z:x=s
   ·subst z;rw[if_pos rfl,List.count_cons_self];lia
   ·rw[if_neg z,List.count_cons_of_ne (fun w=>z w.symm)]
  ·rw[hR1]
   split
   ·rename_i z
    show(s::R').Nodup;refine List.nodup_cons.mpr ⟨fun h=> ?_,i4⟩;have h1:=((i5 s).mp h).1;have:=List.count_pos_iff.mpr h1
    lia
   ·exact i4
  ·rw[List.mem_append,i5,ec,hR1]
   by_cases z:x=s
   ·subst z
    rw[if_pos rfl,List.count_cons_self]
    by_cases y:S.cnt x - 1=0
    ·rw[if_pos y]
     exact⟨fun _=>⟨List.mem_cons_self,by lia⟩,fun _=>.inl List.mem_cons_self⟩
    ·rw[if_neg y]
     constructor
     ·rintro(h | ⟨h1,h2⟩)
      ·exact mnE h
      ·exact⟨List.mem_cons_self,by lia⟩
     ·rintro⟨_,h2⟩
      exact .inr ⟨List.count_pos_iff.mp (by lia),by lia⟩
   ·rw[if_neg z,List.count_cons_of_ne (fun w=>z w.symm)]
    constructor
    ·rintro(h | ⟨h1,h2⟩)
     ·split at h
      ·exact absurd (List.mem_singleton.mp h) z
      ·exact mnE h
     ·exact⟨List.mem_cons_of_mem _ h1,h2⟩
    ·rintro⟨h1,h2⟩
     exact .inr ⟨(List.mem_cons.mp h1).resolve_left z,h2⟩
noncomputable def zdd (N:Str→List Str)(D:List Str)(x:Str):Nat:=(N x).countP fun y=>decide (y∉D)
theorem zcl {N:Str→List Str}{D:List Str}{x:Str} :zdd N D x=0↔∀y∈N x,y∈D:=by
 unfold zdd;rw[List.countP_eq_zero];exact⟨fun h y hy=>by have:=h y hy;simpa using this,fun h y hy=>by simpa using h y hy⟩
theorem zb3 {N:Str→List Str}{D:List Str}{n:Str}(hn:n∉D)(x:Str):zdd N D x=zdd N (D++ [n]) x+(N x).count n:=by
 unfold zdd;generalize N x=l
 induction l with
 | nil=>rfl
 | cons y r ih=>
  rw[List.countP_cons,List.countP_cons,List.count_cons,ih]
  by_cases h:y=n
  ·subst h;simp[hn];exact Nat.add_assoc _ _ _
  ·by_cases h2:y∈D<;>simp[h,h2]<;>exact Nat.add_right_comm _ _ _
structure Kahn (A:List Str)(N:Str→List Str)(S:Srt)(D W R:List Str):Prop where
 names:S.names=A
 suc:∀x n,(S.succ x).count n=(N n).count x
 len:∀x,(S.succ x).length≤1000
 nd:(D++(W++R)).Nodup
 sub:∀x∈D++(W++R),x∈A
 pas:S.pass=D.length+W.length
 fin:S.fin=D.length
 rdy:S.ready=some R
 cD:∀x∈D,S.cnt x= -2
 cW:∀x∈W,S.cnt x= -1
 cE:∀x,x∉D→x∉W→S.cnt x=zdd N D x
 dn:∀x∈D++(W++R),zdd N D x=0
 fr:∀x∈A,zdd N D x=0→x∈D++(W++R)
variable {A:List Str}{N:Str→List Str}{S:Srt}{D W R:List Str}
theorem Kahn.perm {W':List Str}(K:Kahn A N S D W R)(p:W'.Perm W):Kahn A N S D W' R:=by
 have q:(D++(W'++R)).Perm (D++(W++R)):=(p.append_right R).append_left D;exact⟨K.names,K.suc,K.len,q.nodup_iff.mpr K.nd,fun x hx=>K.sub x (q.mem_iff.mp hx),by rw[K.pas,p.length_eq],K.fin,K.rdy,K.cD,fun x hx=>K.cW x (p.mem_iff.mp hx),fun x h1 h2=>K.cE x h1 fun z=>h2 (p.mem_iff.mpr z),fun x hx=>K.dn x (q.mem_iff.mp hx),fun x hx h=>q.mem_iff.mpr (K.fr x hx h)⟩
theorem Kahn.got (K:Kahn A N S D W R):Kahn A N (S.got R) D (W++R) []:=by
 have hin:∀t∈R,t∈S.names:=fun t ht=>by rw[K.names];exact K.sub t (by simp[ht])
 obtain⟨o1,o2,o3⟩:=zgO R S
 have e:D++(W++R++ [])=D++(W++R):=by rw[List.append_nil]
 have hc:∀x,(S.got R).cnt x=if x∈R then -1 else S.cnt x:=fun x=>ziR hin x
 have hs:∀x,(S.got R).succ x=S.succ x:=fun x=>zgN hin x
 have nd:=K.nd;rw[List.nodup_append] at nd;refine⟨(zdl hin).trans K.names,fun x n=>by rw[hs];exact K.suc x n,fun x=>by rw[hs];exact K.len x,by rw[e];exact K.nd,fun x hx=>K.sub x (by rw[e] at hx;exact hx),?_,?_,rfl,fun x hx=> ?_,fun x hx=> ?_,fun x h1 h2=> ?_,fun x hx=>K.dn x (by rw[e] at hx;exact hx),fun x hx h=>by rw[e];exact K.fr x hx h⟩
 ·show S.pass+(R.length:Int)=_
  rw[K.pas,List.length_append];lia
 ·show(S.outs R).fin=_
  rw[o3];exact K.fin
 ·rw[hc,if_neg (fun z=>nd.2.2 x hx x (List.mem_append_right _ z) rfl)];exact K.cD x hx
 ·rw[hc]
  split
  ·rfl
  ·rename_i z
   exact K.cW x ((List.mem_append.mp hx).resolve_right z)
 ·rw[List.mem_append,not_or] at h2
  rw[hc,if_neg h2.2];exact K.cE x h1 h2.1
noncomputable def zhB (A:List Str)(N:Str→List Str):Prop:=∀n,∀x∈N n,n∈A∧x∈A
theorem Kahn.done1 {n:Str}(C:zhB A N)(hA:A.length≤100)(K:Kahn A N S D (n::W) R):zd3 S [n]∧∃R',Kahn A N (S.done1 n) (D++ [n]) W R':=by
 have nd:=K.nd;rw[List.nodup_append] at nd;obtain⟨ndD,ndW,dis⟩:=nd;rw[List.nodup_append] at ndW;obtain⟨ndW,ndR,disR⟩:=ndW;have hnW:=(List.nodup_cons.mp ndW).1
 have hnD:n∉D:=fun z=>dis n z n (by exact List.mem_cons_self) rfl
 have hnR:n∉R:=fun z=>disR n (by exact List.mem_cons_self) n z rfl
 have hnA:n∈A:=K.sub n (by exact List.mem_append_right _ List.mem_cons_self)
 have hnN:n∈S.names:=by rw[K.names];exact hnA
 have sucIn:∀s,s∈S.succ n→n∈N s:=fun s hs=>by
  have:=List.count_pos_iff.mpr hs;rw[K.suc] at this;exact List.count_pos_iff.mp this
 have sucN:∀s∈S.succ n,s∈S.names:=fun s hs=>by rw[K.names];exact(C s n (sucIn s hs)).1
 have opn:∀s,n∈N s→zdd N D s≠0:=fun s hs z=>hnD (zcl.mp z n hs)
 have notAll:∀s,n∈N s→s∉D++(n::W++R):=fun s hs z=>opn s hs (K.dn s z)
 have hself:n∉N n:=fun z=>notAll n z (by exact List.mem_append_right _ List.mem_cons_self)
 have hRl:R.length≤100:=Nat.le_trans (List.Nodup.length_le_of_subset ndR fun x hx=>K.sub x (by simp[hx])) hA;have hcn:S.cnt n= -1:=K.cW n List.mem_cons_self;refine⟨⟨hnN,hcn,sucN,⟨R,K.rdy,by have:=K.len n;lia⟩,trivial⟩,?_⟩;have m1:=zfZ (f:=fun _=> -2) hnN;have e1:=za0 (f:=fun _=> -2) hnN
 have cs:∀s∈S.succ n,s≠n∧S.cnt s=zdd N D s:=fun s hs=>by
  have h:=notAll s (sucIn s hs);simp only[List.mem_append,List.mem_cons,not_or] at h;exact⟨h.2.1.1,K.cE s h.1 (by simp[h.2.1.1,h.2.1.2])⟩
 obtain⟨i1,i2,R',i3,i4,i5⟩:=zm0 (S.succ n) (S.mod n fun _=> -2) R K.rdy (fun s hs=>by rw[e1];exact sucN s hs) (fun s hs=>by
  rw[m1,if_neg (cs s hs).1,(cs s hs).2,K.suc];have:=zb3 (N:=N) hnD s
  lia)
 have hR':∀x,x∈R'↔n∈N x∧zdd N (D++ [n]) x=0:=fun x=>by
  rw[i5,m1]
  constructor
  ·rintro⟨h1,h2⟩
   rw[if_neg (cs x h1).1,(cs x h1).2,K.suc] at h2;have:=zb3 (N:=N) hnD x;exact⟨sucIn x h1,by lia⟩
  ·rintro⟨h1,h2⟩
   have h3:x∈S.succ n:=List.count_pos_iff.mp (by rw[K.suc];exact List.count_pos_iff.mpr h1);refine⟨h3,?_⟩;rw[if_neg (cs x h3).1,(cs x h3).2,K.suc];have:=zb3 (N:=N) hnD x
   lia
 have hcF:∀x,(S.done1 n).cnt x=(if x=n then -2 else S.cnt x) - ((N x).count n:Nat):=fun x=>by
  show((S.mod n fun _=> -2).decs (S.succ n)).cnt x=_;rw[i1,m1,K.suc]
 have hsF:∀x,(S.done1 n).succ x=S.succ x:=fun x=>(i2 x).trans (zdh hnN x)
 obtain⟨p1,p2⟩:=zhl (S.succ n) (S.mod n fun _=> -2)
 have none0:∀x∈D++(n::W++R),(N x).count n=0:=fun x hx=>List.count_eq_zero.mpr fun z=>notAll x z hx
 have mem':∀x,x∈D++ [n]++(W++(R++R'))↔(x∈D++(n::W++R)∨x∈R'):=fun x=>by
  simp only[List.mem_append,List.mem_cons,List.not_mem_nil,or_false]
  constructor
  ·rintro((h | h) | h | h | h)<;>simp[h]
  ·rintro((h | (h | h) | h) | h)<;>simp[h]
 refine⟨R++R',⟨?_,fun x y=>by rw[hsF];exact K.suc x y,fun x=>by rw[hsF];exact K.len x,?_,fun x hx=> ?_,?_,?_,i3,fun x hx=> ?_,fun x hx=> ?_,fun x h1 h2=> ?_,fun x hx=> ?_,fun x hx h=> ?_⟩⟩
 ·show((S.mod n fun _=> -2).decs (S.succ n)).names=_
  rw[zdM fun s hs=>by rw[e1];exact sucN s hs,e1,K.names]
 ·have p:(D++ [n]++(W++(R++R'))).Perm (D++(n::W++R)++R'):=by simp[List.append_assoc]
  refine p.nodup_iff.mpr (List.nodup_append.mpr ⟨K.nd,i4,fun a ha b hb=> ?_⟩)
  rintro rfl
  exact notAll a ((hR' a).mp hb).1 ha
 ·rcases (mem' x).mp hx with h | h
  ·exact K.sub x h
  ·exact(C x n ((hR' x).mp h).1).1
 ·show((S.mod n fun _=> -2).decs (S.succ n)).pass=_
  rw[p1];show S.pass=_
  rw[K.pas,List.length_append,List.length_cons];simp;lia
 ·show S.fin+1=_
  rw[K.fin,List.length_append];simp
 ·rw[hcF]
  rcases List.mem_append.mp hx with h | h
  ·rw[if_neg (fun z:x=n=>hnD (z▸h)),none0 x (by simp[h]),K.cD x h];rfl
  ·rw[List.mem_singleton.mp h,if_pos rfl,none0 n (by exact List.mem_append_right _ List.mem_cons_self)];rfl
 ·rw[hcF,if_neg (fun z:x=n=>hnW (z▸hx)),none0 x (by simp[hx]),K.cW x (List.mem_cons_of_mem _ hx)];rfl
 ·simp only[List.mem_append,List.mem_singleton,not_or] at h1
  rw[hcF,if_neg h1.2,K.cE x h1.1 (by simp[h1.2,h2])];have:=zb3 (N:=N) hnD x
  lia
 ·rcases (mem' x).mp hx with h | h
  ·have h1:=K.dn x h
   have h2:=zb3 (N:=N) hnD x
   lia
  ·exact((hR' x).mp h).2
 ·rw[mem']
  by_cases z:n∈N x
  ·exact .inr ((hR' x).mpr ⟨z,h⟩)
  ·have h2:=zb3 (N:=N) hnD x
   rw[List.count_eq_zero.mpr z] at h2;exact .inl (K.fr x hx (by lia))
theorem Kahn.dones (C:zhB A N)(hA:A.length≤100):∀(ns:List Str) {S:Srt} {D R:List Str},Kahn A N S D (ns++W) R→zd3 S ns∧∃R',Kahn A N (S.dones ns) (D++ns) W R':=by
 intro ns
 induction ns with
 | nil=>
  rintro S D R K
  exact⟨trivial,R,by rw[List.append_nil];exact K⟩
 | cons n r ih=>
  rintro S D R K
  obtain⟨⟨h1,h2,h3,h4,_⟩,R',K'⟩:=K.done1 C hA;obtain⟨h5,R'',K''⟩:=ih K';refine⟨⟨h1,h2,h3,h4,h5⟩,R'',?_⟩;rw[List.append_assoc] at K'';exact K''
theorem Kahn.active (K:Kahn A N S D W R):S.active= !(W++R).isEmpty:=by
 unfold Srt.active;rw[K.rdy,K.pas,K.fin]
 cases W with
 | nil=>simp
 | cons a r=>
  have:decide ((D.length:Int) < (D.length:Int)+((a::r).length:Nat))=true:=decide_eq_true (by rw[List.length_cons];lia)
  rw[this];rfl
theorem zjH {S:Srt}(nd:S.names.Nodup)(x:Str):x∈zck S↔x∈S.names∧S.cnt x=0:=by
 unfold zck Srt.names;rw[List.mem_map,List.mem_map]
 constructor
 ·rintro⟨m,h,rfl⟩
  obtain⟨h1,h2⟩:=List.mem_filter.mp h;refine⟨⟨m,h1,rfl⟩,?_⟩;unfold Srt.cnt Srt.nd
  rw[zfY nd h1];exact eq_of_beq h2
 ·rintro⟨⟨m,h,rfl⟩,h2⟩
  refine⟨m,List.mem_filter.mpr ⟨h,?_⟩,rfl⟩;unfold Srt.cnt Srt.nd at h2
  rw[zfY nd h] at h2;rw[h2];rfl
theorem Gr.prep {F:Str→Prop}{S:Srt}{B:Nat}(G:Gr F N S)(hz:S.sm B)(hB:B≤1000):Kahn S.names N S.prep [] [] (zck S):=by
 have nd0:(zck S).Nodup:=(List.Sublist.map _ List.filter_sublist).nodup G.nd
 have ho:∀x,zdd N [] x=(N x).length:=fun x=>by unfold zdd;rw[List.countP_eq_length];simp
 have hr:=zjH G.nd;refine⟨rfl,G.suc,fun x=> ?_,nd0,fun x hx=>((hr x).mp hx).1,G.pas,G.fin,rfl,(fun _ h=>by exact mnE h),(fun _ h=>by exact mnE h),(fun x _ _=>by rw[ho];exact G.cnt x),fun x hx=> ?_,fun x hx h=>(hr x).mpr ⟨hx,?_⟩⟩
 ·have:=zn9 (k:=S.find x) hz
  show(S.at (S.find x)).2.2.length≤1000;exact Nat.le_trans ‹_› ‹_›
 ·have:=((hr x).mp hx).2
  rw[G.cnt] at this
  rw[ho];lia
 ·rw[G.cnt];rw[ho] at h;solve_by_elim (maxDepth:=4) [leK,ltK,slK,llK,kL]
end Mine
end
namespace Mine
section
variable {w:World}{Φ:Fm}{d:Nat}{H H':List Cell}{σ':List (Str×AV)}
noncomputable abbrev laB:List Stmt:=stB ((zby 12))
noncomputable abbrev laT:Expr:=stT ((zby 12))
theorem bdk {n:Nat}{N:List Int}{sv:AV}{i1 i2 k:Nat}(hv:∀n,Bd n sv)(h0:0 < n)(h1:i1 < n)(h2:i2 < n):Bde n (cU N sv i1 i2 k):=.cons (hv n) (.cons (.lst Bds.txts) (.cons (.lst (Bds.ints N)) (.cons (.lst Bds.txts) (.cons (.lst Bds.txts) (.cons .str (.cons (.lst Bds.txts) (.cons (.lst (zas _)) (.cons (.lst (zas _)) (.cons (.obj h0) (.cons (.obj h2) (.cons (.obj h1) (.cons .int .nil))))))))))))
theorem zm6 (E:List (Str×Str))(k:Nat)(hk:k≤E.length):cut none (some (k:Int)) (zab E)=zab (E.take k):=(zgf _ k).trans List.map_take.symm
theorem zbo (N:List Int):(zal N).length=N.length:=List.length_map ..
theorem znv {a1 a2:Slot→Nat}{S1 S2:Srt}{B i1 i2:Nat}{L:List (Nat×Cell)}{n:Str}{ps:List Str}(T:TW w)(D:Two L H i1 i2 a1 S1 a2 S2)(hz:S1.sm B)(hB:B+1+2 * ps.length≤900):
  ∃H' a1',(∀Φ:Fm,Φ.calm=true→SCc pW w (KK w) Φ (d+4) (.ref 121) (.obj i1:: .str n::txts ps) H .none H')∧Two L H' i1 i2 a1' (S1.add n ps) a2 S2:=by
 obtain⟨H',a1',call,A',Ap,W,e⟩:=zoS (d:=d) (n:=n) (ps:=ps) T D.A1 D.r1 hz hB;rw[D.e1] at call;exact⟨H',a1',call,D.left A' Ap W e ((ze4 S1 n ps).1.trans D.r1)⟩
theorem zl5 {a1 a2:Slot→Nat}{S1 S2:Srt}{B i1 i2:Nat}{L:List (Nat×Cell)}{n:Str}{ps:List Str}(T:TW w)(D:Two L H i1 i2 a1 S1 a2 S2)(hz:S2.sm B)(hB:B+1+2 * ps.length≤900):
  ∃H' a2',(∀Φ:Fm,Φ.calm=true→SCc pW w (KK w) Φ (d+4) (.ref 121) (.obj i2:: .str n::txts ps) H .none H')∧Two L H' i1 i2 a1 S1 a2' (S2.add n ps):=by
 obtain⟨H',a2',call,A',Ap,W,e⟩:=zoS (d:=d) (n:=n) (ps:=ps) T D.A2 D.r2 hz hB;rw[D.e2] at call;exact⟨H',a2',call,D.right A' Ap W e ((ze4 S2 n ps).1.trans D.r2)⟩
theorem Two.i1 {L:List (Nat×Cell)}{i1 i2:Nat}{a1 a2:Slot→Nat}{S1 S2:Srt}(D:Two L H i1 i2 a1 S1 a2 S2):H[i1]? =some (.inst 171 (a1 .dd))∧H[a1 .dd]? =some (.ns (zaM a1 S1)):=by have:=D.A1.dd;rw[D.e1] at this;exact⟨this.1,this.2.1⟩
theorem Two.i2 {L:List (Nat×Cell)}{i1 i2:Nat}{a1 a2:Slot→Nat}{S1 S2:Srt}(D:Two L H i1 i2 a1 S1 a2 S2):H[i2]? =some (.inst 171 (a2 .dd))∧H[a2 .dd]? =some (.ns (zaM a2 S2)):=by have:=D.A2.dd;rw[D.e2] at this;exact⟨this.1,this.2.1⟩
theorem zoJ:∃o fd,(KK w).lookup 121=some o∧o.data= .func fd:=by
 obtain⟨o,h1,h2⟩:=(zjb (P:=w.params)).at_;exact⟨o,_,h1,h2⟩
theorem zol {N:List Int}{sv:AV}{i1 i2 i0 k:Nat}{L:List (Nat×Cell)}{a1 a2:Slot→Nat}{S1 S2:Srt}(T:TW w)(hv:∀n,Bd n sv)(hN:N.length≤9)(hk:k < N.length)(D:Two L H i1 i2 a1 S1 a2 S2)(h1:S1.sm (4 * k))(h2:S2.sm (20 * k)):
  ∃H' a1' a2',(∀Φ:Fm,Φ.calm=true→SSs pW w (KK w) Φ (d+31) zbr laB (cU N sv i1 i2 k) H .next (cU N sv i1 i2 k) H')∧Two L H' i1 i2 a1' (zlB S1 ((zal N).getD k (q "",q ""))) a2' (zcj (zal N) k S2 ((zal N).getD k (q "",q ""))):=by
 have hkE:k < (zal N).length:=by rw[zbo];exact hk
 have hE9:(zal N).length≤9:=by rw[zbo];exact hN
 have hge:(zal N)[k]? =some ((zal N).getD k (q "",q "")):=by rw[List.getD_eq_getElem?_getD,List.getElem?_eq_getElem hkE];rfl
 generalize (zal N).getD k (q "",q "")=e at hge
 have hrow:(zab (zal N))[((k:Nat):Int).toNat]? =some (zaX e):=by rw[Int.toNat_natCast];unfold zab;rw[List.getElem?_map,hge];rfl
 have k9:k≤9:=Nat.le_of_lt (Nat.lt_of_lt_of_le hk hN);have k63:(k:Int) < 2 ^ 63:=znU (slK k9 rfl)
 have hcell:∀{Φ:Fm} {H:List Cell},SE pW w (KK w) Φ (d+31) zbr (exE (exE (stT (nthS 2 laB)))) (cU N sv i1 i2 k) H (zaX e) (cU N sv i1 i2 k) H:=fun {Φ H} =>SE.item (SE.name ⟨rfl,rfl⟩ rfl) (SE.name ⟨rfl,rfl⟩ rfl) .lst (Int.natCast_nonneg _) k63 hrow
 obtain⟨H1,b1,call1,D1⟩:=znv (d:=d+27) (n:=e.1) (ps:= [e.2]) T D h1 (leK (Nat.succ_le_succ (Nat.succ_le_succ (Nat.succ_le_succ (Nat.mul_le_mul_left 4 k9)))) rfl);obtain⟨H2,b2,call2,D2⟩:=znv (d:=d+27) (n:=e.1) (ps:= []) T D1 (zfH h1) (by simp;lia)
 have s1:∀Φ:Fm,Φ.calm=true→SS pW w (KK w) Φ (d+31) zbr (nthS 0 laB) (cU N sv i1 i2 k) H .next (cU N sv i1 i2 k) H1:=fun Φ hc=>by
  obtain⟨g1,g2⟩:=D.i1;exact SS.expr (fun _ _ _=>rfl) (SE.au zaB zmC zml zlx zgx (by decide+kernel) (SE.name ⟨rfl,rfl⟩ rfl) g1 g2 rfl zoJ (SG.star (SE.item (SE.name ⟨rfl,rfl⟩ rfl) (SE.name ⟨rfl,rfl⟩ rfl) .lst (Int.natCast_nonneg _) k63 hrow) (.lst .lst) (small rfl)) (call1 Φ hc))
 have s2:∀Φ:Fm,Φ.calm=true→SS pW w (KK w) Φ (d+31) zbr (nthS 1 laB) (cU N sv i1 i2 k) H1 .next (cU N sv i1 i2 k) H2:=fun Φ hc=>by
  obtain⟨g1,g2⟩:=D1.i1;exact SS.expr (fun _ _ _=>rfl) (SE.meth (SE.name ⟨rfl,rfl⟩ rfl) (GM.inst zaB zmC zml g1 g2 rfl) zji (SG.some (SL.cons (SE.item (SE.item (SE.name ⟨rfl,rfl⟩ rfl) (SE.name ⟨rfl,rfl⟩ rfl) .lst (Int.natCast_nonneg _) k63 hrow) SE.int .lst (by decide) (by decide) rfl) SL.nil)) (call2 Φ hc).sem)
 -- the names of the rows before
 have dD:∀{H:List Cell} {a1 a2:Slot→Nat} {S1 S2:Srt} {L:List (Nat×Cell)},Two L H i1 i2 a1 S1 a2 S2→Bde H.length (cU N sv i1 i2 k):=fun D=>bdk hv (by have:=zag D.i1.1;exact kL ‹_› rfl) (zag D.i1.1) (zag D.i2.1)
 have test:∀Φ:Fm,Φ.calm=true→ST pW w (KK w) Φ (d+31) zbr (stT (nthS 2 laB)) (cU N sv i1 i2 k) H2 (!((((zal N).take k).map (·.1)).any (· ==e.1))) (cU N sv i1 i2 k) H2:=fun Φ hc=>by
  have ef:(zab ((zal N).take k)).filterMap (gRow (fun _=>true) fun e=>.str e.1)=txts (((zal N).take k).map (·.1)):=by
   rw[zhZ (p:=fun _=>true) (f:=fun e=>.str e.1) (fun e=>rfl)]
   unfold txts;rw[List.map_map,List.filter_eq_self.mpr (fun _ _=>rfl)];rfl
  have hz:(zab ((zal N).take k)).length≤9:=by unfold zab;rw[List.length_map];exact Nat.le_trans (List.length_take_le k _) k9
  refine ST.cmp (SE.item (SE.item (SE.name ⟨rfl,rfl⟩ rfl) (SE.name ⟨rfl,rfl⟩ rfl) .lst (Int.natCast_nonneg _) k63 hrow) SE.int .lst (by decide) (by decide) rfl) (SE.bd fun hH=>SE.ofRun (ys:=txts (((zal N).take k).map (·.1))) (xs:=zab ((zal N).take k)) (c:=fun p=>.iter (.lst (zab ((zal N).take k))) p) ((SE.af (SE.name ⟨rfl,rfl⟩ rfl) SPart.none (SPart.some (SE.name ⟨rfl,rfl⟩ rfl)) .lst (by unfold zab;rw[List.length_map,sizeLine_eq];exact leK ‹_› rfl)).eq (congrArg AV.lst (zm6 _ _ (by exact Nat.le_of_lt ‹_›)))) (.list .lst) hH (dD D2) ?run) (SCmp.ag .lst);rw[←ef];refine zaW (σc:= []) hc (.list .lst) (.lst (zas _)) hH (dD D2) (zaS rfl (by decide+kernel) rfl .nil) (by exact leK ‹_› rfl) (gRow (fun _=>true) fun e=>.str e.1) (fun v hv' H' hH' ext=> ?_);obtain⟨e',_,rfl⟩:=List.mem_map.mp hv';exact⟨[(q "file",.str e'.1),(q "need",.str e'.2)],SA.tuple hc (.lst .lst) (SAs.cons (SA.name (.inl rfl) .nil) (SAs.cons (SA.name (.inl rfl) (.there rfl .nil)) SAs.nil)),(fun y u z=>by exact nsE z),.inl ⟨_,rfl,STs.nil,SE.name ⟨rfl,rfl⟩ rfl,.str⟩⟩
 by_cases hin:((((zal N).take k).map (·.1)).any (· ==e.1))=true
 ·have e2:zcj (zal N) k S2 e=S2:=if_pos hin
  rw[e2];exact⟨H2,b2,a2,fun Φ hc=>SSs.cons (s1 Φ hc) (SSs.cons (s2 Φ hc) (SSs.cons (SS.ifF ((test Φ hc).eq (by rw[hin];rfl)) SSs.nil) SSs.nil)),D2⟩
 ·have e2:zcj (zal N) k S2 e=(S2.add e.1 (zar (zal N) e.1)).add e.1 []:=if_neg hin
  rw[e2];have m1:20 * k≤180:=Nat.mul_le_mul_left 20 k9;have m2:2 * (zar (zal N) e.1).length≤18:=Nat.mul_le_mul_left 2 (Nat.le_trans (zex (zal N) e.1) hE9);obtain⟨H3,b3,call3,D3⟩:=zl5 (d:=d+27) (n:=e.1) (ps:=zar (zal N) e.1) T D2 h2 (leK (Nat.add_le_add (Nat.succ_le_succ m1) m2) rfl);obtain⟨H4,b4,call4,D4⟩:=zl5 (d:=d+27) (n:=e.1) (ps:= []) T D3 (zfH h2) (leK (Nat.succ_le_succ (Nat.add_le_add (Nat.succ_le_succ m1) m2)) rfl);refine⟨H4,b2,b4,fun Φ hc=>SSs.cons (s1 Φ hc) (SSs.cons (s2 Φ hc) (SSs.cons (SS.ifT ((test Φ hc).eq (by rw[Bool.eq_false_iff.mpr hin];rfl)) (SSs.cons (σ1:=cU N sv i1 i2 k) (cn:=H3) ?a (SSs.cons ?b SSs.nil))) SSs.nil)),D4⟩
  case a=>
   obtain⟨g1,g2⟩:=D2.i2
   have ef:(zab (zal N)).filterMap (gRow (fun x=>x.1==e.1) fun e=>.str e.2)=txts (zar (zal N) e.1):=by
    rw[zhZ (p:=fun x=>x.1==e.1) (f:=fun e=>.str e.2) (fun e=>rfl)]
    unfold zar txts;rw[List.map_map];rfl
   have hz:(zab (zal N)).length≤9:=by unfold zab;rw[List.length_map];assumption
   refine SS.expr (fun _ _ _=>rfl) (SE.au zaB zmC zml zlx zgx (by decide+kernel) (SE.name ⟨rfl,rfl⟩ rfl) g1 g2 rfl zoJ (SG.bh (SE.item (SE.item (SE.name ⟨rfl,rfl⟩ rfl) (SE.name ⟨rfl,rfl⟩ rfl) .lst (Int.natCast_nonneg _) k63 hrow) SE.int .lst (by decide) (by decide) rfl) (SE.bd fun hH=>SE.ofRun (ys:=txts (zar (zal N) e.1)) (xs:=zab (zal N)) (c:=fun p=>.iter (.lst (zab (zal N))) p) (SE.name ⟨rfl,rfl⟩ rfl) (.list .lst) hH (dD D2) ?run2) (.lst .lst) (by rw[zaa,sizeLine_eq];exact leK (Nat.le_trans (zex (zal N) e.1) hE9) rfl)) (call3 Φ hc));rw[←ef];refine zaW (σc:= [(q "rows",.lst (zab (zal N))),(q "k",.int k)]) hc (.list .lst) (.lst (zas _)) hH (dD D2) (zaS rfl (by decide+kernel) rfl (.cons rfl rfl (.cons rfl rfl .nil))) (by exact leK ‹_› rfl) (gRow (fun x=>x.1==e.1) fun e=>.str e.2) (fun v hv' H' hH' ext=> ?_);obtain⟨e',_,rfl⟩:=List.mem_map.mp hv';refine⟨[(q "rows",.lst (zab (zal N))),(q "k",.int k),(q "file",.str e'.1),(q "need",.str e'.2)],SA.tuple hc (.lst .lst) (SAs.cons (SA.name (.inl rfl) (.there rfl (.there rfl .nil))) (SAs.cons (SA.name (.inl rfl) (.there rfl (.there rfl (.there rfl .nil)))) SAs.nil)),(fun y u z=>zah (τ:= [(q "file",AV.str e'.1),(q "need",.str e'.2)]) z),?_⟩;refine zfN (g:=gRow (fun x=>x.1==e.1) fun e=>.str e.2) (v:=zaX e') (b:=e'.1==e.1) (y:=.str e'.2) (STs.one ?tt) rfl ?ee .str
   case tt=>exact ST.cmp (SE.name ⟨rfl,rfl⟩ rfl) (SE.item (SE.item (SE.name ⟨rfl,rfl⟩ rfl) (SE.name ⟨rfl,rfl⟩ rfl) .lst (Int.natCast_nonneg _) k63 hrow) SE.int .lst (by decide) (by decide) rfl) SCmp.ak
   case ee=>exact SE.name ⟨rfl,rfl⟩ rfl
  case b=>
   obtain⟨g1,g2⟩:=D3.i2;exact SS.expr (fun _ _ _=>rfl) (SE.meth (SE.name ⟨rfl,rfl⟩ rfl) (GM.inst zaB zmC zml g1 g2 rfl) zji (SG.some (SL.cons (SE.item (SE.item (SE.name ⟨rfl,rfl⟩ rfl) (SE.name ⟨rfl,rfl⟩ rfl) .lst (Int.natCast_nonneg _) k63 hrow) SE.int .lst (by decide) (by decide) rfl) SL.nil)) (call4 Φ hc).sem)
theorem zjr {N:List Int}{sv:AV}{i1 i2 i0:Nat}{L:List (Nat×Cell)}(T:TW w)(hv:∀n,Bd n sv)(hN:N.length≤9)(hL:∀jc∈L,jc.1≠i0):∀(n k:Nat) (H:List Cell) (a1 a2:Slot→Nat),k+n=N.length→Two ((i0,.riter N.length k)::L) H i1 i2 a1 (fstS (zal N) k) a2 (sndS (zal N) k) →
  ∃H' a1' a2',(∀Φ:Fm,Φ.calm=true→SFor pW w (KK w) Φ (d+31) zbr laT i0 laB [] (lσ8 N sv i1 i2) H .next (lσ8 N sv i1 i2) H')∧Two L H' i1 i2 a1' (fstS (zal N) N.length) a2' (sndS (zal N) N.length):=by
 intro n
 induction n with
 | zero=>
  rintro k H a1 a2 hk D
  have e:k=N.length:=hk;subst e;obtain⟨k1,_,_⟩:=D.keep _ List.mem_cons_self;have D':=D.turn (c':=.junk) hL;exact⟨H.set i0 .junk,a1,a2,fun Φ hc=>SFor.out (SN.bq hc k1) SSs.nil,D'.less⟩
 | succ n ih=>
  rintro k H a1 a2 hk D
  obtain⟨k1,_,_⟩:=D.keep _ List.mem_cons_self;have D1:=D.turn (c':=.riter N.length (k+1)) hL;obtain⟨l1,_,_⟩:=D1.keep _ List.mem_cons_self;obtain⟨H2,b1,b2,body,D2⟩:=zol (d:=d) (i0:=i0) (k:=k) T hv hN (by lia) D1 (zlA _ k) (zkO _ (by rw[zbo];exact hN) k);obtain⟨H',c1,c2,loop,D'⟩:=ih (k+1) H2 b1 b2 (by exact rot4 ‹_›) D2;exact⟨H',c1,c2,fun Φ hc=>SFor.turn (SN.a0 k1 (by lia)) l1 .riter (SA.name (σ':=cU N sv i1 i2 k) (.inr rfl) (.there rfl (.there rfl (.there rfl (.there rfl (.there rfl (.there rfl (.there rfl (.there rfl (.there rfl (.there rfl (.there rfl (.there rfl .nil))))))))))))) (SSs.weaken (body Φ hc) fun y v e=>zah (τ:= [(q "k",AV.int k)]) e) (.inl rfl) (loop Φ hc),D'⟩
theorem l_12 {N:List Int}{sv:AV}{i1 i2:Nat}{a1 a2:Slot→Nat}(T:TW w)(hv:∀n,Bd n sv)(hN:N.length≤9)(D:Two [zks] H i1 i2 a1 srt0 a2 srt0):∃H' a1' a2',(∀Φ:Fm,Φ.calm=true→SS pW w (KK w) Φ (d+31) zbr (zby 12) (lσ8 N sv i1 i2) H .next (lσ8 N sv i1 i2) H')∧Two [zks] H' i1 i2 a1' (fstS (zal N) N.length) a2' (sndS (zal N) N.length):=by
 have h0:0 < H.length:=zag (D.keep zks (by exact List.mem_cons_self)).1;obtain⟨H',a1',a2',loop,D'⟩:=zjr (d:=d) (i0:=H.length) T hv hN (fun jc h=>by rw[List.mem_singleton] at h;subst h;exact Nat.ne_of_lt h0) N.length 0 (H++ [.riter N.length 0]) a1 a2 (by exact Nat.add_comm _ _) D.more
 have hl:(zab (zal N)).length=N.length:=by unfold zab;rw[List.length_map,zbo]
 refine⟨H',a1',a2',fun Φ hc=>SS.for (SE.call (SE.bltn T ⟨rfl,rfl⟩ rfl zey zeZ) .type (SG.some (SL.cons ((SE.call (SE.bltn T ⟨rfl,rfl⟩ rfl zjT zkt) .builtin (SG.some (SL.cons (SE.name ⟨rfl,rfl⟩ rfl) SL.nil)) (SC.ap .lst (by rw[hl,sizeLine_eq];exact leK ‹_› rfl))).eq (by rw[hl])) SL.nil)) SC.range) (SIt.range (by exact leK ‹_› rfl)) (loop Φ hc),D'⟩
structure GraphOk (E:List (Str×Str))(S1 S2:Srt)(o1 o2:Option (List Str))(R2:List Str):Prop where
 O1:Out S1.names S1.succ S1.names [] o1
 i1:o1.isSome=zdB E
 T1:Told S1.prep (zbT E)
 O2:Out S2.names S2.succ S2.names [] o2
 i2:o2.isSome=zdB E
 D2:Dealt S2.prep [] R2
 B2:Obo E (srt (uniq (zau E))) [] R2
 two:2≤(uniq (zau E)).length
noncomputable def lσ9 (N:List Int)(sv:AV)(i1 i2:Nat):List (Str×AV):= [(q "script",sv),(q "files",.lst (txts zaL)),(q "numbers",.lst (zaj N)),(q "texts",.lst (txts (zak N))),(q "laid",.lst (txts (zai N))),(q "sent",.str (zba N)),(q "heard",.lst (txts (zai N))),(q "words",.lst (zab (zaH N))),(q "rows",.lst (zab (zal N))),(q "bare",.obj 0),(q "second",.obj i2),(q "first",.obj i1),(q "rounds",.lst (zbU (zbT (zal N)))),(q "ring",.bool (zdB (zal N)))]
noncomputable def du (N:List Int)(sv:AV)(i1 i2:Nat)(raw:AV):List (Str×AV):= [(q "script",sv),(q "files",.lst (txts zaL)),(q "numbers",.lst (zaj N)),(q "texts",.lst (txts (zak N))),(q "laid",.lst (txts (zai N))),(q "sent",.str (zba N)),(q "heard",.lst (txts (zai N))),(q "words",.lst (zab (zaH N))),(q "rows",.lst (zab (zal N))),(q "bare",.obj 0),(q "second",.obj i2),(q "first",.obj i1),(q "rounds",.lst (zbU (zbT (zal N)))),(q "ring",.bool (zdB (zal N))),(q "raw",raw)]
theorem Bds.rds {n:Nat}(R:List (List Str)):Bds n (zbU R):=Bds.of fun x hx=>by obtain⟨r,_,rfl⟩:=List.mem_map.mp hx;exact .lst Bds.txts
theorem bd9 {n:Nat}{N:List Int}{sv:AV}{i1 i2:Nat}(hv:Bd n sv)(h0:0 < n)(h1:i1 < n)(h2:i2 < n):Bde n (lσ9 N sv i1 i2):=.cons hv (.cons (.lst Bds.txts) (.cons (.lst (Bds.ints N)) (.cons (.lst Bds.txts) (.cons (.lst Bds.txts) (.cons .str (.cons (.lst Bds.txts) (.cons (.lst (zas _)) (.cons (.lst (zas _)) (.cons (.obj h0) (.cons (.obj h2) (.cons (.obj h1) (.cons (.lst (Bds.rds _)) (.cons .bool .nil)))))))))))))
theorem l_13 {N:List Int}{sv:AV}{i1 i2:Nat}(T:TW w)(hc:Φ.calm=true)(hN:N.length≤9):SS pW w (KK w) Φ (d+31) zbr (zby 13) (lσ8 N sv i1 i2) H .next (lσ9 N sv i1 i2) H:=SS.bd fun hH=>
 SS.assign (fun _ _ _=>rfl) (SE.call (SE.glob T ⟨rfl,rfl⟩ rfl zg6) zhu (SG.some (SL.cons (SE.name ⟨rfl,rfl⟩ rfl) SL.nil)) (zna T hc hH (by rw[zbo];exact leK ‹_› rfl)).sem) (SA.tuple hc .tup (SAs.cons (SA.name (.inl rfl) (.there rfl (.there rfl (.there rfl (.there rfl (.there rfl (.there rfl (.there rfl (.there rfl (.there rfl (.there rfl (.there rfl (.there rfl .nil))))))))))))) (SAs.cons (SA.name (.inl rfl) (.there rfl (.there rfl (.there rfl (.there rfl (.there rfl (.there rfl (.there rfl (.there rfl (.there rfl (.there rfl (.there rfl (.there rfl (.there rfl .nil)))))))))))))) SAs.nil)))
theorem zjF (E:List (Str×Str)):(zbT E).length≤5:=by
 unfold zbT;refine Nat.le_trans (List.length_filter_le _ _) ?_
 rw[List.length_map,List.length_range];exact Nat.le_refl _
theorem Obo.len_le {E:List (Str×Str)}{names known res:List Str}(h:Obo E names known res):known.Nodup→(∀n∈known,n∈names)→res.length≤names.length:=by
 induction h with
 | stop _=>intro nd sub;exact List.Nodup.length_le_of_subset nd sub
 | @step known n r res ha _ ih=>
  intro nd sub
  have hn:n∈zcF E names known:=by rw[ha];simp
  unfold zcF at hn;obtain⟨h1,h2⟩:=List.mem_filter.mp hn;rw[Bool.and_eq_true,Bool.not_eq_true'] at h2
  have h3:n∉known:=fun z=>by
   have:=h2.1;unfold isIn at this;rw[List.any_eq_false] at this;exact this n z (by exact beq_self_eq_true _)
  refine ih ?_ fun m hm=> ?_
  ·rw[List.nodup_append];exact⟨nd,by exact List.nodup_cons.mpr ⟨List.not_mem_nil,List.nodup_nil⟩,fun a hA b hb=>by simp at hb;subst hb;rintro rfl;exact h3 hA⟩
  ·rcases List.mem_append.mp hm with z | z
   ·exact sub m z
   ·simp at z;subst z;exact h1
theorem znz (ts:List Str):(uniq ts).length≤ts.length:=by
 have:∀(ts acc:List Str),(ts.foldl addT acc).length≤acc.length+ts.length:=by
  intro ts
  induction ts with
  | nil=>intro acc;exact Nat.le_refl _
  | cons t r ih=>
   intro acc
   have h1:(addT acc t).length≤acc.length+1:=by unfold addT;split<;>simp
   have:=ih (addT acc t)
   rw[List.foldl_cons,List.length_cons];lia
 have:=this ts []
 rw[List.length_nil,Nat.zero_add] at this;exact this
theorem l_14 {N:List Int}{sv:AV}{i1 i2:Nat}{a1 a2:Slot→Nat}{S1 S2:Srt}{o1 o2:Option (List Str)}{R2:List Str}(T:TW w)(hN:N.length≤9)(D:Two [zks] H i1 i2 a1 S1 a2 S2)(h1:S1.sm 900)(h2:S2.sm 900)(G:GraphOk (zal N) S1 S2 o1 o2 R2):
  ∃H',(∀Φ:Fm,Φ.calm=true→SS pW w (KK w) Φ (d+31) zbr (zby 14) (lσ9 N sv i1 i2) H .next (lσ9 N sv i1 i2) H')∧H'[0]? =some (.dct (zax zc8) none)∧H.length≤H'.length:=by
 have hE:(zal N).length≤20:=by rw[zbo];exact leK ‹_› rfl
 have hu:(uniq (zau (zal N))).length≤50:=Nat.le_trans (znz _) (by rw[zjc,zbo];lia)
 have hR2:R2.length≤50:=by
  have:=G.B2.len_le List.nodup_nil (fun n h=>by cases h);rw[(zaC _).length_eq] at this;exact Nat.le_trans ‹_› ‹_›
 obtain⟨H1,r1,call1,l1,Ap1⟩:=zoP (d:=d+27) T D.A1 D.r1 h1 (by decide) G.O1 G.T1 (by have:=zjF (zal N);exact leK ‹_› rfl)
 have A2:SorAt H1 a2 S2:=D.A2.frame fun t ht=>Ap1.2 _ (D.A2.lt ht) fun s hs=>D.sep s t hs ht
 obtain⟨H2,r2,call2,l2,Ap2⟩:=zn7 (d:=d+27) T A2 D.r2 h2 (by decide) G.O2 G.D2 (by exact leK ‹_› rfl);obtain⟨k1,k2,k3⟩:=D.keep zks List.mem_cons_self
 have b1:H1[0]? =some (.dct (zax zc8) none):=by rw[Ap1.2 0 (zag k1) k2];exact k1
 have b2:H2[0]? =some (.dct (zax zc8) none):=by rw[Ap2.2 0 (zag b1) k3];exact b1
 rw[D.e1] at call1;rw[D.e2] at call2;refine⟨H2,fun Φ hc=> ?_,b2,Nat.le_trans Ap1.1 Ap2.1⟩
 refine SS.ifF (ST.bool (SAll.orGo (ST.cmp (SE.call (SE.glob T ⟨rfl,rfl⟩ rfl zjW) zkn (SG.some (SL.cons (SE.name ⟨rfl,rfl⟩ rfl) SL.nil)) (call1 Φ hc).sem) (SE.tuple (SL.cons (SE.name ⟨rfl,rfl⟩ rfl) (SL.cons (SE.name ⟨rfl,rfl⟩ rfl) SL.nil)) (small rfl)) (SCmp.bA (n:=4) ?e1))
  (SAll.orGo (ST.cmp (SE.call (SE.glob T ⟨rfl,rfl⟩ rfl zih) ziz (SG.some (SL.cons (SE.name ⟨rfl,rfl⟩ rfl) SL.nil)) (call2 Φ hc).sem) (SE.tuple (SL.cons (SE.bd fun hH=>SE.call (SE.glob T ⟨rfl,rfl⟩ rfl zd6) zea (SG.some (SL.cons (SE.name ⟨rfl,rfl⟩ rfl) SL.nil)) (zpl T hc hH hE G.two hu hR2 G.B2).sem) (SL.cons (SE.name ⟨rfl,rfl⟩ rfl) SL.nil)) (small rfl)) (SCmp.bA (n:=4) ?e2)) SAll.aV))) SSs.nil
 case e1=>
  rw[G.i1]
  exact .cons (.lst (n:=3) (.obj l1) .lst (by
   have up:∀R:List (List Str),Eqvs H1 3 (zbU R) (zbU R):=by
    intro R
    induction R with
    | nil=>exact .nil
    | cons r R ih=>exact .cons (.lst .lst .lst (zgd H1 2 r)) ih
   exact up _)) (.cons .bool .nil)
 case e2=>
  rw[G.i2];exact .cons (.lst (n:=3) (.obj l2) .lst (zgd _ _ _)) (.cons .bool .nil)
noncomputable def zfC (x:Int):Str:=if zc0 (w1 x)=true then zdE (w1 x) else zaR (ixA x)
noncomputable def zaF (N:List Int):List AV:=N.map fun x=>.str (zfC x)
theorem l_15 {N:List Int}{sv:AV}{i1 i2:Nat}(T:TW w)(hc:Φ.calm=true)(hN:N.length≤9)(hN1:1≤N.length)(hv:∀n,Bd n sv)(h0:0 < H.length)(h1:i1 < H.length)(h2:i2 < H.length):SS pW w (KK w) Φ (d+31) zbr (zby 15) (lσ9 N sv i1 i2) H .next (du N sv i1 i2 (.lst (zaF N))) H:=SS.bd fun hH=>by
 have hN':N.length≤20:=by exact leK ‹_› rfl
 have hcl:=zbP N;have hll:=zb6 N;have bd:=bd9 (N:=N) (i1:=i1) (i2:=i2) (hv H.length) h0 h1 h2
 have e:(txts ((zai N).map dotS)).filterMap (fun v=>if zbW (zam v)=true then some (AV.str (zaZ (za1 (q "/s") ((Txt.split (zam v) (q " ")).getD 0 (q ""))))) else none)=zaF N:=by
  rw[zha (p:=zbW) (f:=fun s=>.str (zaZ (za1 (q "/s") ((Txt.split s (q " ")).getD 0 (q ""))))),zhj];unfold zak zaF;rw[List.map_map,List.map_map]
  refine List.map_congr_left fun x _=> ?_
  show AV.str (zaZ (za1 (q "/s") ((Txt.split (dotS (txt2 (w1 x) (w2 x))) (q " ")).getD 0 (q ""))))=_;rw[(zfW x).sp'];exact congrArg AV.str (way1 x).n4
 refine SS.ofRun (ys:=zaF N) (xs:=txts ((zai N).map dotS)) (c:=fun p=>.iter (.lst (txts ((zai N).map dotS))) p) (x:=.lst (txts ((zai N).map dotS))) ((SE.meth (SE.name ⟨rfl,rfl⟩ rfl) (GM.str PySem.F.slot_str_split rfl) .builtin (SG.some (SL.cons SE.str SL.nil)) (SC.splitS rfl (ziK hN'))).eq (congrArg (fun l=>AV.lst (txts l)) (zfr hN1))) (.list .lst) hH bd ?run rfl (.there rfl (.there rfl (.there rfl (.there rfl (.there rfl (.there rfl (.there rfl (.there rfl (.there rfl (.there rfl (.there rfl (.there rfl (.there rfl (.there rfl .nil)))))))))))))) rfl;rw[←e];refine zaW (σc:= []) hc (.list .lst) (.lst Bds.txts) hH bd (zaS rfl (by decide+kernel) rfl .nil) (by rw[zaa,List.length_map];lia) (fun v=>if zbW (zam v)=true then some (AV.str (zaZ (za1 (q "/s") ((Txt.split (zam v) (q " ")).getD 0 (q ""))))) else none) (fun v hv' H' hH' ext=> ?_);obtain⟨s,hs,rfl⟩:=List.mem_map.mp hv';refine⟨[(q "row",.str s)],SA.name (.inl rfl) .nil,(fun y u z=>by cases z),?_⟩
 have ts:STs pW w (KK w) Φ (d+31) (exS (stT ((zby 15)))) ((exG (stT ((zby 15)))).ifs) [(q "row",.str s)] H' (zbW s) [(q "row",.str s)] H':=
  STs.one (ST.cmp (SE.name ⟨rfl,rfl⟩ rfl) (SE.list (SL.cons SE.str (SL.cons SE.str SL.nil)) (small rfl)) (SCmp.ag (zs:= [q "",q ".."]) .lst))
 cases hk:zbW s with
 | false=>rw[hk] at ts;exact .inr ⟨by show(if zbW s=true then _ else none)=none;rw[hk];rfl,ts⟩
 | true=>
  rw[hk] at ts
  have hm:s∈(zak N).map dotS:=by rw[←zhj];exact List.mem_filter.mpr ⟨hs,hk⟩
  obtain⟨t,ht,rfl⟩:=List.mem_map.mp hm;obtain⟨x,_,rfl⟩:=List.mem_map.mp ht;have hsp:Txt.split (dotS (zbJ x)) (q " ")= [dotS (w1 x),w2 x]:=(zfW x).sp';have hl:(dotS (zbJ x)).length≤100000:=Nat.le_trans (zfW x).row.len' (by decide);have a:=way1 x;have lw:(dotS (w1 x)).length≤1000:=Nat.le_trans a.len' (by decide);have lj:(za1 (q "/s") (dotS (w1 x))).length≤900:=zeF (a:=2) (Nat.le_refl 2) a.len' (by decide)
  have v0:(txts (Txt.split (dotS (zbJ x)) (q " ")))[(0:Int).toNat]? =some (.str (dotS (w1 x))):=by rw[hsp];rfl
  refine .inl ⟨_,by show(if zbW (dotS (zbJ x))=true then _ else none)=some (AV.str (zaZ (za1 (q "/s") (dotS (w1 x)))));rw[if_pos hk];show some (AV.str (zaZ (za1 (q "/s") ((Txt.split (dotS (zbJ x)) (q " ")).getD 0 (q "")))))=_;rw[hsp];rfl,ts,?_,.str⟩;exact SE.call (SE.glob T ⟨rfl,rfl⟩ rfl zcB) zcD (SG.some (SL.cons (SE.call (SE.glob T ⟨rfl,rfl⟩ rfl zly) zl0 (SG.some (SL.cons SE.str (SL.cons (SE.item (SE.meth (SE.name ⟨rfl,rfl⟩ rfl) (GM.str PySem.F.slot_str_split rfl) .builtin (SG.some (SL.cons SE.str SL.nil)) (SC.splitS rfl hl)) SE.int .lst (by decide) (by decide) v0) SL.nil))) (ziA T hc hH' a.st' (by decide) (by decide) lw).sem) SL.nil)) (zce T hc hH' lj).sem
end
section
variable {E:zaN}{S:Srt}{A:List Str}{N:Str→List Str}{D W R:List Str}
theorem GrE.closed (G:GrE E S):zhB S.names (zar E):=fun n x h=>by
 have:=zaJ.mp h;exact⟨(G.ends n).mpr (List.mem_flatMap.mpr ⟨_,this,by exact List.mem_cons_self⟩),(G.ends x).mpr (List.mem_flatMap.mpr ⟨_,this,by exact List.mem_cons_of_mem _ List.mem_cons_self⟩)⟩
noncomputable def zh0 (E:zaN)(t n:Nat):List (List Str):=((List.range' t n).map fun k:Nat=>zaI (runL E 5) k).filter fun r=> !r.isEmpty
theorem zk2 {k:Nat}(hk:k≤4)(h:∀m∈zau E,¬ (Wk E k m∧ ¬ Wk E (k+1) m)):zaI (runL E 5) (k:Int)= []:=by
 have p:=zaC (((runL E 5).map (·.1)).filter fun s=>lget (runL E 5) s==some (k:Int))
 cases z:zaI (runL E 5) (k:Int) with
 | nil=>rfl
 | cons m r=>
  have hm:m∈zaI (runL E 5) (k:Int):=by rw[z];simp
  have hh:=(zgK E hk).mp (p.mem_iff.mp hm);exact absurd hh.2 (h m hh.1)
theorem zmu:∀(n t:Nat),t+n=5→(∀m∈zau E,¬ (Wk E t m∧ ¬ Wk E (t+1) m))→zh0 E t n= []:=by
 intro n
 induction n with
 | zero=>
  rintro _ _ _
  exact rfl
 | succ n ih9=>
  rintro t ht h
  have ih:=ih9 (t+1) (by exact rot4 ‹_›) fun m _ ⟨h1,h2⟩=>by
   obtain⟨g,hg,w,nw⟩:=h1.down h2;exact h g hg ⟨w,nw⟩
  unfold zh0 at ih ⊢;rw[List.range'_succ,List.map_cons,List.filter_cons,zk2 (by lia) h];exact ih
theorem znA (hA:∀x,x∈A↔x∈zau E)(hA5:A.length≤5)(C:zhB A (zar E)):∀(n t:Nat) (S:Srt) (D R:List Str),t+n=5→Kahn A (zar E) S D [] R→(∀x∈A,x∈D↔ ¬ Wk E t x)→Told S (zh0 E t n):=by
 intro n
 induction n with
 | zero=>
  intro t S D R ht K hD
  have e:t=5:=by assumption
  subst e
  have hR:R= []:=by
   cases R with
   | nil=>rfl
   | cons x r=>
    have hx:x∈D++([]++x::r):=by exact List.mem_append_right _ List.mem_cons_self
    have nd:=K.nd;rw[List.nodup_append] at nd;have hxA:=K.sub x hx
    have hxD:x∉D:=fun z=>nd.2.2 x z x (by exact List.mem_cons_self) rfl
    have w5:Wk E 5 x:=Classical.byContradiction fun z=>hxD ((hD x hxA).mpr z)
    obtain⟨g,hg,wg⟩:=w5.six hA5 fun x hx=>(hA x).mpr hx
    have hgA:=(C x g (zaJ.mpr hg)).2;exact absurd wg ((hD g hgA).mp (zcl.mp (K.dn x hx) g (zaJ.mpr hg)))
  subst hR;exact .stop K.rdy (by exact Nat.zero_le _) (by rw[K.active];rfl)
 | succ n ih=>
  intro t S D R ht K hD
  have hR:∀x,x∈R↔x∈zau E∧Wk E t x∧ ¬ Wk E (t+1) x:=fun x=>by
   have nd:=K.nd;rw[List.nodup_append] at nd
   constructor
   ·intro h
    have hx:x∈D++([]++R):=by simp[h]
    have hxA:=K.sub x hx
    have hxD:x∉D:=fun z=>nd.2.2 x z x (by simpa using h) rfl
    refine⟨(hA x).mp hxA,Classical.byContradiction fun z=>hxD ((hD x hxA).mpr z),fun⟨g,hg,wg⟩=> ?_⟩;exact(hD g (C x g (zaJ.mpr hg)).2).mp (zcl.mp (K.dn x hx) g (zaJ.mpr hg)) wg
   ·rintro⟨h0,h1,h2⟩
    have hxA:=(hA x).mpr h0;have:=K.fr x hxA (zcl.mpr fun g hg=>(hD g (C x g hg).2).mpr fun wg=>h2 ⟨g,zaJ.mp hg,wg⟩)
    rcases List.mem_append.mp this with z | z
    ·exact absurd h1 ((hD x hxA).mp z)
    ·simpa using z
  have ndR:R.Nodup:=by have nd:=K.nd;rw[List.nodup_append] at nd;simpa using nd.2.1
  have hRl:R.length≤5:=Nat.le_trans (List.Nodup.length_le_of_subset ndR fun x hx=>K.sub x (by simp[hx])) hA5
  by_cases hne:R= []
  ·rw[zmu (n+1) t ht fun m hm ⟨h1,h2⟩=>by
    have:=(hR m).mpr ⟨hm,h1,h2⟩
    rw[hne] at this;cases this]
   subst hne;exact .stop K.rdy (by exact Nat.zero_le _) (by rw[K.active];rfl)
  ·have K1:=K.got
   have K2:=K1.got
   have K2':Kahn A (zar E) ((S.got R).got []) D (R++ []) []:=by simpa using K2
   obtain⟨hd,R',K3⟩:=K2'.dones C (by exact leK ‹_› rfl) R
   have hD':∀x∈A,x∈D++R↔ ¬ Wk E (t+1) x:=fun x hx=>by
    rw[List.mem_append,hD x hx,hR]
    constructor
    ·rintro(h | h)
     ·exact fun z=>h z.pred
     ·exact h.2.2
    ·intro h
     by_cases z:Wk E t x
     ·exact .inr ⟨(hA x).mp hx,z,h⟩
     ·exact .inl z
   have rest:=ih (t+1) _ _ _ (by exact rot4 ‹_›) K3 hD'
   have er:zaI (runL E 5) (t:Int)=srt R:=by
    have nd1:(((runL E 5).map (·.1)).filter fun s=>lget (runL E 5) s==some (t:Int)).Nodup:=by
     refine List.Nodup.sublist List.filter_sublist ?_
     rw[zec];exact zfn _
    have p:(((runL E 5).map (·.1)).filter fun s=>lget (runL E 5) s==some (t:Int)).Perm R:=(List.perm_ext_iff_of_nodup nd1 ndR).mpr fun x=>by rw[zgK E (by lia),hR]
    exact zbt (((zaC _).trans p).trans (zaC R).symm) (zb0 _) (zb0 _)
   have es:zh0 E t (n+1)=srt R::zh0 E (t+1) n:=by
    unfold zh0;rw[List.range'_succ,List.map_cons,List.filter_cons,er]
    have:(srt R).isEmpty=false:=by
     cases z:srt R with
     | nil=>have:=(zaC R).length_eq;rw[z] at this;exact absurd (List.length_eq_zero_iff.mp this.symm) hne
     | cons _ _=>rfl
    rw[this];rfl
   rw[es]
   have ne:(R.isEmpty)=false:=by cases R with | nil=>exact absurd rfl hne | cons _ _=>rfl
   refine .step K.rdy (by exact leK ‹_› rfl) (by rw[K.active,List.nil_append,ne];rfl) (fun x hx=>by rw[K.names];exact K.sub x (by simp[hx])) (by rw[K1.active];simp[ne]) hd rest
theorem zgb {l:List Str}{p:Str→Bool}(h:l.Pairwise fun a b=>leS a b=true):(l.filter p).Pairwise fun a b=>leS a b=true:=List.Pairwise.sublist List.filter_sublist h
theorem zeh (ss:List Str)(s:Str):isIn ss s=true↔s∈ss:=by
 unfold isIn;rw[List.any_eq_true];exact⟨fun⟨x,h,e⟩=>eq_of_beq e▸h,fun h=>⟨s,h,BEq.rfl⟩⟩
theorem zjO (E:zaN)(D:List Str)(x:Str):(zaY E D x).isEmpty=true↔zdd (zar E) D x=0:=by
 rw[List.isEmpty_iff,zcl];unfold zaY;rw[List.map_eq_nil_iff,List.filter_eq_nil_iff]
 constructor
 ·intro h y hy
  have:=h (x,y) (zaJ.mp hy);simp only[BEq.rfl,Bool.true_and,Bool.not_eq_true',Bool.not_eq_false] at this;exact(zeh D y).mp this
 ·rintro h ⟨a,b⟩ he z
  rw[Bool.and_eq_true,Bool.not_eq_true'] at z;have ea:a=x:=eq_of_beq z.1;subst ea;have:=(zeh D b).mpr (h b (zaJ.mpr he))
  rw[this] at z;cases z.2
theorem zm2 (hA:∀x,x∈A↔x∈zau E)(hA5:A.length≤5)(C:zhB A (zar E)):∀(n:Nat) (S:Srt) (D W R:List Str),A.length < D.length+n→Kahn A (zar E) S D W R→∃res,Dealt S W res∧Obo E (srt (uniq (zau E))) D (D++res):=by
 intro n
 induction n with
 | zero=>
  intro S D W R h K;have nd:=K.nd;rw[List.nodup_append] at nd
  have:=List.Nodup.length_le_of_subset nd.1 fun x hx=>K.sub x (by simp[hx])
  exact noL ‹_› ‹_›
 | succ n ih=>
  intro S D W R h K;have nd:=K.nd;rw[List.nodup_append] at nd;obtain⟨_,ndW,dis⟩:=nd
  have av:zcF E (srt (uniq (zau E))) D=srt (W++R):=by
   have nd1:(zcF E (srt (uniq (zau E))) D).Nodup:=List.Nodup.sublist List.filter_sublist ((zaC _).nodup_iff.mpr (zfn _))
   have p:(zcF E (srt (uniq (zau E))) D).Perm (W++R):=(List.perm_ext_iff_of_nodup nd1 ndW).mpr fun x=>by
    unfold zcF;rw[List.mem_filter,(zaC _).mem_iff,zcx,Bool.and_eq_true,Bool.not_eq_true',zjO,←hA]
    constructor
    ·rintro⟨h1,h2,h3⟩
     rcases List.mem_append.mp (K.fr x h1 h3) with z | z
     ·rw[(zeh D x).mpr z] at h2;cases h2
     ·exact z
    ·intro hx
     have hx':x∈D++(W++R):=List.mem_append_right _ hx;refine⟨K.sub x hx',?_,K.dn x hx'⟩;rw[Bool.eq_false_iff];intro z;exact dis x ((zeh D x).mp z) x hx rfl
   exact zbt (p.trans (zaC _).symm) (zgb (zb0 _)) (zb0 _)
  have hWR:(W++R).length≤5:=Nat.le_trans (List.Nodup.length_le_of_subset ndW fun x hx=>K.sub x (List.mem_append_right _ hx)) hA5
  have hRl:R.length≤5:=by rw[List.length_append] at hWR;exact adL1 ‹_›
  cases z:srt (W++R) with
  | nil=>
   have e:=(zaC (W++R)).length_eq;rw[z] at e;have e':=List.length_eq_zero_iff.mp e.symm;refine⟨[],.stop K.rdy (by exact leK ‹_› rfl) (by rw[K.active,e'];rfl),?_⟩;rw[List.append_nil];exact .stop (av.trans z)
  | cons x wt=>
   have K1:=K.got;have K1':=K1.perm (W':=x::wt) (z▸zaC _);have K1'':Kahn A (zar E) (S.got R) D ([x]++wt) []:=K1';obtain⟨hd,R',K2⟩:=K1''.dones C (by exact leK ‹_› rfl) [x];obtain⟨res,r1,r2⟩:=ih _ _ _ _ (by rw[List.length_append,List.length_singleton];lia) K2
   have hne:(W++R).isEmpty=false:=by
    cases y:W++R with
    | nil=>have e:=(zaC (W++R)).length_eq;rw[z,y] at e;cases e
    | cons _ _=>rfl
   refine⟨x::res,.step K.rdy (by exact leK ‹_› rfl) (by rw[K.active,hne];rfl) (fun y hy=>by rw[K.names];exact K.sub y (by simp[hy])) z hd r1,.step (av.trans z) ?_⟩;rw[List.append_assoc] at r2;exact r2
theorem ziS (G:GrE E S)(hA5:S.names.length≤5):∃o,Out S.names S.succ S.names [] o∧o.isSome=zdB E:=by
 have suc:∀{c g:Str},c∈S.succ g↔(c,g)∈E:=fun {c g} =>by
  rw[←List.count_pos_iff,G.suc,List.count_pos_iff,zaJ]
 obtain⟨o,O,h⟩:=znI (keys:=S.names) (sc:=S.succ) (by exact leK ‹_› rfl) fun k _ s hs=>(G.ends s).mpr (List.mem_flatMap.mpr ⟨(s,k),suc.mp hs,by exact List.mem_cons_self⟩)
 refine⟨o,O,?_⟩
 cases o with
 | some ys=>
  obtain⟨Cs,hne,hr⟩:=h
  have all:∀k,∀c∈Cs,Wk E k c:=by
   intro k
   induction k with
   | zero=>intro _ _;trivial
   | succ k ih=>
    intro c hc;obtain⟨g,hg,hs⟩:=hr c hc;exact⟨g,suc.mp hs,ih g hg⟩
  cases Cs with
  | nil=>exact absurd rfl hne
  | cons c r=>exact((ziO E).mpr ⟨c,all 5 c List.mem_cons_self⟩).symm
 | none=>
  obtain⟨fin,T,hf⟩:=h
  have no:∀c,¬ Wk E 5 c:=Topo.none (C:=fun c=>Wk E 5 c) (sc:=S.succ) (fun c hc=>by
   obtain⟨g,hg,wg⟩:=hc.six hA5 fun x hx=>(G.ends x).mpr hx
   exact⟨g,wg,suc.mpr hg⟩) T fun c hc=>hf c ((G.ends c).mpr hc.ends)
  show false=zdB E
  cases z:zdB E with
  | false=>rfl
  | true=>obtain⟨m,hm⟩:=(ziO E).mp z;exact absurd hm (no m)
theorem zmL (hF:∀x∈zau E,x∈zaL)(h2:2≤(uniq (zau E)).length)(hE:E.length≤9):∃o1 o2 R2,GraphOk E (fstS E E.length) (sndS E E.length) o1 o2 R2:=by
 have five:∀{S:Srt},GrE E S→S.names.length≤5:=fun {S} G=>List.Nodup.length_le_of_subset (l₂:=zaL) G.nd fun x hx=>hF x ((G.ends x).mp hx)
 have G1:=znZ E;have G2:=znF E;have z1:(fstS E E.length).sm 900:=(zlA E E.length).more (by lia);have z2:(sndS E E.length).sm 900:=(zkO E hE E.length).more (by lia);have K1:=G1.prep z1 (by decide);have K2:=G2.prep z2 (by decide);obtain⟨o1,O1,i1⟩:=ziS G1 (five G1);obtain⟨o2,O2,i2⟩:=ziS G2 (five G2)
 have T1:=znA G1.ends (five G1) G1.closed 5 0 _ _ _ rfl K1 fun x _=>⟨(fun h=>by cases h),fun h=>absurd trivial h⟩
 obtain⟨res,D2,B2⟩:=zm2 G2.ends (five G2) G2.closed 6 _ _ _ _ (by have:=five G2;rw[List.length_nil];exact slK ‹_› rfl) K2;refine⟨o1,o2,res,O1,i1,?_,O2,i2,D2,B2,h2⟩;unfold zh0 at T1;unfold zbT
 rw[List.range_eq_range'];exact T1
theorem zkd (N:List Int):∀x∈zau (zal N),x∈zaL:=fun x hx=>by
 unfold zau zal at hx;rw[List.mem_flatMap] at hx;obtain⟨e,he,hx⟩:=hx;obtain⟨i,_,rfl⟩:=List.mem_map.mp he
 have f:∀a,a < 5→zaR a∈zaL:=fun a ha=>by
  unfold zaR;rw[List.getD_eq_getElem?_getD,List.getElem?_eq_getElem (show a < zaL.length from ha)];exact List.getElem_mem _
 simp at hx
 rcases hx with rfl | rfl
 ·exact f _ (zf7 i).1
 ·exact f _ (zf7 i).2.2.1
theorem zlM (s:List Int):2≤(uniq (zau (zal (zaD s)))).length:=by
 have h15:(zaR (ixA 15),zaR (ixC 15))∈zal (zaD s):=List.mem_map.mpr ⟨15,by unfold zaD;simp,rfl⟩
 have nd: [zaR (ixA 15),zaR (ixC 15)].Nodup:=by decide+kernel
 refine List.Nodup.length_le_of_subset nd fun x hx=>zcx.mpr (List.mem_flatMap.mpr ⟨_,h15,?_⟩)
 exact hx
theorem zlp (s:List Int):∃o1 o2 R2,GraphOk (zal (zaD s)) (fstS (zal (zaD s)) (zaD s).length) (sndS (zal (zaD s)) (zaD s).length) o1 o2 R2:=by
 have:=zmL (E:=zal (zaD s)) (zkd _) (zlM s) (by unfold zal;rw[List.length_map];exact(ziU s).2)
 have e:(zal (zaD s)).length=(zaD s).length:=by unfold zal;rw[List.length_map]
 rw[e] at this;exact this
end
section
variable {w:World}{Φ:Fm}{d:Nat}{H H':List Cell}{σ':List (Str×AV)}
noncomputable abbrev lzE:Expr:=(exL (stT ((zby 16)))).headD exNo
noncomputable abbrev lzS:Scope:=exS lzE
noncomputable abbrev lzX:Expr:=exE lzE
noncomputable abbrev lzT:Expr:=(exG lzE).target
noncomputable def zσ (N:List Int):List (Str×AV):= [(q "files",.lst (txts zaL)),(q "texts",.lst (txts (zak N)))]
noncomputable def zτ (N:List Int)(k:Nat)(x:Int):List (Str×AV):= [(q "files",.lst (txts zaL)),(q "texts",.lst (txts (zak N))),(q "k",.int k),(q "x",.int x)]
theorem zo2 {N:List Int}{k:Nat}{x:Int}(T:TW w)(hk:N[k]? =some x)(hN:N.length≤9)(hH:BdH H.length H):SE pW w (KK w) Φ (d+31) lzS lzX (zτ N k x) H (.str (zfC x)) (zτ N k x) H:=by
 have hlt:=(List.getElem?_eq_some_iff.mp hk).1
 have ht:(txts (zak N))[((k:Nat):Int).toNat]? =some (.str (zbJ x)):=by rw[Int.toNat_natCast,zbf];unfold zak;rw[List.getElem?_map,hk];rfl
 have hl:(zbJ x).length≤sizeLine:=by have:=(zfW x).row.len;rw[sizeLine_eq];exact Nat.le_trans this (by decide)
 have hd:zc0 (zbJ x)=zc0 (w1 x):=(zfW x).hd;have r5:=zaK x (n:=5) (by decide)
 have test:∀{b:Bool},zc0 (w1 x)=b→ST pW w (KK w) Φ (d+31) lzS (exE lzX) (zτ N k x) H b (zτ N k x) H:=fun h=>
  (ST.cmp (SE.ac (SE.item (SE.name ⟨rfl,rfl⟩ rfl) (SE.name ⟨rfl,rfl⟩ rfl) .lst (by exact Int.natCast_nonneg _) (by lia) ht) SPart.none (SPart.some SE.int) hl) SE.str SCmp.ak).eq (hd.trans h)
 have v0:(txts (zbM x))[(0:Int).toNat]? =some (.str (w1 x)):=rfl;unfold zfC
 cases z:zc0 (w1 x) with
 | true=>
  rw[if_pos rfl];exact SE.ifT (test z) (SE.call (SE.glob T ⟨rfl,rfl⟩ rfl zjX) zko (SG.some (SL.cons (SE.item (SE.call (SE.glob T ⟨rfl,rfl⟩ rfl zc1) zc7 (SG.some (SL.cons (SE.name ⟨rfl,rfl⟩ rfl) SL.nil)) (ziw T).sem) SE.int .lst (by decide) (by decide) v0) SL.nil)) (zoQ T hH).sem)
 | false=>
  rw[if_neg Bool.false_ne_true];exact SE.ifF (test z) (SE.item (SE.name ⟨rfl,rfl⟩ rfl) (SE.bin (SE.name ⟨rfl,rfl⟩ rfl) SE.int (SB.ah (by decide))) .lst r5.1 (by lia) (zgc (zf7 x).1))
theorem SEm.bdE {pg:Program}{K:Frag}{sc:Scope}{σ1 cp:List (Str×AV)}{j:Nat}{emit:Value→Env→Sem Unit}(f:BdH H.length H→SEm pg w K Φ d sc emit j σ1 H cp H'):SEm pg w K Φ d sc emit j σ1 H cp H':=.mk fun env O ρ s A u ok X fc=>(f X.rel.bd).1 env O ρ s A u ok X fc
theorem zoc {N:List Int}(T:TW w)(hc:Φ.calm=true)(hN:N.length≤9):∀(n k:Nat) (ys:List AV),k+n=N.length→ys=(zaF N).take k →
  SCL pW w (KK w) Φ (d+31) lzS lzE 0 (H.length+1) (H.length+2) (zσ N) (H++ [.iter (.lst (zaj N)) k,.enum H.length k,.lst ys]) (H++ [.junk,.enum H.length N.length,.lst (zaF N)]):=by
 intro n
 induction n with
 | zero=>
  rintro k ys hk hy
  have e:k=N.length:=hk;subst e
  have e2:ys=zaF N:=by rw[hy,List.take_of_length_le];unfold zaF;rw[List.length_map];exact Nat.le_refl _
  subst e2;have:=SN.bK (pg:=pW) (w:=w) (K:=KK w) (d:=d+31) (H:=H++ [.iter (.lst (zaj N)) N.length,.enum H.length N.length,.lst (zaF N)]) (i:=H.length+1) (j:=H.length) (p:=N.length) hc (by simp) (by exact zg4) (L:=.lst (xs:=zaj N)) (List.getElem?_eq_none (by rw[zbE];exact Nat.le_refl _))
  have hs:(H++ [Cell.iter (.lst (zaj N)) N.length,Cell.enum H.length N.length,Cell.lst (zaF N)]).set H.length .junk=H++ [.junk,.enum H.length N.length,.lst (zaF N)]:=by simp
  rw[hs] at this;exact SCL.out .lst (zdy (elt:=lzX) (scope:=lzS)) this
 | succ n ih9=>
  rintro k ys hk hy
  have hlt:k < N.length:=by lia
  have hx:N[k]? =some N[k]:=List.getElem?_eq_getElem hlt
  have hv:(zaj N)[k]? =some (.int N[k]):=by unfold zaj;rw[List.getElem?_map,hx];rfl
  have hyl:ys.length=k:=by rw[hy,List.length_take];unfold zaF;rw[List.length_map];lia
  have hy':ys++ [.str (zfC N[k])]=(zaF N).take (k+1):=by
   rw[hy,List.take_succ_eq_append_getElem (by unfold zaF;rw[List.length_map];exact hlt)]
   unfold zaF;rw[List.getElem_map]
  have ih:=ih9 (k+1) _ (by exact rot4 ‹_›) hy';have nt:=SNt.enum (pg:=pW) (w:=w) (K:=KK w) (Φ:=Φ) (d:=d+31) (H:=H++ [.iter (.lst (zaj N)) k,.enum H.length k,.lst ys]) (i:=H.length+1) (j:=H.length) (p:=k) (elts:=exL lzT) (k:=exK lzT) (cL:=lzT.pos) (by simp) (by exact zg4) (L:=.lst (xs:=zaj N)) hv
  have hs:((H++ [Cell.iter (.lst (zaj N)) k,Cell.enum H.length k,Cell.lst ys]).set H.length (.iter (.lst (zaj N)) (k+1))).set (H.length+1) (.enum H.length (k+1))=H++ [.iter (.lst (zaj N)) (k+1),.enum H.length (k+1),.lst ys]:=by simp
  rw[hs] at nt;refine SCL.ci .lst (zdy (elt:=lzX) (scope:=lzS)) nt (SA.tuple (σ':=zτ N k N[k]) hc .tup (SAs.cons (SA.name (.inl rfl) (.there rfl (.there rfl .nil))) (SAs.cons (SA.name (.inl rfl) (.there rfl (.there rfl (.there rfl .nil)))) SAs.nil))) STs.nil (SEm.bdE fun hH=>SEm.list (ys:=ys) (zo2 T hx hN hH) (by simp) (by rw[sizeLine_eq];lia)) (fun y v z=>zah (τ:= [(q "k",AV.int k),(q "x",.int N[k])]) z) ?_
  have hs2:(H++ [Cell.iter (.lst (zaj N)) (k+1),Cell.enum H.length (k+1),Cell.lst ys]).set (H.length+2) (.lst (ys++ [.str (zfC N[k])]))=H++ [.iter (.lst (zaj N)) (k+1),.enum H.length (k+1),.lst (ys++ [.str (zfC N[k])])]:=by simp
  rw[hs2];exact ih
theorem zmV (H:List Cell):∀N:List Int,Eqvs H 1 (zaF N) (zaF N):=by
 intro N
 induction N with
 | nil=>
  exact .nil
 | cons x r ih=>
  exact .cons .str (ih)
theorem bdX {n:Nat}{N:List Int}{sv:AV}{i1 i2:Nat}(hv:Bd n sv)(h0:0 < n)(h1:i1 < n)(h2:i2 < n):Bde n (du N sv i1 i2 (.lst (zaF N))):=.cons hv (.cons (.lst Bds.txts) (.cons (.lst (Bds.ints N)) (.cons (.lst Bds.txts) (.cons (.lst Bds.txts) (.cons .str (.cons (.lst Bds.txts) (.cons (.lst (zas _)) (.cons (.lst (zas _)) (.cons (.obj h0) (.cons (.obj h2) (.cons (.obj h1) (.cons (.lst (Bds.rds _)) (.cons .bool (.cons (.lst (Bds.of fun x hx=>by obtain⟨r,_,rfl⟩:=List.mem_map.mp hx;exact .str)) .nil))))))))))))))
theorem l_16 {N:List Int}{sv:AV}{i1 i2:Nat}(T:TW w)(hc:Φ.calm=true)(hN:N.length≤9)(hv:∀n,Bd n sv)(h0:0 < H.length)(h1:i1 < H.length)(h2:i2 < H.length):SS pW w (KK w) Φ (d+31) zbr (zby 16) (du N sv i1 i2 (.lst (zaF N))) H (.ret (.bool true)) (du N sv i1 i2 (.lst (zaF N))) H:=SS.bd fun hH=>by
 have bd:=bdX (N:=N) (i1:=i1) (i2:=i2) (hv H.length) h0 h1 h2
 have bend:Bds H.length (zaF N):=Bds.of fun x hx=>by obtain⟨r,_,rfl⟩:=List.mem_map.mp hx;exact .str
 refine SS.ret (SE.cmp (SE.name ⟨rfl,rfl⟩ rfl) (SE.drop (tl:= [.junk,.enum H.length N.length,.lst (zaF N)]) (v:=.obj (H.length+2)) ?comp rfl hH bd (.list (by exact Nat.le_add_right _ _) (by simp) bend)) (SCmp.b6 (n:=1) .lst .lst (zmV _ N)))
 have e2:H++ [Cell.iter (.lst (zaj N)) 0]++ [Cell.enum H.length 0]=H++ [.iter (.lst (zaj N)) 0,.enum H.length 0]:=by exact app2
 have l2:(H++ [Cell.iter (.lst (zaj N)) 0]++ [Cell.enum H.length 0]).length=H.length+2:=by exact zb5
 have cr:CompRun pW w (KK w) Φ (d+31) zbr lzE lzS (du N sv i1 i2 (.lst (zaF N))) (H++ [Cell.iter (.lst (zaj N)) 0]++ [Cell.enum H.length 0]++ [.lst []]) (H.length+1) (H++ [Cell.iter (.lst (zaj N)) 0]++ [Cell.enum H.length 0]).length (H++ [.junk,.enum H.length N.length,.lst (zaF N)]):=by
  have ok:CompOk zbr lzS (du N sv i1 i2 (.lst (zaF N))) (zσ N):=zaS rfl (by decide+kernel) rfl (.cons rfl rfl (.cons rfl rfl .nil));refine⟨ok.cs,.lst,rfl,zσ N,ok.fr,SIt.aQ (j:=H.length) (p:=0) (by simp),?_⟩;rw[l2];have:=zoc (w:=w) (Φ:=Φ) (d:=d) (H:=H) T hc hN N.length 0 [] (by exact Nat.add_comm _ _) rfl
  have e3:H++ [Cell.iter (.lst (zaj N)) 0]++ [Cell.enum H.length 0]++ [Cell.lst []]=H++ [.iter (.lst (zaj N)) 0,.enum H.length 0,.lst []]:=by exact app3
  rw[e3];exact this
 have z:=SE.aw (SE.call (SE.bltn T ⟨rfl,rfl⟩ rfl zh5 ziB) .type (SG.some (SL.cons (SE.name ⟨rfl,rfl⟩ rfl) SL.nil)) (SC.bj .lst)) (SIt.aQ (j:=H.length) (p:=0) (by exact zg5)) cr (by intro _ _;rfl);rw[l2] at z;exact z
theorem znS {s:List Int}(T:TW w)(hs:s.length≤63):∃H',∀Φ:Fm,Φ.calm=true→SCc pW w (KK w) Φ (d+32) (.ref 340) [.lst (zaj s)] [] (.bool true) H':=by
 obtain⟨n1,n2⟩:=ziU s
 have hv:∀n,Bd n (.lst (zaj s)):=fun n=>.lst (Bds.ints s)
 have hN:(zaD s).length≤20:=by exact leK ‹_› rfl
 have hN1:1≤(zaD s).length:=by exact kL ‹_› rfl
 obtain⟨H1,i1,i2,a1,a2,s11,D1⟩:=l_11 (d:=d+29) (N:=zaD s) (sv:=.lst (zaj s)) T;obtain⟨H2,b1,b2,s12,D2⟩:=l_12 (d:=d) (N:=zaD s) (sv:=.lst (zaj s)) T hv n2 D1;obtain⟨o1,o2,R2,G⟩:=zlp s;have z1:(fstS (zal (zaD s)) (zaD s).length).sm 900:=(zlA _ _).more (by lia);have z2:(sndS (zal (zaD s)) (zaD s).length).sm 900:=(zkO _ (by rw[zbo];exact n2) _).more (by lia);obtain⟨H3,s14,k0,hl⟩:=l_14 (d:=d) (sv:=.lst (zaj s)) T n2 D2 z1 z2 G;have h0:=zag k0;have h1:=zag D2.i1.1;have h2:=zag D2.i2.1;refine⟨H3,fun Φ hc=>SCc.plain (f:=.ret (.bool true)) (ns:= [q "script"]) (σ':=du (zaD s) (.lst (zaj s)) i1 i2 (.lst (zaF (zaD s)))) T zph (len1 fun _=>rfl) (by exact List.nodup_cons.mpr ⟨List.not_mem_nil,List.nodup_nil⟩) (fun x hx=>by simp at hx;subst hx;first | exact .inl rfl | exact .inr rfl) rfl fun L=> ?_⟩;have hc':(Φ.deeper L).calm=true:=hc
 exact SSs.cons (l_0 T hc' (by exact leK ‹_› rfl)) (SSs.cons (l_1 T hc' hN (hv 0)) (SSs.cons (l_2 T hc' hN) (SSs.cons (l_3 T hc' hN (hv 0)) (SSs.cons (l_4 T hc' hN (hv 0)) (SSs.cons (l_5 T hc' hN hN1 (hv 0)) (SSs.cons (l_6 T hc' hN (hv 0)) (SSs.cons (l_7 T hc' hN (hv 0)) (SSs.cons (l_8 T hc' hN (hv 0)) (SSs.cons (l_9 T) (SSs.cons (l_10 T hc' hN (hv 1))
  (SSs.cons (s11 _ hc') (SSs.cons (s12 _ hc') (SSs.cons (l_13 T hc' n2) (SSs.cons (s14 _ hc') (SSs.cons (l_15 T hc' n2 hN1 hv h0 (by exact Nat.lt_of_lt_of_le ‹_› ‹_›) (by exact Nat.lt_of_lt_of_le ‹_› ‹_›)) (SSs.stop (l_16 T hc' n2 hv h0 (by exact Nat.lt_of_lt_of_le ‹_› ‹_›) (by exact Nat.lt_of_lt_of_le ‹_› ‹_›))))))))))))))))))
end
section
set_option tactic.hygienic true in
theorem zmj {h:Heap} :∀{vs:List Value} {ns:List Int},IntsAre vs ns→VRs h [] (zaj ns) vs:=fun {vs ns} x=>by
 induction x with
 | nil=>exact .nil
 | cons=>rename_i ih;exact .cons .int ih
theorem zn1 {w:World}{cm:Shared}{a:Addr}{vs:List Value}{ns:List Int}{Q:Value→Shared→Prop}{E:Value→Shared→Prop}(hS:cm.heap.NoSeer)(KX:(KW w.params).In cm.heap)(hg:cm.gens= #[])(hsz:cm.heap.objs.size=342)(hL:cm.heap.IsList a vs.toArray)(hI:IntsAre vs ns)(hlen:ns.length≤63)
  (hQ:∀s',(∀b o,cm.heap.get? b=some o→s'.heap.get? b=some o)→s'.os=cm.os→s'.gens= #[]→Q (.bool true) s'):wpAny (model pW w) callerA (call (.ref 340) [.ref a]) Q E cm:=by
 have T:TW w:=topW ⟨cm.heap,KX,hS⟩;obtain⟨H',run⟩:=znS (d:=0) T hlen;have ok:OkC ⟨[],true⟩ (0+32) callerA:=⟨fun _=>rfl,by decide+kernel,by decide+kernel,[],rfl,rfl,fun e h=>by cases h⟩;have R:Rel pW w (KK w) ⟨[],true⟩ [] [] cm.heap:=⟨KX,rfl,.nil,(fun i c a h=>by simp at h),(fun a h=>by cases h),(fun a h=>by cases h),(fun a o e=>lowW e),(by rw[hsz];exact Nat.lt_succ_self _),(fun L h=>by cases h)⟩;refine wpAny_call (codeAny_mono (run ⟨[],true⟩ rfl [] cm callerA [.ref a] ok R hg (.cons (.lst hL (by exact List.not_mem_nil) (zmj hI)) .nil)) fun r s' z=> ?_)
 rcases r with e | f
 ·exact False.elim z
 cases f<;>first | exact False.elim z | skip
 ·obtain⟨ρ',m,_,g,q,o⟩:=z
  cases q;refine hQ s' (fun b ob e=> ?_) o g;obtain⟨o',e',l⟩:=m.keep b ob e (by exact List.not_mem_nil) (by exact List.not_mem_nil);have hb:b < 342:=hsz▸Heap.lt_size e;rw[zi0 l (Nat.le_of_lt_succ hb)] at e';exact e'
theorem zmF {R:WRecords}{cl:Str→Option Addr}{P:Params}{ord:List DictEntry→List DictEntry} :∀(ns:List Int) (s:Shared) (r:List Value×Shared),layAllW R cl P ord (ofPys (ns.map PyData.int)) s=some r→r.2.heap.objs.size=s.heap.objs.size:=by
 intro ns
 induction ns with
 | nil=>intro s r e;simp[ofPys,layAllW] at e;rw[←e]
 | cons n ns ih=>
  intro s r e;simp only[List.map_cons,ofPys,ofPy,layAllW,layW] at e
  cases z:layAllW R cl P ord (ofPys (ns.map PyData.int)) {s with toks:=s.toks+1} with
  | none=>rw[z] at e;cases e
  | some u=>rw[z] at e;cases e;have h:=ih _ u z;exact h
theorem zhR {R:WRecords}{w:World}{s0 cm:Shared}{ns:List Int}{vs:List Value}{as:List Addr}(L:Laid R w s0 cm [ofPy (PyData.list (ns.map PyData.int))] vs as):cm.heap.objs.size=s0.heap.objs.size+1:=by
 obtain⟨ord,_,e⟩:=L.laid;simp only[ofPy,layAllW,layW] at e
 cases z:layAllW R (classAt s0.heap) w.params ord (ofPys (ns.map PyData.int)) s0 with
 | none=>rw[z] at e;cases e
 | some u=>
  rw[z] at e;have h:=zmF ns s0 u z;cases e;rw[←h];exact Heap.size_push ..
theorem close_law {w:World}{s0 cm:Shared}{mg mb:Str→Option Value}{loose:List Str}{XP:(Str→Option Value)→Heap→Prop}{fa a:Addr}{ns:List Int}{vs:List Value}{as:List Addr}(G:Ground qW loose rowR.records XP w s0 mg mb cm.heap)(KX:(KW w.params).In cm.heap)(hz:s0.heap.objs.size=341)
  (hmg:mg (Str.ofString "law")=some (.ref fa)) (hg:cm.gens= #[]) (L:Laid rowR.records w s0 cm [ofPy (PyData.list (ns.map PyData.int))] [.ref a] as) (hL:cm.heap.IsList a vs.toArray) (hI:IntsAre vs ns) (hc: ¬ ((63:Int) < (ns.length:Int))):
  wpAny (model rowR.prog w) callerA (call (.ref fa) [.ref a]) (fun v s'=>GoodWG rowR.claim (classAt s0.heap) (ExcName.means s0.heap) [ofPy (PyData.list (ns.map PyData.int))] cm (.ok (.ret v)) s')
   (fun e s'=>GoodWG rowR.claim (classAt s0.heap) (ExcName.means s0.heap) [ofPy (PyData.list (ns.map PyData.int))] cm (.error e) s') cm:=by
 have hfa:mg (Str.ofString "law")=some (.ref 340):=mg_of KX G.T.g (by kernel_rfl)
 have e:fa=340:=by rw[hmg] at hfa;cases hfa;rfl
 subst e
 refine zn1 (G.T.seer (by decide+kernel)) KX hg (by rw[zhR L,hz]) hL hI (by lia) fun s' k o g=>GoodW.toG ⟨.inl ⟨.bool true,.bool true,[],rfl,raisesW_false (by wrow_none_raised),.bool _,?post,?unsh⟩,k,o,g⟩
 case post=>wrow_post
 case unsh=>first | exact unshared_nil | exact fun h=>absurd h (by decide)
end
end Mine
set_option maxRecDepth 100000 in
set_option maxHeartbeats 8000000 in
theorem PySem.Challenge.cw_ik0150_01_holds : PySem.Challenge.rw_ik0150_01.Holds := by
 w_on
 refine holds_law Mine.wellSaid_law fun said=> ?_
 refine holds_openX (q:=Mine.qW) (loose:= [Str.ofString "_twin_re_1",Str.ofString "_twin_re_2",Str.ofString "_NodeInfo"]) (Xt:=fun s=>xlAt Mine.qW [] s&&recOk Mine.rowR.records s) (XP:=XL Mine.qW []) (Yf:=Mine.obsW) (Ya:=Mine.valW) (N:=4788) Mine.left_law (fun s e=>xl_of s (Bool.and_eq_true_iff.mp e).1) XL.keeps (by rfl) (by rfl) (by rfl) (fun s e=>recFacts_of (Bool.and_eq_true_iff.mp e).2) (by rfl) (by first | assumption | decide+kernel) (by decide+kernel) ⟨rfl,rfl,rfl,rfl,rfl,by decide+kernel⟩ ?hw ?hc
 case hw=>w_witness2
 case hc=>
  intro w s0 cm mg mb G Y fa o pm cd doc dV kV ho hd hcd hD hmg hg args vals as L hpre hlay hrd hwl hlo;have KX:(Mine.KW w.params).In cm.heap:=InK.keeps (K:=Mine.KW) w s0.heap cm.heap (InK.of Mine.addrs_eq w s0 (congrArg Prod.fst Y)) L.keeps;have hz:s0.heap.objs.size=341:=congrArg Prod.snd Y;clear Y hd hcd hD ho
  wrow_args hpre hlay hrd hwl hlo
  exact Mine.close_law G KX hz hmg hg L ‹_› ‹_› ‹_›
