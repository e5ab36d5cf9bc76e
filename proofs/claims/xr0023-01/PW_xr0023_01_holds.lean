import PyProof.Rows.All
import PyProof.AttrMissHeap
import PyProof.EnumStmt
import PyProof.IsRules
import PyProof.Rows.KernelRfl
import Flt.RightMore
import Flt.Canon
import KE.KBoundM
import KE.KCallOwn
import KE.KDictIter
import KE.KStar
import KE.KSuper
import Wide.FinOn
import OpenK.AllK
import Wide.All
import Lean
import PySem.Challenge.RW_xr0023_01
set_option Elab.async false
set_option maxRecDepth 1000000
set_option maxHeartbeats 0
set_option bootstrap.genMatcherCode false
set_option genSizeOf false
set_option tactic.hygienic false
set_option linter.all false
open PySem renaming wpAny_bind → Wb
open PySem renaming wpAny_pure → Wp
noncomputable section
open PySem PySem.W PyProof.Rows PySem.W.X
namespace Mine
noncomputable abbrev VP:=Value→Shared→Prop
set_option backward.match.sparseCases true
namespace KH
noncomputable abbrev n:Value:= .none
noncomputable abbrev t:Value:= .bool true
noncomputable abbrev f:Value:= .bool false
noncomputable abbrev i (x:Int):Value:= .int x 0
noncomputable abbrev j (x:Int) (k:Nat):Value:= .int x k
noncomputable abbrev r (a:Nat):Value:= .ref a
noncomputable abbrev s (x:Str) (k:Nat):Value:= .str x k
noncomputable abbrev T (x:String):Value:= .type x
noncomputable abbrev B (x:String):Value:= .builtin x
noncomputable def bodyL:List Stmt:=PySem.Challenge.pw_xr0023_01.main.body
noncomputable def F (k:Nat):Stmt:=bodyL.getD k (.Pass ⟨0,0,0,0⟩)
noncomputable def clsB (x:Stmt):List Stmt:=match x with
 | .ClassDef _ _ _ body _ _ _ _ _ _ _=>body
 |_=>[]
noncomputable def M (k l:Nat):Stmt:=(clsB (F k)).getD l (.Pass ⟨0,0,0,0⟩)
noncomputable def fName (x:Stmt):Str:=match x with
 | .FunctionDef nm _ _ _ _ _ _ _ _ _=>nm
 |_=>""
noncomputable def fPar (x:Stmt):Arguments:=match x with
 | .FunctionDef _ ps _ _ _ _ _ _ _ _=>ps
 |_=>⟨[],[],none,[],[],none,[]⟩
noncomputable def fBody (x:Stmt):List Stmt:=match x with
 | .FunctionDef _ _ b _ _ _ _ _ _ _=>b
 |_=>[]
noncomputable def fScope (x:Stmt):Scope:=match x with
 | .FunctionDef _ _ _ _ _ _ sc _ _ _=>sc
 |_=>⟨.function,[],false,false,[]⟩
noncomputable def fPos (x:Stmt):Pos:=match x with
 | .FunctionDef _ _ _ _ _ _ _ _ _ p=>p
 |_=>⟨0,0,0,0⟩
noncomputable def defD (x:Stmt):DefRec:=⟨fName x,fPar x,fBody x,fScope x,fPos x⟩
noncomputable abbrev fD (x:Stmt) (qn:Str) (g:Nat) (cl:List (Str×Addr)) (df pm cd ct:Value):FuncData:={name:=fName x,qualname:=qn,params:=fPar x,body:= .stmts (fBody x),scope:=fScope x,globals:=g,closure:=cl,defaults:=df,kwdefaults:= .none,pyModule:=pm,code:=cd,closureTuple:=ct}
noncomputable abbrev oA (x:Stmt) (qn:Str):Obj:=⟨.none,none, .func (fD x qn 0 [] .none .none .none .none), #[]⟩
noncomputable abbrev oF (x:Stmt) (qn:Str) (cl:List (Str×Addr)) (df pm cd ct:Value):Obj:=⟨.type "function",none, .func (fD x qn 3 cl df pm cd ct), #[]⟩
noncomputable abbrev oT (l:List Value):Obj:=⟨.type "tuple",none, .seq l.toArray 0, #[]⟩
noncomputable abbrev oN (l:List Value):Obj:=⟨.none,none, .fields l.toArray, #[]⟩
noncomputable abbrev oC (nm qn:Str) (k1 k2 k3:Nat) (ln ac:Int) (fl:Int) (tb cs:Nat) (v1 v2 v3:Value) (k4:Int) (k5:Nat):Obj:=⟨.type "code",none, .fields #[s nm k1,s qn k2,s "/claim/cut.py" k3,i ln,i ac,i 0,i 0,i fl,r tb,t,i 276,r cs,n,v1,v2,v3,i k4,i ln,s "/claim/cut.py" k5], #[]⟩
noncomputable def ent (P:Params) (x:String×Nat×Value):DictEntry:=⟨PyData.keyHash P (Str.ofString x.1), .str (Str.ofString x.1) x.2.1,x.2.2⟩
noncomputable abbrev oD (c:Value) (P:Params) (e:Nat) (l:List (String×Nat×Value)):Obj:=⟨c,none, .dict (l.map (ent P)).toArray e, #[]⟩
noncomputable def as:List Nat:=[0,1,2,3,4,5,6,7,8,9,10,11,12,13,14,15,32,33,34,35,36,37,38,42,43,44,45,46,47,48,49,50,51,52,53,54,55,56,57,58,59,60,61,62,63,64,65,66,67,68,69,70,71,72,73,74,75,76,77,78,86,87,88,89,90,91,92,93,94,95,96,97,98,99,100,101,102,103,104,105,106,107,108,109,110,111,112,113,114,115,116,117,118,119,120,121,122,123,124,125,126,127,128,129,130,131,132,133,134,135,136,137,138,139,140,141,142,143,144,145,146,147,148,149,150,151,152,153,156,159,164,165,166,167,168,169,170,171,172,173,174,175,176,177,178,179,180,181,182,183,184,185,186,187,188,189,190,191,192,193,194,195,196,197,198,199,200,201,202,203,204,205,206,207,208,209,210,211,212,213,214,215,216,217,218,219,220,221,222,223,224,225,226,227,228,229,230,231,232,233,234,235,236,237,240,241,242,243,244,245,246,247,248,249,250,251,252,253,254,255,256,257,258,259,260,261,262,263,264,265,266,267,268,269,270,271,272,273,274,275,276,277,278,279,280,281,282,283,284,285,286,287,288,289,290,291,292,293,294,295,296,297,298,299,300,301,302,303,304,305,306,307,308]
noncomputable def K (P:Params):Frag:=[
 (0,oD (T "dict") P 159 [("__name__",1,s "builtins" 160),("__doc__",2,B "builtins.__doc__:str#opaque"),("__package__",3,B "builtins.__package__:str#opaque"),("__loader__",4,B "builtins.__loader__:shared#opaque"),("__spec__",5,B "builtins.__spec__#opaque"),("__build_class__",6,B "__build_class__"),("__import__",7,B "__import__"),("abs",8,B "abs"),("all",9,B "all"),("any",10,B "any"),("ascii",11,B "ascii"),("bin",12,B "bin"),("breakpoint",13,B "breakpoint"),("callable",14,B "callable"),("chr",15,B "chr"),("compile",16,B "compile"),("delattr",17,B "delattr"),("dir",18,B "dir"),("divmod",19,B "divmod"),("eval",20,B "eval"),("exec",21,B "exec"),("format",22,B "format"),("getattr",23,B "getattr"),("globals",24,B "globals"),("hasattr",25,B "hasattr"),("hash",26,B "hash"),("hex",27,B "hex"),("id",28,B "id"),("input",29,B "input"),("isinstance",30,B "isinstance"),("issubclass",31,B "issubclass"),("iter",32,B "iter"),("aiter",33,B "aiter"),("len",34,B "len"),("locals",35,B "locals"),("max",36,B "max"),("min",37,B "min"),("next",38,B "next"),("anext",39,B "anext"),("oct",40,B "oct"),("ord",41,B "ord"),("pow",42,B "pow"),("print",43,B "print"),("repr",44,B "repr"),("round",45,B "round"),("setattr",46,B "setattr"),("sorted",47,B "sorted"),("sum",48,B "sum"),("vars",49,B "vars"),("None",50,n),("Ellipsis",51, .ellipsis),("NotImplemented",52, .notImplemented),("False",53,f),("True",54,t),("bool",55,T "bool"),("memoryview",56,T "memoryview"),("bytearray",57,T "bytearray"),("bytes",58,T "bytes"),("classmethod",59,T "classmethod"),("complex",60,T "complex"),("dict",61,T "dict"),("enumerate",62,T "enumerate"),("filter",63,T "filter"),("float",64,T "float"),("frozenset",65,T "frozenset"),("property",66,T "property"),("int",67,T "int"),("list",68,T "list"),("map",69,T "map"),("object",70,T "object"),("range",71,T "range"),("reversed",72,T "reversed"),("set",73,T "set"),("slice",74,T "slice"),("staticmethod",75,T "staticmethod"),("str",76,T "str"),("super",77,T "super"),("tuple",78,T "tuple"),("type",79,T "type"),("zip",80,T "zip"),("__debug__",81,t),("BaseException",82,T "BaseException"),("BaseExceptionGroup",83,T "BaseExceptionGroup"),("Exception",84,T "Exception"),("GeneratorExit",85,T "GeneratorExit"),("KeyboardInterrupt",86,T "KeyboardInterrupt"),("SystemExit",87,T "SystemExit"),("ArithmeticError",88,T "ArithmeticError"),("AssertionError",89,T "AssertionError"),("AttributeError",90,T "AttributeError"),("BufferError",91,T "BufferError"),("EOFError",92,T "EOFError"),("ImportError",93,T "ImportError"),("LookupError",94,T "LookupError"),("MemoryError",95,T "MemoryError"),("NameError",96,T "NameError"),("OSError",97,T "OSError"),("ReferenceError",98,T "ReferenceError"),("RuntimeError",99,T "RuntimeError"),("StopAsyncIteration",100,T "StopAsyncIteration"),("StopIteration",101,T "StopIteration"),("SyntaxError",102,T "SyntaxError"),("SystemError",103,T "SystemError"),("TypeError",104,T "TypeError"),("ValueError",105,T "ValueError"),("Warning",106,T "Warning"),("FloatingPointError",107,T "FloatingPointError"),("OverflowError",108,T "OverflowError"),("ZeroDivisionError",109,T "ZeroDivisionError"),("BytesWarning",110,T "BytesWarning"),("DeprecationWarning",111,T "DeprecationWarning"),("EncodingWarning",112,T "EncodingWarning"),("FutureWarning",113,T "FutureWarning"),("ImportWarning",114,T "ImportWarning"),("PendingDeprecationWarning",115,T "PendingDeprecationWarning"),("ResourceWarning",116,T "ResourceWarning"),("RuntimeWarning",117,T "RuntimeWarning"),("SyntaxWarning",118,T "SyntaxWarning"),("UnicodeWarning",119,T "UnicodeWarning"),("UserWarning",120,T "UserWarning"),("BlockingIOError",121,T "BlockingIOError"),("ChildProcessError",122,T "ChildProcessError"),("ConnectionError",123,T "ConnectionError"),("FileExistsError",124,T "FileExistsError"),("FileNotFoundError",125,T "FileNotFoundError"),("InterruptedError",126,T "InterruptedError"),("IsADirectoryError",127,T "IsADirectoryError"),("NotADirectoryError",128,T "NotADirectoryError"),("PermissionError",129,T "PermissionError"),("ProcessLookupError",130,T "ProcessLookupError"),("TimeoutError",131,T "TimeoutError"),("IndentationError",132,T "IndentationError"),("_IncompleteInputError",133,T "_IncompleteInputError"),("IndexError",134,T "IndexError"),("KeyError",135,T "KeyError"),("ModuleNotFoundError",136,T "ModuleNotFoundError"),("NotImplementedError",137,T "NotImplementedError"),("PythonFinalizationError",138,T "PythonFinalizationError"),("RecursionError",139,T "RecursionError"),("UnboundLocalError",140,T "UnboundLocalError"),("UnicodeError",141,T "UnicodeError"),("BrokenPipeError",142,T "BrokenPipeError"),("ConnectionAbortedError",143,T "ConnectionAbortedError"),("ConnectionRefusedError",144,T "ConnectionRefusedError"),("ConnectionResetError",145,T "ConnectionResetError"),("TabError",146,T "TabError"),("UnicodeDecodeError",147,T "UnicodeDecodeError"),("UnicodeEncodeError",148,T "UnicodeEncodeError"),("UnicodeTranslateError",149,T "UnicodeTranslateError"),("ExceptionGroup",150,T "ExceptionGroup"),("EnvironmentError",151,T "OSError"),("IOError",152,T "OSError"),("open",153,B "open"),("quit",154,B "builtins.quit#opaque"),("exit",155,B "builtins.exit#opaque"),("copyright",156,B "builtins.copyright#opaque"),("credits",157,B "builtins.credits#opaque"),("license",158,B "builtins.license#opaque"),("help",159,B "builtins.help#opaque")]),
 (1,oD (T "dict") P 3 [("builtins",162,r 4),("__main__",163,r 5),("_sre",244,r 12)]),
 (2,oD n P 9 [("im\x70ort.loaded._sre",183,t),("class._frozen_importlib.BuiltinImporter",185,r 14),("watched.im\x70ort",206,r 18),("class._frozen_importlib.ModuleSpec",216,r 22),("sys.modules.booked-epoch",245,i 3),("im\x70ort.later-laid._sre",270,t),("watched.library",272,r 27),("watched.library-objects",0,s "\x0c" 0),("watched.library-deep._sre",273,s "\x04\x00\x00\x0b\x04\x00\x00\x0b\x04\x00\x00\x03\x04\x00\x00\x0b\x08\x04dict\x02" 0)]),
 (3,oD (T "dict") P 33 [("__name__",165,s "law_xr0023_01" 604),("__doc__",166,n),("__package__",167,n),("__loader__",168,B "__main__.__loader__#opaque"),("__spec__",169,n),("__annotations__",170,r 6),("__builtins__",171,r 4),("__file__",173,s "/claim/cut.py" 172),("__cached__",174,n),("_sre",275,r 12),("_wall",288,r 38),("IPV4_RE",320,r 43),("is_HDN",327,r 50),("domain_match",336,r 57),("reach",345,r 64),("rgb_to_yiq",359,r 71),("yiq_to_rgb",371,r 78),("NL",375,s "\n" 374),("EMPTYSTRING",377,s "" 376),("_ValueFormatter",485,r 151),("_Accumulator",581,r 235),("CHAR_MAX",585,j (127) 584),("_grouping_intervals",594,r 246),("_build_localename",603,r 253),("_law_cells",615,r 260),("_law_sizes",624,r 267),("_law_own",634,r 274),("_law_told",640,r 279),("_law_way",651,r 286),("_law_row",657,r 291),("_law_doors",663,r 296),("_law_det",678,r 303),("law",684,r 308)]),
 (4,⟨.type "module",some 0, .plain, #[]⟩),
 (5,⟨.type "module",some 3, .plain, #[]⟩),
 (6,oD (T "dict") P 0 []),
 (7,oT []),
 (8,oN []),
 (9,⟨.type "code",none, .fields #[s "<module>" 176,s "<module>" 177,s "/claim/cut.py" 178,i 1,i 0,i 0,i 0,i 0,r 7,f,i 175,r 8,n,n,n,n,i 179,i 1,s "/claim/cut.py" 180], #[]⟩),
 (10,⟨.type "frame",none, .plain, #[some (r 9),some (r 3),some (r 3),none,some (s "__main__" 164),none,some (r 0)]⟩),
 (11,oD (T "dict") P 17 [("__name__",247,s "_sre" 246),("__doc__",248,n),("__package__",250,s "" 249),("__loader__",251,B "off-the-table:_sre.__loader__:shared#opaque"),("__spec__",252,B "off-the-table:_sre.__spec__:shared#opaque"),("compile",253,B "_sre.compile"),("template",254,B "off-the-table:_sre.template:shared#opaque"),("getcodesize",255,B "off-the-table:_sre.getcodesize:shared#opaque"),("ascii_iscased",256,B "off-the-table:_sre.ascii_iscased:shared#opaque"),("unicode_iscased",257,B "off-the-table:_sre.unicode_iscased:shared#opaque"),("ascii_tolower",258,B "off-the-table:_sre.ascii_tolower:shared#opaque"),("unicode_tolower",259,B "off-the-table:_sre.unicode_tolower:shared#opaque"),("MAGIC",261,j (20230612) 260),("CODESIZE",263,j (4) 262),("MAXREPEAT",265,j (4294967295) 264),("MAXGROUPS",267,j (1073741823) 266),("copyright",269,s " SRE 2.2.2 Copyright (c) 1997-2002 by Secret Labs AB " 268)]),
 (12,⟨.type "module",some 11, .plain, #[]⟩),
 (13,oD (T "dict") P 14 [("__module__",189,s "_frozen_importlib" 186),("__firstlineno__",190,j (971) 187),("__doc__",191,B "_frozen_importlib.BuiltinImporter.__doc__:str#opaque"),("_ORIGIN",192,s "built-in" 188),("find_spec",193,B "_frozen_importlib.BuiltinImporter.find_spec#opaque"),("create_module",194,B "_frozen_importlib.BuiltinImporter.create_module#opaque"),("exec_module",195,B "_frozen_importlib.BuiltinImporter.exec_module#opaque"),("get_code",196,B "_frozen_importlib.BuiltinImporter.get_code#opaque"),("get_source",197,B "_frozen_importlib.BuiltinImporter.get_source#opaque"),("is_package",198,B "_frozen_importlib.BuiltinImporter.is_package#opaque"),("load_module",199,B "_frozen_importlib.BuiltinImporter.load_module#opaque"),("__static_attributes__",200,r 15),("__dict__",202,r 16),("__weakref__",204,r 17)]),
 (14,⟨.type "type",none, .cls {name:="BuiltinImporter",bases:=[T "object"],mro:=[r 14,T "object"],ns:=13,qualname:="BuiltinImporter"}, #[]⟩),
 (15,oT []),
 (32,oT []),
 (33,oN []),
 (34,oT [s "k" 285]),
 (35,oT []),
 (36,oA (F 1) "_wall"),
 (37,oC "_wall" "_wall" 282 283 284 2 1 3 32 33 (r 34) (r 35) (r 36) 286 287),
 (38,oF (F 1) "_wall" [] (n) (s "__main__" 164) (r 37) (n)),
 (42,oT [i 14,i 8,i 1,i 2,i 4294967295,i 1,i 1,i 46,i 0,i 16,i 46,i 24,i 9,i 1,i 4294967295,i 13,i 4,i 8,i 0,i 0,i 1,i 6,i 5,i 1]),
 (43,⟨.type "re.Pattern",none, .fields #[s "\\.\\d+$" 292,j (256) 319,i 0,n,n,r 42,i 0], #[]⟩),
 (44,oT []),
 (45,oN []),
 (46,oT [s "text" 324]),
 (47,oT []),
 (48,oA (F 4) "is_HDN"),
 (49,oC "is_HDN" "is_HDN" 321 322 323 7 1 3 44 45 (r 46) (r 47) (r 48) 325 326),
 (50,oF (F 4) "is_HDN" [] (n) (s "cpy313.http.cookiejar" 289) (r 49) (n)),
 (51,oT []),
 (52,oN []),
 (53,oT [s "A" 331,s "B" 332,s "i" 333]),
 (54,oT []),
 (55,oA (F 5) "domain_match"),
 (56,oC "domain_match" "domain_match" 328 329 330 15 2 3 51 52 (r 53) (r 54) (r 55) 334 335),
 (57,oF (F 5) "domain_match" [] (n) (s "cpy313.http.cookiejar" 289) (r 56) (n)),
 (58,oT []),
 (59,oN []),
 (60,oT [s "h" 340,s "i" 341,s "b" 342]),
 (61,oT []),
 (62,oA (F 6) "reach"),
 (63,oC "reach" "reach" 337 338 339 30 1 3 58 59 (r 60) (r 61) (r 62) 343 344),
 (64,oF (F 6) "reach" [] (n) (s "cpy313.http.cookiejar" 289) (r 63) (n)),
 (65,oT []),
 (66,oN []),
 (67,oT [s "r" 351,s "g" 352,s "b" 353,s "y" 354,s "i" 355,s "q" 356]),
 (68,oT []),
 (69,oA (F 8) "rgb_to_yiq"),
 (70,oC "rgb_to_yiq" "rgb_to_yiq" 348 349 350 39 3 3 65 66 (r 67) (r 68) (r 69) 357 358),
 (71,oF (F 8) "rgb_to_yiq" [] (n) (s "cpy313.colorsys" 346) (r 70) (n)),
 (72,oT []),
 (73,oN []),
 (74,oT [s "y" 363,s "i" 364,s "q" 365,s "r" 366,s "g" 367,s "b" 368]),
 (75,oT []),
 (76,oA (F 9) "yiq_to_rgb"),
 (77,oC "yiq_to_rgb" "yiq_to_rgb" 360 361 362 44 3 3 72 73 (r 74) (r 75) (r 76) 369 370),
 (78,oF (F 9) "yiq_to_rgb" [] (n) (s "cpy313.colorsys" 346) (r 77) (n)),
 (86,oT []),
 (87,oN []),
 (88,oT [s "self" 393,s "headerlen" 394,s "maxlen" 395,s "continuation_ws" 396,s "splitchars" 397]),
 (89,oT []),
 (90,oA (M 13 0) "_ValueFormatter.__init__"),
 (91,oC "__init__" "_ValueFormatter.__init__" 390 391 392 66 5 3 86 87 (r 88) (r 89) (r 90) 398 399),
 (92,oF (M 13 0) "_ValueFormatter.__init__" [] (n) (s "cpy313.email.header" 372) (r 91) (n)),
 (93,oT []),
 (94,oN []),
 (95,oT [s "self" 404,s "linesep" 405]),
 (96,oT []),
 (97,oA (M 13 1) "_ValueFormatter._str"),
 (98,oC "_str" "_ValueFormatter._str" 401 402 403 74 2 3 93 94 (r 95) (r 96) (r 97) 406 407),
 (99,oF (M 13 1) "_ValueFormatter._str" [] (n) (s "cpy313.email.header" 372) (r 98) (n)),
 (100,oT []),
 (101,oN []),
 (102,oT [s "self" 412]),
 (103,oT []),
 (104,oA (M 13 2) "_ValueFormatter.__str__"),
 (105,oC "__str__" "_ValueFormatter.__str__" 409 410 411 78 1 3 100 101 (r 102) (r 103) (r 104) 413 414),
 (106,oF (M 13 2) "_ValueFormatter.__str__" [] (n) (s "cpy313.email.header" 372) (r 105) (n)),
 (107,oT []),
 (108,oN []),
 (109,oT [s "self" 419,s "end_of_line" 420]),
 (110,oT []),
 (111,oA (M 13 3) "_ValueFormatter.newline"),
 (112,oC "newline" "_ValueFormatter.newline" 416 417 418 81 1 3 107 108 (r 109) (r 110) (r 111) 421 422),
 (113,oF (M 13 3) "_ValueFormatter.newline" [] (n) (s "cpy313.email.header" 372) (r 112) (n)),
 (114,oT []),
 (115,oN []),
 (116,oT [s "self" 427]),
 (117,oT []),
 (118,oA (M 13 4) "_ValueFormatter.add_transition"),
 (119,oC "add_transition" "_ValueFormatter.add_transition" 424 425 426 92 1 3 114 115 (r 116) (r 117) (r 118) 428 429),
 (120,oF (M 13 4) "_ValueFormatter.add_transition" [] (n) (s "cpy313.email.header" 372) (r 119) (n)),
 (121,oT []),
 (122,oN []),
 (123,oT [s "self" 434,s "fws" 435,s "string" 436,s "charset" 437]),
 (124,oT []),
 (125,oA (M 13 5) "_ValueFormatter.feed"),
 (126,oC "feed" "_ValueFormatter.feed" 431 432 433 95 4 3 121 122 (r 123) (r 124) (r 125) 438 439),
 (127,oF (M 13 5) "_ValueFormatter.feed" [] (n) (s "cpy313.email.header" 372) (r 126) (n)),
 (128,oT []),
 (129,oN []),
 (130,oT [s "self" 444]),
 (131,oT []),
 (132,oA (M 13 6) "_ValueFormatter._maxlengths"),
 (133,oC "_maxlengths" "_ValueFormatter._maxlengths" 441 442 443 98 1 35 128 129 (r 130) (r 131) (r 132) 445 446),
 (134,oF (M 13 6) "_ValueFormatter._maxlengths" [] (n) (s "cpy313.email.header" 372) (r 133) (n)),
 (135,oT []),
 (136,oN []),
 (137,oT [s "self" 451,s "fws" 452,s "string" 453,s "splitchars" 454]),
 (138,oT []),
 (139,oA (M 13 7) "_ValueFormatter._ascii_split"),
 (140,oC "_ascii_split" "_ValueFormatter._ascii_split" 448 449 450 103 4 3 135 136 (r 137) (r 138) (r 139) 455 456),
 (141,oF (M 13 7) "_ValueFormatter._ascii_split" [] (n) (s "cpy313.email.header" 372) (r 140) (n)),
 (142,oT []),
 (143,oN []),
 (144,oT [s "self" 461,s "fws" 462,s "string" 463,s "ch" 464,s "i" 465,s "prevpart" 466,s "part" 467,s "remainder" 468]),
 (145,oT []),
 (146,oA (M 13 8) "_ValueFormatter._append_chunk"),
 (147,oC "_append_chunk" "_ValueFormatter._append_chunk" 458 459 460 106 3 3 142 143 (r 144) (r 145) (r 146) 469 470),
 (148,oF (M 13 8) "_ValueFormatter._append_chunk" [] (n) (s "cpy313.email.header" 372) (r 147) (n)),
 (149,oT [s "_continuation_ws" 472,s "_continuation_ws_len" 473,s "_current_line" 474,s "_lines" 475,s "_maxlen" 476,s "_splitchars" 477]),
 (150,oD (T "dict") P 4 [("__module__",385,s "cpy313.email.header" 372),("__firstlineno__",389,j (64) 388),("__init__",400,r 92),("_str",408,r 99),("__str__",415,r 106),("newline",423,r 113),("add_transition",430,r 120),("feed",440,r 127),("_maxlengths",447,r 134),("_ascii_split",457,r 141),("_append_chunk",471,r 148),("__static_attributes__",478,r 149),("__dict__",480,r 152),("__weakref__",482,r 153),("__doc__",483,n)]),
 (151,⟨.type "type",none, .cls {name:="_ValueFormatter",bases:=[T "object"],mro:=[r 151,T "object"],ns:=150,qualname:="_ValueFormatter"}, #[none,none,some (s "_ValueFormatter" 378),some (s "_ValueFormatter" 386),some (B "object.__new__"),some (t)]⟩),
 (152,⟨.type "getset_descriptor",none, .fields #[s "__dict__" 479,r 151,B "function.__dict__",B "function.__dict__#set"], #[]⟩),
 (153,⟨.type "getset_descriptor",none, .fields #[s "__weakref__" 481,r 151,B "ExceptionGroup.__weakref__",n], #[]⟩),
 (156,oT [T "list"]),
 (159,⟨.type "cell",none, .cell (some (r 235)), #[]⟩),
 (164,oT [j (0) 498]),
 (165,oT [r 159]),
 (166,oT [s "__class__" 502]),
 (167,oN []),
 (168,oT [s "self" 503,s "initial_size" 504]),
 (169,oT []),
 (170,oA (M 14 0) "_Accumulator.__init__"),
 (171,oC "__init__" "_Accumulator.__init__" 499 500 501 134 2 3 166 167 (r 168) (r 169) (r 170) 505 506),
 (172,oF (M 14 0) "_Accumulator.__init__" [("__class__",159)] (r 164) (s "cpy313.email.header" 372) (r 171) (r 165)),
 (173,oT []),
 (174,oN []),
 (175,oT [s "self" 511,s "fws" 512,s "string" 513]),
 (176,oT []),
 (177,oA (M 14 1) "_Accumulator.push"),
 (178,oC "push" "_Accumulator.push" 508 509 510 138 3 3 173 174 (r 175) (r 176) (r 177) 514 515),
 (179,oF (M 14 1) "_Accumulator.push" [] (n) (s "cpy313.email.header" 372) (r 178) (n)),
 (180,oT [j (0) 517]),
 (181,oT []),
 (182,oN []),
 (183,oT [s "self" 521,s "i" 522,s "popped" 523]),
 (184,oT []),
 (185,oA (M 14 2) "_Accumulator.pop_from"),
 (186,oC "pop_from" "_Accumulator.pop_from" 518 519 520 141 2 3 181 182 (r 183) (r 184) (r 185) 524 525),
 (187,oF (M 14 2) "_Accumulator.pop_from" [] (r 180) (s "cpy313.email.header" 372) (r 186) (n)),
 (188,oT [r 159]),
 (189,oT [s "__class__" 530]),
 (190,oN []),
 (191,oT [s "self" 531]),
 (192,oT []),
 (193,oA (M 14 3) "_Accumulator.pop"),
 (194,oC "pop" "_Accumulator.pop" 527 528 529 146 1 3 189 190 (r 191) (r 192) (r 193) 532 533),
 (195,oF (M 14 3) "_Accumulator.pop" [("__class__",159)] (n) (s "cpy313.email.header" 372) (r 194) (r 188)),
 (196,oT []),
 (197,oN []),
 (198,oT [s "self" 538]),
 (199,oT []),
 (200,oA (M 14 4) "_Accumulator.__len__"),
 (201,oC "__len__" "_Accumulator.__len__" 535 536 537 151 1 3 196 197 (r 198) (r 199) (r 200) 539 540),
 (202,oF (M 14 4) "_Accumulator.__len__" [] (n) (s "cpy313.email.header" 372) (r 201) (n)),
 (203,oT []),
 (204,oN []),
 (205,oT [s "self" 545]),
 (206,oT []),
 (207,oA (M 14 5) "_Accumulator.__str__"),
 (208,oC "__str__" "_Accumulator.__str__" 542 543 544 154 1 3 203 204 (r 205) (r 206) (r 207) 546 547),
 (209,oF (M 14 5) "_Accumulator.__str__" [] (n) (s "cpy313.email.header" 372) (r 208) (n)),
 (210,oT [n]),
 (211,oT []),
 (212,oN []),
 (213,oT [s "self" 552,s "startval" 553]),
 (214,oT []),
 (215,oA (M 14 6) "_Accumulator.reset"),
 (216,oC "reset" "_Accumulator.reset" 549 550 551 157 2 3 211 212 (r 213) (r 214) (r 215) 554 555),
 (217,oF (M 14 6) "_Accumulator.reset" [] (r 210) (s "cpy313.email.header" 372) (r 216) (n)),
 (218,oT []),
 (219,oN []),
 (220,oT [s "self" 560]),
 (221,oT []),
 (222,oA (M 14 7) "_Accumulator.is_onlyws"),
 (223,oC "is_onlyws" "_Accumulator.is_onlyws" 557 558 559 163 1 3 218 219 (r 220) (r 221) (r 222) 561 562),
 (224,oF (M 14 7) "_Accumulator.is_onlyws" [] (n) (s "cpy313.email.header" 372) (r 223) (n)),
 (225,oT [r 159]),
 (226,oT [s "__class__" 567]),
 (227,oN []),
 (228,oT [s "self" 568]),
 (229,oT []),
 (230,oA (M 14 8) "_Accumulator.part_count"),
 (231,oC "part_count" "_Accumulator.part_count" 564 565 566 166 1 3 226 227 (r 228) (r 229) (r 230) 569 570),
 (232,oF (M 14 8) "_Accumulator.part_count" [("__class__",159)] (n) (s "cpy313.email.header" 372) (r 231) (r 225)),
 (233,oT [s "_initial_size" 572]),
 (234,oD (T "dict") P 5 [("__module__",493,s "cpy313.email.header" 372),("__firstlineno__",497,j (132) 496),("__init__",507,r 172),("push",516,r 179),("pop_from",526,r 187),("pop",534,r 195),("__len__",541,r 202),("__str__",548,r 209),("reset",556,r 217),("is_onlyws",563,r 224),("part_count",571,r 232),("__static_attributes__",573,r 233),("__dict__",576,r 236),("__weakref__",578,r 237),("__doc__",579,n)]),
 (235,⟨.type "type",none, .cls {name:="_Accumulator",bases:=[T "list"],mro:=[r 235,T "list",T "object"],ns:=234,qualname:="_Accumulator"}, #[some (r 156),none,some (s "_Accumulator" 486),some (s "_Accumulator" 494),some (B "list.__new__"),some (t)]⟩),
 (236,⟨.type "getset_descriptor",none, .fields #[s "__dict__" 575,r 235,B "function.__dict__",B "function.__dict__#set"], #[]⟩),
 (237,⟨.type "getset_descriptor",none, .fields #[s "__weakref__" 577,r 235,B "ExceptionGroup.__weakref__",n], #[]⟩),
 (240,oT []),
 (241,oN []),
 (242,oT [s "grouping" 589,s "last_interval" 590,s "interval" 591]),
 (243,oT []),
 (244,oA (F 17) "_grouping_intervals"),
 (245,oC "_grouping_intervals" "_grouping_intervals" 586 587 588 170 1 35 240 241 (r 242) (r 243) (r 244) 592 593),
 (246,oF (F 17) "_grouping_intervals" [] (n) (s "cpy313.locale" 582) (r 245) (n)),
 (247,oT []),
 (248,oN []),
 (249,oT [s "localetuple" 598,s "language" 599,s "encoding" 600]),
 (250,oT []),
 (251,oA (F 18) "_build_localename"),
 (252,oC "_build_localename" "_build_localename" 595 596 597 182 1 3 247 248 (r 249) (r 250) (r 251) 601 602),
 (253,oF (F 18) "_build_localename" [] (n) (s "cpy313.locale" 582) (r 252) (n)),
 (254,oT []),
 (255,oN []),
 (256,oT [s "script" 609,s "cells" 610,s "place" 611,s "number" 612]),
 (257,oT []),
 (258,oA (F 20) "_law_cells"),
 (259,oC "_law_cells" "_law_cells" 606 607 608 194 1 3 254 255 (r 256) (r 257) (r 258) 613 614),
 (260,oF (F 20) "_law_cells" [] (n) (s "law_xr0023_01" 604) (r 259) (n)),
 (261,oT []),
 (262,oN []),
 (263,oT [s "ruler" 619,s "sizes" 620,s "size" 621]),
 (264,oT []),
 (265,oA (F 21) "_law_sizes"),
 (266,oC "_law_sizes" "_law_sizes" 616 617 618 199 1 3 261 262 (r 263) (r 264) (r 265) 622 623),
 (267,oF (F 21) "_law_sizes" [] (n) (s "law_xr0023_01" 604) (r 266) (n)),
 (268,oT []),
 (269,oN []),
 (270,oT [s "levels" 628,s "luma" 629,s "warm" 630,s "cold" 631]),
 (271,oT []),
 (272,oA (F 22) "_law_own"),
 (273,oC "_law_own" "_law_own" 625 626 627 206 1 3 268 269 (r 270) (r 271) (r 272) 632 633),
 (274,oF (F 22) "_law_own" [] (n) (s "law_xr0023_01" 604) (r 273) (n)),
 (275,oT []),
 (276,oN []),
 (277,oA (F 23) "_law_told"),
 (278,oC "_law_told" "_law_told" 635 636 637 211 2 3 275 276 (n) (n) (r 277) 638 639),
 (279,oF (F 23) "_law_told" [] (n) (s "law_xr0023_01" 604) (r 278) (n)),
 (280,oT []),
 (281,oN []),
 (282,oT [s "start" 644,s "goal" 645,s "rungs" 646,s "rung" 647,s "meeting" 648]),
 (283,oT []),
 (284,oA (F 24) "_law_way"),
 (285,oC "_law_way" "_law_way" 641 642 643 220 2 3 280 281 (r 282) (r 283) (r 284) 649 650),
 (286,oF (F 24) "_law_way" [] (n) (s "law_xr0023_01" 604) (r 285) (n)),
 (287,oT []),
 (288,oN []),
 (289,oA (F 25) "_law_row"),
 (290,oC "_law_row" "_law_row" 652 653 654 232 4 3 287 288 (n) (n) (r 289) 655 656),
 (291,oF (F 25) "_law_row" [] (n) (s "law_xr0023_01" 604) (r 290) (n)),
 (292,oT []),
 (293,oN []),
 (294,oA (F 26) "_law_doors"),
 (295,oC "_law_doors" "_law_doors" 658 659 660 240 2 3 292 293 (n) (n) (r 294) 661 662),
 (296,oF (F 26) "_law_doors" [] (n) (s "law_xr0023_01" 604) (r 295) (n)),
 (297,oT []),
 (298,oN []),
 (299,oT [s "rows" 667,s "choices" 668,s "minors" 669,s "choice" 670,s "row" 671,s "total" 672,s "sign" 673,s "k" 674,s "rest" 675]),
 (300,oT []),
 (301,oA (F 27) "_law_det"),
 (302,oC "_law_det" "_law_det" 664 665 666 249 2 3 297 298 (r 299) (r 300) (r 301) 676 677),
 (303,oF (F 27) "_law_det" [] (n) (s "law_xr0023_01" 604) (r 302) (n)),
 (304,oT []),
 (305,oN []),
 (306,oA (F 28) "law"),
 (307,oC "law" "law" 679 680 681 259 1 3 304 305 (n) (n) (r 306) 682 683),
 (308,oF (F 28) "law" [] (n) (s "law_xr0023_01" 604) (r 307) (n))]
theorem keys(P:Params):as=(K P).map (·.1):=rfl
end KH
namespace KH
noncomputable def qv:Program:=view PySem.Challenge.pw_xr0023_01 [0,1,3,4,5,6,8,9,11,12,13,14,16,17,18,20,21,22,23,24,25,26,27,28]
noncomputable def loose:List Str:=["IPV4_RE","_Accumulator"]
noncomputable abbrev pr:Program:=PySem.Challenge.rw_xr0023_01.row.toRowW.prog
noncomputable abbrev cc (x:Nat):Str:=⟨#[x]⟩
noncomputable abbrev oG (a:Str) (k:Nat) (c:Value) (b:String) (d:Value):Obj:=⟨.type "getset_descriptor",none, .fields #[s a k,c,B b,d], #[]⟩
noncomputable def X (P:Params):List Obj:=[
 oG "__dict__" 201 (r 14) "function.__dict__" (B "function.__dict__#set"),
 oG "__weakref__" 203 (r 14) "ExceptionGroup.__weakref__" (n),
 ⟨n,none, .seq #[i 13,s "\x06½\n__module__\x06º\x11_frozen_importlib\x06¾\x0f__firstlineno__\x04»\x00ϋ\x06¿\x07__doc__\x094_frozen_importlib.BuiltinImporter.__doc__:str#opaque\x06À\x07_ORIGIN\x06¼\x08built-in\x06Á\x09find_spec\x092_frozen_importlib.BuiltinImporter.find_spec#opaque\x06Â\x0dcreate_module\x096_frozen_importlib.BuiltinImporter.create_module#opaque\x06Ã\x0bexec_module\x094_frozen_importlib.BuiltinImporter.exec_module#opaque\x06Ä\x08get_code\x091_frozen_importlib.BuiltinImporter.get_code#opaque\x06Å\nget_source\x093_frozen_importlib.BuiltinImporter.get_source#opaque\x06Æ\nis_package\x093_frozen_importlib.BuiltinImporter.is_package#opaque\x06Ç\x0bload_module\x094_frozen_importlib.BuiltinImporter.load_module#opaque\x06È\x15__static_attributes__\x04\x00\x00\x0f\x06Ê\x08__dict__\x04\x00\x00\x10\x06Ì\x0b__weakref__\x04\x00\x00\x11" 0,t,t,s "" 205,i 21,s "\x06ã\n__module__\x06Ù\x11_frozen_importlib\x06ä\x0f__firstlineno__\x04Ú\x00Ȳ\x06å\x07__doc__\x09/_frozen_importlib.ModuleSpec.__doc__:str#opaque\x06æ\x08__init__\x09,_frozen_importlib.ModuleSpec.__init__#opaque\x06ç\x08__repr__\x09,_frozen_importlib.ModuleSpec.__repr__#opaque\x06è\x06__eq__\x09*_frozen_importlib.ModuleSpec.__eq__#opaque\x06é\x06cached\x09*_frozen_importlib.ModuleSpec.cached#opaque\x06ê\x06parent\x09*_frozen_importlib.ModuleSpec.parent#opaque\x06ë\x0chas_location\x090_frozen_importlib.ModuleSpec.has_location#opaque\x06ì\x15__static_attributes__\x04\x00\x00\x17\x06î\x08__dict__\x04\x00\x00\x18\x06ð\x0b__weakref__\x04\x00\x00\x19\x06ñ\x08__hash__\x00" 0,t,t,s "" 242] 1, #[]⟩,
 ⟨.type "list",none, .seq #[] 0, #[]⟩,
 oD (T "dict") P 9 [("name",208,s "_sre" 207),("loader",209,r 14),("origin",210,s "built-in" 184),("loader_state",211,n),("submodule_search_locations",212,n),("_uninitialized_submodules",213,r 19),("_set_fileattr",214,f),("_cached",215,n),("_initializing",243,f)],
 oD (T "dict") P 13 [("__module__",227,s "_frozen_importlib" 217),("__firstlineno__",228,j (562) 218),("__doc__",229,B "_frozen_importlib.ModuleSpec.__doc__:str#opaque"),("__init__",230,B "_frozen_importlib.ModuleSpec.__init__#opaque"),("__repr__",231,B "_frozen_importlib.ModuleSpec.__repr__#opaque"),("__eq__",232,B "_frozen_importlib.ModuleSpec.__eq__#opaque"),("cached",233,B "_frozen_importlib.ModuleSpec.cached#opaque"),("parent",234,B "_frozen_importlib.ModuleSpec.parent#opaque"),("has_location",235,B "_frozen_importlib.ModuleSpec.has_location#opaque"),("__static_attributes__",236,r 23),("__dict__",238,r 24),("__weakref__",240,r 25),("__hash__",241,n)],
 ⟨.type "type",none, .cls {name:="ModuleSpec",bases:=[T "object"],mro:=[r 22,T "object"],ns:=21,qualname:="ModuleSpec"}, #[]⟩,
 oT [s "_cached" 219,s "_set_fileattr" 220,s "_uninitialized_submodules" 221,s "loader" 222,s "loader_state" 223,s "name" 224,s "origin" 225,s "submodule_search_locations" 226],
 oG "__dict__" 237 (r 22) "function.__dict__" (B "function.__dict__#set"),
 oG "__weakref__" 239 (r 22) "ExceptionGroup.__weakref__" (n),
 ⟨(r 22),some 20, .plain, #[]⟩,
 ⟨n,none, .seq #[i 11,s ("\x06÷\x08__name__\x06ö\x04_sre\x06ø\x07__doc__\x00\x06ú\x0b__package__\x06ù\x00\x06û\n__loader__\x04\x00\x00\x0e\x06ü\x08__spec__\x04\x00\x00\x1a\x06ý\x07compile\x09\x0c_sre.compile\x06þ\x08template\x09\x0d_sre.template\x06ÿ\x0bgetcodesize\x09\x10_sre.getcodesize\x06Ā\x0dascii_iscased\x09\x12_sre.ascii_iscased\x06ā\x0funicode_iscased\x09\x14_sre.unicode_iscased\x06Ă\x0dascii_tolower\x09\x12_sre.ascii_tolower\x06ă\x0funicode_tolower\x09\x14_sre.unicode_tolower\x06ą\x05MAGIC\x04Ą\x00"++cc 20230612++"\x06ć\x08CODESIZE\x04Ć\x00\x04\x06ĉ\x09MAXREPEAT\x04Ĉ\x00"++cc 4294967295++"\x06ċ\x09MAXGROUPS\x04Ċ\x00"++cc 1073741823++"\x06č\x09copyright\x06Č5 SRE 2.2.2 Copyright (c) 1997-2002 by Secret Labs AB ") 0,t,f,s "_sre" 271] 0, #[]⟩,
 oT [],
 oN [i 2,i 0,r 37,i 7,i 0,r 49,i 15,i 0,r 56,i 30,i 0,r 63,i 39,i 0,r 70,i 44,i 0,r 77,i 64,i 0,r 84,i 132,i 0,r 162,i 170,i 0,r 245,i 182,i 0,r 252,i 194,i 0,r 259,i 199,i 0,r 266,i 206,i 0,r 273,i 211,i 0,r 278,i 220,i 0,r 285,i 232,i 0,r 290,i 240,i 0,r 295,i 249,i 0,r 302,i 259,i 0,r 307],
 ⟨.type "code",none, .fields #[s "<module>" 277,s "<module>" 278,s "/claim/cut.py" 279,i 1,i 0,i 0,i 0,i 0,r 28,f,i 276,r 29,n,n,n,n,i 280,i 1,s "/claim/cut.py" 281], #[]⟩,
 ⟨.type "frame",none, .plain, #[some (r 30),some (r 3),some (r 3),none,some (s "__main__" 164),none,some (r 0)]⟩,
 ⟨.type "list",none, .seq #[j (14) 294,j (8) 295,j (1) 296,j (2) 297,j (4294967295) 298,j (1) 299,j (1) 300,j (46) 301,j (0) 302,j (16) 303,j (46) 304,j (24) 305,j (9) 306,j (1) 307,j (4294967295) 308,j (13) 309,j (4) 310,j (8) 311,j (0) 312,j (0) 313,j (1) 314,j (6) 315,j (5) 316,j (1) 317] 0, #[]⟩,
 oD (T "dict") P 0 [],
 oT [n],
 oT [],
 ⟨.type "builtin_function_or_method",none, .fields #[B "type.__prepare__",T "type"], #[]⟩,
 oD (T "dict") P 13 [("__module__",385,s "cpy313.email.header" 372),("__qualname__",387,s "_ValueFormatter" 386),("__firstlineno__",389,j (64) 388),("__init__",400,r 92),("_str",408,r 99),("__str__",415,r 106),("newline",423,r 113),("add_transition",430,r 120),("feed",440,r 127),("_maxlengths",447,r 134),("_ascii_split",457,r 141),("_append_chunk",471,r 148),("__static_attributes__",478,r 149)],
 oT [],
 oN [i 66,i 4,r 91,i 74,i 4,r 98,i 78,i 4,r 105,i 81,i 4,r 112,i 92,i 4,r 119,i 95,i 4,r 126,i 98,i 4,r 133,i 103,i 4,r 140,i 106,i 4,r 147],
 ⟨.type "code",none, .fields #[s "_ValueFormatter" 380,s "_ValueFormatter" 381,s "/claim/cut.py" 382,i 64,i 0,i 0,i 0,i 0,r 82,f,i 276,r 83,n,n,n,n,i 383,i 64,s "/claim/cut.py" 384], #[]⟩,
 ⟨.type "frame",none, .plain, #[some (r 84),some (r 3),some (r 81),none,some (s "cpy313.email.header" 372),none,some (r 0)]⟩,
 ⟨.type "super",none, .fields #[r 151,r 151,r 151], #[]⟩,
 ⟨.type "builtin_function_or_method",none, .fields #[B "object.__init_subclass__",r 151], #[]⟩,
 ⟨.type "builtin_function_or_method",none, .fields #[B "type.__prepare__",T "type"], #[]⟩,
 oD (T "dict") P 14 [("__module__",493,s "cpy313.email.header" 372),("__qualname__",495,s "_Accumulator" 494),("__firstlineno__",497,j (132) 496),("__init__",507,r 172),("push",516,r 179),("pop_from",526,r 187),("pop",534,r 195),("__len__",541,r 202),("__str__",548,r 209),("reset",556,r 217),("is_onlyws",563,r 224),("part_count",571,r 232),("__static_attributes__",573,r 233),("__classcell__",574,r 159)],
 oT [],
 oN [i 134,i 4,r 171,i 138,i 4,r 178,i 141,i 4,r 186,i 146,i 4,r 194,i 151,i 4,r 201,i 154,i 4,r 208,i 157,i 4,r 216,i 163,i 4,r 223,i 166,i 4,r 231],
 ⟨.type "code",none, .fields #[s "_Accumulator" 488,s "_Accumulator" 489,s "/claim/cut.py" 490,i 132,i 0,i 0,i 0,i 0,r 160,f,i 276,r 161,n,n,n,n,i 491,i 132,s "/claim/cut.py" 492], #[]⟩,
 ⟨.type "frame",none, .plain, #[some (r 162),some (r 3),some (r 158),none,some (s "cpy313.email.header" 372),none,some (r 0)]⟩,
 ⟨.type "super",none, .fields #[r 235,r 235,r 235], #[]⟩,
 ⟨.type "builtin_function_or_method",none, .fields #[B "object.__init_subclass__",r 235], #[]⟩]
noncomputable def mg:Nat→Nat→Frag→List Obj→List Obj
 |0,_,_,_=>[]
 |m+1,a,k,x=>match k with
  | []=>[]
  |p::k'=>match Nat.beq a p.1 with
   |true=>p.2::mg m (a+1) k' x
   |false=>match x with
    | []=>[]
    |o::x'=>o::mg m (a+1) k x'
noncomputable def h0 (P:Params):Heap:=⟨((mg 28 0 (K P) (X P)).set 3 (oD (T "dict") P 10 [("__name__",165,s "__main__" 164),("__doc__",166,n),("__package__",167,n),("__loader__",168,B "__main__.__loader__#opaque"),("__spec__",169,n),("__annotations__",170,r 6),("__builtins__",171,r 4),("__file__",173,s "/claim/cut.py" 172),("__cached__",174,n),("_sre",275,r 12)])).toArray,{}⟩
noncomputable def h1 (P:Params):Heap:=⟨(mg 309 0 (K P) (X P)).toArray,{}⟩
theorem hl0(w:World):(fencedOpening treeTable pr w 3448).map (fun s=>(s.heap,s.gens,s.drawn,s.toks))=some (h0 w.params, #[],{},276):=by kernel_rfl
theorem hlz(w:World):((h0 w.params).isNs mainGlobals&&(#[]:Array GenState).size==0,(h0 w.params).objs.size,(h0 w.params).nsMap mainGlobals "__annotations__")=(true,28,some (.ref 6)):=by kernel_rfl
theorem hlr(w:World)(os:OsState):topRun treeTable pr w 28 (some (.ref 6)) 3448 ⟨h0 w.params, #[],{},276,os⟩ (topStub pr)=some ⟨h1 w.params, #[],{},685,os⟩:=by kernel_rfl
theorem hlk(w:World):(fun os=>((staticsOk (importedModules pr.main.body) (h0 w.params) (h1 w.params)&&namesBound pr (h1 w.params)&&gensDone ⟨h1 w.params, #[],{},685,os⟩&&laidKept (h0 w.params) (h1 w.params)),
  openSeen qv loose (importedModules pr.main.body) (fun s=>xlAt qv [] s&&recOk (RowW.records PySem.Challenge.rw_xr0023_01.row.toRowW) s) true ⟨h1 w.params, #[],{},685,os⟩,obsZ as ⟨h1 w.params, #[],{},685,os⟩))=fun μ=>(true,openGood qv loose,valZ K 309 685 w):=by kernel_rfl
theorem hl:LeftO PySem.Challenge.rw_xr0023_01.row.toRowW.prog qv loose (fun s=>xlAt qv [] s&&recOk (RowW.records PySem.Challenge.rw_xr0023_01.row.toRowW) s) (obsZ as) (valZ K 309 685) 3448:=LeftO.of_pieces hl0 hlz hlr rfl hlk
end KH
end Mine
end
noncomputable section
namespace Mine
set_option backward.match.sparseCases true
universe u1 u2 u3 u4 u5 u6 u7 u8 u9
theorem exI2{α1:Sort u1}{α2:Sort u2}{P:α1→α2→Prop}(x1:α1)(x2:α2)(h:P x1 x2):∃x1 x2,P x1 x2:=⟨x1,x2,h⟩
theorem exE2{α1:Sort u1}{α2:Sort u2}{P:α1→α2→Prop}{R:Prop}(h:∃x1 x2,P x1 x2)(f:∀x1 x2,P x1 x2→R):R:=h.elim fun x1 h=>h.elim (f x1)
theorem exI3{α1:Sort u1}{α2:Sort u2}{α3:Sort u3}{P:α1→α2→α3→Prop}(x1:α1)(x2:α2)(x3:α3)(h:P x1 x2 x3):∃x1 x2 x3,P x1 x2 x3:=⟨x1,exI2 x2 x3 h⟩
theorem exE3{α1:Sort u1}{α2:Sort u2}{α3:Sort u3}{P:α1→α2→α3→Prop}{R:Prop}(h:∃x1 x2 x3,P x1 x2 x3)(f:∀x1 x2 x3,P x1 x2 x3→R):R:=h.elim fun x1 h=>exE2 h (f x1)
theorem exI4{α1:Sort u1}{α2:Sort u2}{α3:Sort u3}{α4:Sort u4}{P:α1→α2→α3→α4→Prop}(x1:α1)(x2:α2)(x3:α3)(x4:α4)(h:P x1 x2 x3 x4):∃x1 x2 x3 x4,P x1 x2 x3 x4:=⟨x1,exI3 x2 x3 x4 h⟩
theorem exE4{α1:Sort u1}{α2:Sort u2}{α3:Sort u3}{α4:Sort u4}{P:α1→α2→α3→α4→Prop}{R:Prop}(h:∃x1 x2 x3 x4,P x1 x2 x3 x4)(f:∀x1 x2 x3 x4,P x1 x2 x3 x4→R):R:=h.elim fun x1 h=>exE3 h (f x1)
theorem exI5{α1:Sort u1}{α2:Sort u2}{α3:Sort u3}{α4:Sort u4}{α5:Sort u5}{P:α1→α2→α3→α4→α5→Prop}(x1:α1)(x2:α2)(x3:α3)(x4:α4)(x5:α5)(h:P x1 x2 x3 x4 x5):∃x1 x2 x3 x4 x5,P x1 x2 x3 x4 x5:=⟨x1,exI4 x2 x3 x4 x5 h⟩
theorem exE5{α1:Sort u1}{α2:Sort u2}{α3:Sort u3}{α4:Sort u4}{α5:Sort u5}{P:α1→α2→α3→α4→α5→Prop}{R:Prop}(h:∃x1 x2 x3 x4 x5,P x1 x2 x3 x4 x5)(f:∀x1 x2 x3 x4 x5,P x1 x2 x3 x4 x5→R):R:=h.elim fun x1 h=>exE4 h (f x1)
theorem exI6{α1:Sort u1}{α2:Sort u2}{α3:Sort u3}{α4:Sort u4}{α5:Sort u5}{α6:Sort u6}{P:α1→α2→α3→α4→α5→α6→Prop}(x1:α1)(x2:α2)(x3:α3)(x4:α4)(x5:α5)(x6:α6)(h:P x1 x2 x3 x4 x5 x6):∃x1 x2 x3 x4 x5 x6,P x1 x2 x3 x4 x5 x6:=⟨x1,exI5 x2 x3 x4 x5 x6 h⟩
theorem exE6{α1:Sort u1}{α2:Sort u2}{α3:Sort u3}{α4:Sort u4}{α5:Sort u5}{α6:Sort u6}{P:α1→α2→α3→α4→α5→α6→Prop}{R:Prop}(h:∃x1 x2 x3 x4 x5 x6,P x1 x2 x3 x4 x5 x6)(f:∀x1 x2 x3 x4 x5 x6,P x1 x2 x3 x4 x5 x6→R):R:=h.elim fun x1 h=>exE5 h (f x1)
theorem exI7{α1:Sort u1}{α2:Sort u2}{α3:Sort u3}{α4:Sort u4}{α5:Sort u5}{α6:Sort u6}{α7:Sort u7}{P:α1→α2→α3→α4→α5→α6→α7→Prop}(x1:α1)(x2:α2)(x3:α3)(x4:α4)(x5:α5)(x6:α6)(x7:α7)(h:P x1 x2 x3 x4 x5 x6 x7):∃x1 x2 x3 x4 x5 x6 x7,P x1 x2 x3 x4 x5 x6 x7:=⟨x1,exI6 x2 x3 x4 x5 x6 x7 h⟩
theorem exE7{α1:Sort u1}{α2:Sort u2}{α3:Sort u3}{α4:Sort u4}{α5:Sort u5}{α6:Sort u6}{α7:Sort u7}{P:α1→α2→α3→α4→α5→α6→α7→Prop}{R:Prop}(h:∃x1 x2 x3 x4 x5 x6 x7,P x1 x2 x3 x4 x5 x6 x7)(f:∀x1 x2 x3 x4 x5 x6 x7,P x1 x2 x3 x4 x5 x6 x7→R):R:=h.elim fun x1 h=>exE6 h (f x1)
theorem exI8{α1:Sort u1}{α2:Sort u2}{α3:Sort u3}{α4:Sort u4}{α5:Sort u5}{α6:Sort u6}{α7:Sort u7}{α8:Sort u8}{P:α1→α2→α3→α4→α5→α6→α7→α8→Prop}(x1:α1)(x2:α2)(x3:α3)(x4:α4)(x5:α5)(x6:α6)(x7:α7)(x8:α8)(h:P x1 x2 x3 x4 x5 x6 x7 x8):∃x1 x2 x3 x4 x5 x6 x7 x8,P x1 x2 x3 x4 x5 x6 x7 x8:=⟨x1,exI7 x2 x3 x4 x5 x6 x7 x8 h⟩
theorem exE8{α1:Sort u1}{α2:Sort u2}{α3:Sort u3}{α4:Sort u4}{α5:Sort u5}{α6:Sort u6}{α7:Sort u7}{α8:Sort u8}{P:α1→α2→α3→α4→α5→α6→α7→α8→Prop}{R:Prop}(h:∃x1 x2 x3 x4 x5 x6 x7 x8,P x1 x2 x3 x4 x5 x6 x7 x8)(f:∀x1 x2 x3 x4 x5 x6 x7 x8,P x1 x2 x3 x4 x5 x6 x7 x8→R):R:=h.elim fun x1 h=>exE7 h (f x1)
theorem exI9{α1:Sort u1}{α2:Sort u2}{α3:Sort u3}{α4:Sort u4}{α5:Sort u5}{α6:Sort u6}{α7:Sort u7}{α8:Sort u8}{α9:Sort u9}{P:α1→α2→α3→α4→α5→α6→α7→α8→α9→Prop}(x1:α1)(x2:α2)(x3:α3)(x4:α4)(x5:α5)(x6:α6)(x7:α7)(x8:α8)(x9:α9)(h:P x1 x2 x3 x4 x5 x6 x7 x8 x9):∃x1 x2 x3 x4 x5 x6 x7 x8 x9,P x1 x2 x3 x4 x5 x6 x7 x8 x9:=⟨x1,exI8 x2 x3 x4 x5 x6 x7 x8 x9 h⟩
theorem exE9{α1:Sort u1}{α2:Sort u2}{α3:Sort u3}{α4:Sort u4}{α5:Sort u5}{α6:Sort u6}{α7:Sort u7}{α8:Sort u8}{α9:Sort u9}{P:α1→α2→α3→α4→α5→α6→α7→α8→α9→Prop}{R:Prop}(h:∃x1 x2 x3 x4 x5 x6 x7 x8 x9,P x1 x2 x3 x4 x5 x6 x7 x8 x9)(f:∀x1 x2 x3 x4 x5 x6 x7 x8 x9,P x1 x2 x3 x4 x5 x6 x7 x8 x9→R):R:=h.elim fun x1 h=>exE8 h (f x1)
theorem anE2{p1 p2 R:Prop}(h:p1∧p2)(f:p1→p2→R):R:=f h.1 h.2
theorem anE3{p1 p2 p3 R:Prop}(h:p1∧p2∧p3)(f:p1→p2→p3→R):R:=anE2 h.2 (f h.1)
theorem anE4{p1 p2 p3 p4 R:Prop}(h:p1∧p2∧p3∧p4)(f:p1→p2→p3→p4→R):R:=anE3 h.2 (f h.1)
theorem anE5{p1 p2 p3 p4 p5 R:Prop}(h:p1∧p2∧p3∧p4∧p5)(f:p1→p2→p3→p4→p5→R):R:=anE4 h.2 (f h.1)
theorem anE6{p1 p2 p3 p4 p5 p6 R:Prop}(h:p1∧p2∧p3∧p4∧p5∧p6)(f:p1→p2→p3→p4→p5→p6→R):R:=anE5 h.2 (f h.1)
theorem anE7{p1 p2 p3 p4 p5 p6 p7 R:Prop}(h:p1∧p2∧p3∧p4∧p5∧p6∧p7)(f:p1→p2→p3→p4→p5→p6→p7→R):R:=anE6 h.2 (f h.1)
theorem anE8{p1 p2 p3 p4 p5 p6 p7 p8 R:Prop}(h:p1∧p2∧p3∧p4∧p5∧p6∧p7∧p8)(f:p1→p2→p3→p4→p5→p6→p7→p8→R):R:=anE7 h.2 (f h.1)
theorem anE9{p1 p2 p3 p4 p5 p6 p7 p8 p9 R:Prop}(h:p1∧p2∧p3∧p4∧p5∧p6∧p7∧p8∧p9)(f:p1→p2→p3→p4→p5→p6→p7→p8→p9→R):R:=anE8 h.2 (f h.1)
end Mine
end
noncomputable section
open PySem
namespace Mine
set_option backward.match.sparseCases false
inductive Bad:Nat→Prop
theorem noB{n:Nat}{p:Prop}(h:Bad n):p:=nomatch h
theorem nnO{α:Type}{a:α}{p:Prop}(h:none=some a):p:=nomatch h
theorem ftB{p:Prop}(h:false=true):p:=nomatch h
theorem tfB{p:Prop}(h:true=false):p:=nomatch h
inductive V where
 |none
 |bool (b:Bool)
 |int (i:Int) (b:Nat)
 |flt (x:UInt64)
 |str (s:Str) (b:Nat)
 |tup (vs:List V)
 |ref (i:Nat)
noncomputable def V.lit(i:Int):V:= .int i (i.natAbs+1)
noncomputable def V.txt(s:Str):V:= .str s s.length
structure Chunk where
 f:Str
 fb:Nat
 s:Str
 sb:Nat
structure Page where
 init:Int
 initb:Nat
 cur:List Chunk
 lines:List (Str×Nat)
 lead:Int
 leadb:Nat
inductive AO where
 |list (vs:List V)
 |page (p:Page)
 |rooms (page:Nat) (st:Nat)
inductive Tr(α:Type) where
 |nil
 |node (v:Option α) (l r:Tr α)
namespace Tr
variable{α:Type}
noncomputable def get(t:Tr α):Nat→Option α:=Tr.rec (motive:=fun μ=>Nat→Option α) (fun μ=>none)
 (fun v μ μ gl gr i=>Bool.rec (Bool.rec (gr (Nat.sub (Nat.div i 2) 1)) (gl (Nat.div i 2)) (Nat.beq (Nat.mod i 2) 1)) v (Nat.beq i 0)) t
noncomputable def put(f:Nat):Tr α→Nat→α→Tr α:=Nat.rec (motive:=fun μ=>Tr α→Nat→α→Tr α) (fun t μ μ=>t)
 (fun μ ih t i o=>Tr.rec (motive:=fun μ=>Tr α)
  (Bool.rec (Bool.rec (.node none .nil (ih .nil (Nat.sub (Nat.div i 2) 1) o)) (.node none (ih .nil (Nat.div i 2) o) .nil) (Nat.beq (Nat.mod i 2) 1)) (.node (some o) .nil .nil) (Nat.beq i 0))
  (fun v l r μ μ=>Bool.rec (Bool.rec (.node v l (ih r (Nat.sub (Nat.div i 2) 1) o)) (.node v (ih l (Nat.div i 2) o) r) (Nat.beq (Nat.mod i 2) 1)) (.node (some o) l r) (Nat.beq i 0)) t) f
end Tr
structure St where
 m:List (Str×V)
 n:Nat
 σ:Tr AO
noncomputable def Za6(a:List Nat):List Nat→Bool:=List.rec (motive:=fun μ=>List Nat→Bool)
 (fun b=>List.rec (motive:=fun μ=>Bool) true (fun μ μ μ=>false) b)
 (fun x μ ih b=>List.rec (motive:=fun μ=>Bool) false (fun y t μ=>Bool.rec false (ih t) (Nat.beq x y)) b) a
theorem Zdv(a:Nat)(r:List Nat)(b:Nat)(t:List Nat):Za6 (a::r) (b::t)=match Nat.beq a b with
  |true=>Za6 r t
  |false=>false:=by
 show(Bool.rec false (Za6 r t) (Nat.beq a b):Bool)=_;cases Nat.beq a b<;>rfl
noncomputable def strEq(a b:Str):Bool:=Za6 a.cps.toList b.cps.toList
noncomputable def lookS{β:Type}(x:Str)(l:List (Str×β)):Option β:=List.rec (motive:=fun μ=>Option β) none (fun p μ ih=>Prod.rec (motive:=fun μ=>Option β) (fun y v=>Bool.rec ih (some v) (strEq y x)) p) l
theorem ZE{β:Type}(x y:Str)(v:β)(r:List (Str×β)):lookS x ((y,v)::r)=match strEq y x with
  |true=>some v
  |false=>lookS x r:=by
 show(Bool.rec (lookS x r) (some v) (strEq y x):Option β)=_;cases strEq y x<;>rfl
noncomputable def updS{β:Type}(x:Str)(v:β)(l:List (Str×β)):List (Str×β):=List.rec (motive:=fun μ=>List (Str×β)) [(x,v)] (fun p r ih=>Prod.rec (motive:=fun μ=>List (Str×β)) (fun y u=>Bool.rec ((y,u)::ih) ((y,v)::r) (strEq y x)) p) l
theorem Zla{β:Type}(x:Str)(v:β):updS x v []=[(x,v)]:=rfl
theorem Zlb{β:Type}(x:Str)(v:β)(y:Str)(u:β)(r:List (Str×β)):updS x v ((y,u)::r)=match strEq y x with
  |true=>(y,v)::r
  |false=>(y,u)::updS x v r:=by
 show(Bool.rec ((y,u)::updS x v r) ((y,v)::r) (strEq y x):List (Str×β))=_;cases strEq y x<;>rfl
noncomputable def St.obj(st:St)(i:Nat):Option AO:=st.σ.get i
noncomputable def St.items(st:St)(i:Nat):Option (List V):=match st.σ.get i with
 |some (.list vs)=>some vs
 |_=>none
noncomputable def St.new(st:St)(o:AO):St:={st with n:=st.n+1,σ:=st.σ.put (st.n+1) st.n o}
noncomputable def St.put(st:St)(i:Nat)(o:AO):St:={st with σ:=st.σ.put (i+1) i o}
inductive Fl where
 |nxt|brk|cnt
 |ret (v:V)
inductive It where
 |list (id pos:Nat)
 |range (cur:Int) (n:Nat) (step:Int)
 |chars (cs:List Nat) (b:Nat)
noncomputable abbrev Sc:=List (Str×NameKind)
noncomputable abbrev KE:=V→St→Prop
noncomputable abbrev KS:=Fl→St→Prop
structure Rec where
 ex:Sc→Expr→St→KE→Prop
 ts:Sc→Expr→St→(Bool→St→Prop)→Prop
 ss:Sc→List Stmt→St→KS→Prop
 fl:Sc→Expr→List Stmt→List Stmt→It→St→KS→Prop
 wl:Sc→Expr→List Stmt→List Stmt→St→KS→Prop
 cl:Sc→Expr→Expr→List Expr→It→Nat→St→(St→Prop)→Prop
 fu:Nat
structure FnDef where
 params:Arguments
 body:List Stmt
 scope:Scope
noncomputable abbrev Con:=List V→St→KE→Prop
structure G where
 fn:Str→Option FnDef
 con:Str→Option Con
 cut:Pos→Option V
 need:Str→Nat
noncomputable def likeI(i:Int):V→Prop
 | .int j b=>i=j∧(b≠0→i.natAbs<b)
 |_=>Bad 1
noncomputable def likeB(c:Bool):V→Prop
 | .bool b=>c=b
 |_=>Bad 1
noncomputable def likeS(s:Str):V→Prop
 | .str t b=>s=t∧s.length≤b
 |_=>Bad 1
noncomputable def V.like:V→V→Prop
 | .int i _,w=>likeI i w
 | .bool b,w=>likeB b w
 | .str s _,w=>likeS s w
 |_,_=>Bad 1
noncomputable def cutK(g:G)(p:Pos)(k:KE):KE:=match g.cut p with
 |none=>k
 |some v'=>fun v st=>v.like v'∧k v' st
noncomputable def cutB(g:G)(p:Pos)(k:Bool→St→Prop):Bool→St→Prop:=match g.cut p with
 |some (.bool b')=>fun b st=>b=b'∧k b' st
 |_=>k
noncomputable def big:Nat:=2 ^ 8192
noncomputable def mulB(x y:Nat):Nat:=match Nat.beq x 0 || Nat.beq y 0 with
 |true=>0
 |false=>(x-1)*(y-1)+1
noncomputable def addB(x y:Nat):Nat:=match Nat.beq x 0 || Nat.beq y 0 with
 |true=>0
 |false=>x+y-1
noncomputable def under(b lid:Nat):Bool:=!Nat.beq b 0&&Nat.ble b lid
noncomputable def intO{α:Type}(v:V)(k:Int→α):Option α:=match v with
 | .int j _=>some (k j)
 |_=>none
noncomputable def strO{α:Type}(v:V)(k:Str→α):Option α:=match v with
 | .str s _=>some (k s)
 |_=>none
noncomputable def Jv(a b:V):Option Bool:=match a with
 | .int i _=>intO b fun j=>decide (i=j)
 | .str s _=>strO b fun t=>strEq s t
 |_=>none
noncomputable def ZeJ:List V→List V→Option Bool
 | [],bs=>match bs with
  | []=>some true
  |_::_=>none
 |a::r,bs=>match bs with
  | []=>none
  |b::t=>(Jv a b).bind fun c=>(ZeJ r t).bind fun d=>some (c&&d)
noncomputable def ZeI(a b:List V):Option Bool:=match Nat.beq a.length b.length with
 |true=>ZeJ a b
 |false=>some false
noncomputable def eqRef(st:St)(i j:Nat):Option Bool:=match Nat.beq i j with
 |true=>none
 |false=>(st.items i).bind fun a=>(st.items j).bind fun b=>ZeI a b
noncomputable def eqV(st:St)(a b:V):Option Bool:=match a with
 | .ref i=>match b with
  | .ref j=>eqRef st i j
  |_=>none
 |a=>Jv a b
noncomputable def eqAll(st:St)(x:V):List V→Option (List Bool)
 | []=>some []
 |y::r=>(eqV st y x).bind fun c=>(eqAll st x r).bind fun l=>some (c::l)
noncomputable def anyB:List Bool→Bool
 | []=>false
 |b::r=>match b with
  |true=>true
  |false=>anyB r
noncomputable def idxB:List Bool→Option Nat
 | []=>none
 |b::r=>match b with
  |true=>some 0
  |false=>(idxB r).bind fun n=>some (n+1)
noncomputable def Zm5(st:St)(x:V)(l:List V):Option Bool:=(eqAll st x l).bind fun bs=>some (anyB bs)
noncomputable def Zks(st:St)(x:V)(l:List V):Option Nat:=(eqAll st x l).bind idxB
noncomputable def Y8(i:Int)(n:Nat):Option Nat:=match i with
 | .ofNat k=>match Nat.blt k n with
  |true=>some k
  |false=>none
 | .negSucc k=>match Nat.blt k n with
  |true=>some (n-(k+1))
  |false=>none
noncomputable def lidN(n:Nat):Nat:=match Nat.ble n 4096 with
 |true=>n
 |false=>0
noncomputable def gdO{α:Type}(c:Bool)(o:Option α):Option α:=match c with
 |true=>o
 |false=>none
theorem Y9{α:Type}{c:Bool}{o:Option α}{a:α}(h:gdO c o=some a):c=true∧o=some a:=by
 cases c with
 |true=>exact⟨rfl,h⟩
 |false=>exact nnO h
noncomputable def strOO{α:Type}(v:V)(k:Str→Nat→Option α):Option α:=match v with
 | .str s b=>k s b
 |_=>none
theorem Zjw{α:Type}{v:V}{k:Str→Nat→Option α}{a:α}(h:strOO v k=some a):∃x p,v= .str x p∧k x p=some a:=by
 cases v with
 |str x p=>exact⟨x,p,rfl,h⟩
 |_=>exact nnO h
noncomputable def intOO{α:Type}(v:V)(k:Int→Nat→Option α):Option α:=match v with
 | .int x p=>k x p
 |_=>none
theorem Zft{α:Type}{v:V}{k:Int→Nat→Option α}{a:α}(h:intOO v k=some a):∃x p,v= .int x p∧k x p=some a:=by
 cases v with
 |int x p=>exact⟨x,p,rfl,h⟩
 |_=>exact nnO h
noncomputable def sumV:List V→Int→Nat→Option (Int×Nat)
 | [],a,b=>some (a,b)
 |v::r,a,b=>intOO v fun i c=>gdO (!Nat.beq c 0) (sumV r (a+i) (b+c-1))
noncomputable def repL(n:Nat)(vs:List V):List V:=(List.replicate n vs).flatten
noncomputable def JU(x:UInt64):Int:=match Float64.decode x with
 | .fin sg m e=>Float64.truncOf sg m e
 |_=>0
noncomputable def gd(c:Bool)(n:Nat)(p:Prop):Prop:=match c with
 |true=>p
 |false=>Bad n
noncomputable def ifB(c:Bool)(p q:Prop):Prop:=match c with
 |true=>p
 |false=>q
noncomputable def Zk{α:Type}(o:Option α)(n:Nat)(k:α→Prop):Prop:=match o with
 |some a=>k a
 |none=>Bad n
noncomputable def Zo(v:V)(n:Nat)(k:Int→Nat→Prop):Prop:=match v with
 | .int i b=>k i b
 |_=>Bad n
noncomputable def Z0(v:V)(n:Nat)(k:Str→Nat→Prop):Prop:=match v with
 | .str s b=>k s b
 |_=>Bad n
noncomputable def Z2(v:V)(n:Nat)(k:Nat→Prop):Prop:=match v with
 | .ref i=>k i
 |_=>Bad n
noncomputable def noArg(vs:List V)(n:Nat)(p:Prop):Prop:=match vs with
 | []=>p
 |_::_=>Bad n
noncomputable def Z8(vs:List V)(n:Nat)(k:V→Prop):Prop:=match vs with
 |v::r=>noArg r n (k v)
 | []=>Bad n
theorem gd_of{c:Bool}{n:Nat}{p:Prop}(h:gd c n p):c=true∧p:=by
 cases c with
 |true=>exact⟨rfl,h⟩
 |false=>cases h
theorem Zd{α:Type}{o:Option α}{n:Nat}{k:α→Prop}(h:Zk o n k):∃a,o=some a∧k a:=by
 cases o with
 |some a=>exact⟨a,rfl,h⟩
 |none=>cases h
noncomputable def appF(x y:Str):Str:=⟨(x.cps.toList++y.cps.toList).toArray⟩
noncomputable def addF(x:UInt64)(b:V)(st:St)(k:KE):Prop:=match b with
 | .flt y=>k (.flt (Float64.add x y)) st
 |b=>Zo b 17 fun n q=>gd (under q (2 ^ 1000)) 13 (k (.flt (Float64.add x (Float64.ofInt n))) st)
noncomputable def subF(x:UInt64)(b:V)(st:St)(k:KE):Prop:=match b with
 | .flt y=>k (.flt (Float64.sub x y)) st
 |b=>Zo b 17 fun n q=>gd (under q (2 ^ 1000)) 14 (k (.flt (Float64.sub x (Float64.ofInt n))) st)
noncomputable def mulF(x:UInt64)(b:V)(st:St)(k:KE):Prop:=match b with
 | .flt y=>k (.flt (Float64.mul x y)) st
 |b=>Zo b 17 fun n q=>gd (under q (2 ^ 1000)) 15 (k (.flt (Float64.mul x (Float64.ofInt n))) st)
noncomputable def mulI(x:Int)(p:Nat)(b:V)(st:St)(k:KE):Prop:=match b with
 | .flt y=>gd (under p (2 ^ 1000)) 16 (k (.flt (Float64.mul (Float64.ofInt x) y)) st)
 |b=>Zo b 17 fun y q=>gd (under p big&&under q big) 2 (k (.int (x*y) (mulB p q)) st)
noncomputable def fAdd(a b:V)(st:St)(k:KE):Prop:=match a with
 | .int x p=>Zo b 17 fun y q=>k (.int (x+y) (addB p q)) st
 | .str x p=>Z0 b 17 fun y q=>gd (Nat.ble (p+q) 4096) 7 (k (.str (appF x y) (p+q)) st)
 | .flt x=>addF x b st k
 |a=>Z2 a 17 fun i=>Z2 b 17 fun j=>Zk (st.items i) 10 fun xs=>Zk (st.items j) 10 fun ys=>gd (Nat.ble (xs.length+ys.length) 4096) 9 (k (.ref st.n) (st.new (.list (xs++ys))))
noncomputable def fSub(a b:V)(st:St)(k:KE):Prop:=match a with
 | .flt x=>subF x b st k
 |a=>Zo a 17 fun x p=>Zo b 17 fun y q=>k (.int (x-y) (addB p q)) st
noncomputable def fMul(a b:V)(st:St)(k:KE):Prop:=match a with
 | .int x p=>mulI x p b st k
 | .str x p=>Zo b 17 fun n q=>gd (under q 64&&Nat.ble p 64) 8 (k (.str (Txt.mul x n) (p*(q-1))) st)
 | .flt x=>mulF x b st k
 |a=>Z2 a 17 fun i=>Zo b 17 fun n q=>Zk (st.items i) 12 fun xs=>gd (under q 64&&Nat.ble xs.length 64) 11 (k (.ref st.n) (st.new (.list (repL n.toNat xs))))
noncomputable def binA(op:Operator)(a b:V)(st:St)(k:KE):Prop:=match op with
 | .Add=>fAdd a b st k
 | .Sub=>fSub a b st k
 | .Mult=>fMul a b st k
 | .FloorDiv=>Zo a 17 fun x p=>Zo b 17 fun y q=>gd (under q (2 ^ 30)&&!decide (y=0)) 3 (k (.int (x.fdiv y) p) st)
 | .Mod=>Zo a 17 fun x μ=>Zo b 17 fun y q=>gd (!decide (y=0)) 4 (k (.int (x.fmod y) (q-1)) st)
 | .Pow=>Zo a 17 fun x p=>Zo b 17 fun y q=>gd (under p 16&&under q 16&&decide (0≤y)) 5 (k (.int (x ^ y.toNat) (p ^ y.toNat+1)) st)
 | .Div=>Zo a 17 fun x p=>Zo b 17 fun y q=>gd (under p 1024&&under q 1024&&!decide (y=0)) 6 (Float64.isInf (Float64.ofFrac (decide (x<0) !=decide (y<0)) x.natAbs y.natAbs)=false∧k (.flt (Float64.ofFrac (decide (x<0) !=decide (y<0)) x.natAbs y.natAbs)) st)
 |_=>Bad 17
noncomputable def binI(op:Operator)(a b:V)(st:St)(k:KE):Prop:=match op with
 | .Add=>Zo a 206 fun x p=>Zo b 206 fun y q=>k (.int (x+y) (addB p q)) st
 | .Mult=>Zo a 206 fun x p=>Zo b 206 fun y q=>gd (under p big&&under q big) 205 (k (.int (x*y) (mulB p q)) st)
 |_=>Bad 206
noncomputable def Zfr:V→Bool
 | .none=>true
 |_=>false
noncomputable def isTrueV:V→Bool
 | .bool b=>b
 |_=>false
noncomputable def Zas(v:V)(n:Nat)(k:UInt64→Prop):Prop:=match v with
 | .flt x=>k x
 |_=>Bad n
noncomputable def Zcz(v:V)(n:Nat)(p:Prop):Prop:=match v with
 | .none=>p
 |_=>Bad n
noncomputable def inA(st:St)(a b:V)(k:Bool→Prop):Prop:=Z2 b 22 fun i=>Zk (st.items i) 21 fun xs=>Zk (Zm5 st a xs) 20 k
noncomputable def gtF(x:UInt64)(b:V)(k:Bool→Prop):Prop:=match b with
 | .flt y=>k (Float64.cmp x y==some Ordering.gt)
 |b=>Zo b 30 fun n μ=>k (Float64.cmpInt x n==some Ordering.gt)
noncomputable def ltA(a b:V)(k:Bool→Prop):Prop:=match a with
 | .flt x=>Zas b 29 fun y=>k (Float64.cmp x y==some Ordering.lt)
 |a=>Zo a 29 fun x μ=>Zo b 29 fun y μ=>k (decide (x<y))
noncomputable def gtA(a b:V)(k:Bool→Prop):Prop:=match a with
 | .flt x=>gtF x b k
 |a=>Zo a 30 fun x μ=>Zo b 30 fun y μ=>k (decide (x > y))
noncomputable def Zns(v:V)(n:Nat)(k:Bool→Prop):Prop:=match v with
 | .bool b=>k b
 |_=>Bad n
noncomputable def ZlA(a b:V)(k:Bool→Prop):Prop:=match b with
 | .bool d=>Zns a 27 fun c=>k (!(c==d))
 |b=>Zcz b 28 (k (!Zfr a))
noncomputable def cmpA(op:CmpOp)(a b:V)(st:St)(k:Bool→St→Prop):Prop:=match op with
 | .Eq=>Zk (eqV st a b) 18 fun c=>k c st
 | .NotEq=>Zk (eqV st a b) 19 fun c=>k (!c) st
 | .In=>inA st a b fun c=>k c st
 | .NotIn=>inA st a b fun c=>k (!c) st
 | .Is=>Zcz b 26 (k (Zfr a) st)
 | .IsNot=>ZlA a b fun c=>k c st
 | .Lt=>ltA a b fun c=>k c st
 | .Gt=>gtA a b fun c=>k c st
 | .GtE=>Zo a 31 fun x μ=>Zo b 31 fun y μ=>k (decide (x≥y)) st
 | .LtE=>Zo a 32 fun x μ=>Zo b 32 fun y μ=>k (decide (x≤y)) st
noncomputable def Zg0(v:V)(st:St)(k:Bool→St→Prop):Prop:=match v with
 | .bool b=>k b st
 |v=>Zcz v 33 (k false st)
theorem Yf{v:V}{n:Nat}{k:Int→Nat→Prop}(h:Zo v n k):∃i b,v= .int i b∧k i b:=by
 cases v with
 |int i b=>exact⟨i,b,rfl,h⟩
 |_=>exact noB h
theorem YH{v:V}{n:Nat}{k:Str→Nat→Prop}(h:Z0 v n k):∃i b,v= .str i b∧k i b:=by
 cases v with
 |str i b=>exact⟨i,b,rfl,h⟩
 |_=>exact noB h
theorem YJ{v:V}{n:Nat}{k:Nat→Prop}(h:Z2 v n k):∃i,v= .ref i∧k i:=by
 cases v with
 |ref i=>exact⟨i,rfl,h⟩
 |_=>exact noB h
theorem Zbi{v:V}{n:Nat}{k:UInt64→Prop}(h:Zas v n k):∃i,v= .flt i∧k i:=by
 cases v with
 |flt i=>exact⟨i,rfl,h⟩
 |_=>exact noB h
theorem YV{vs:List V}{n:Nat}{p:Prop}(h:noArg vs n p):vs=[]∧p:=by
 cases vs with
 |nil=>exact⟨rfl,h⟩
 |cons _ _=>exact noB h
theorem Jm{vs:List V}{n:Nat}{k:V→Prop}(h:Z8 vs n k):∃v,vs=[v]∧k v:=by
 cases vs with
 |nil=>exact noB h
 |cons v r=>exact⟨v,by rw[(YV h).1],(YV h).2⟩
noncomputable def Zaw(vs:List V)(n:Nat)(k:V→V→Prop):Prop:=match vs with
 |v::r=>Z8 r n (k v)
 | []=>Bad n
theorem JZ{vs:List V}{n:Nat}{k:V→V→Prop}(h:Zaw vs n k):∃v w,vs=[v,w]∧k v w:=by
 cases vs with
 |nil=>exact noB h
 |cons v r=>
  obtain⟨w,rfl,h⟩:=Jm h;exact⟨v,w,rfl,h⟩
noncomputable def ZcU(vs:List V)(n:Nat)(k:V→V→V→Prop):Prop:=match vs with
 |v::r=>Zaw r n (k v)
 | []=>Bad n
theorem Zbu{vs:List V}{n:Nat}{k:V→V→V→Prop}(h:ZcU vs n k):∃u v w,vs=[u,v,w]∧k u v w:=by
 cases vs with
 |nil=>exact noB h
 |cons v r=>
  obtain⟨u,w,rfl,h⟩:=JZ h;exact⟨v,u,w,rfl,h⟩
noncomputable def ZoJ(k:NameKind):Bool:=match k with
 | .local=>true
 | .cell=>true
 | .free=>true
 |_=>false
noncomputable def ZoK(k:NameKind):Bool:=match k with
 | .local=>true
 | .cell=>true
 |_=>false
noncomputable def Zfm(p:NameKind→Bool)(k:Option NameKind):Bool:=match k with
 |some k=>p k
 |none=>false
noncomputable def nameA(sc:Sc)(x:Str)(st:St)(k:KE):Prop:=gd (Zfm ZoJ (lookS x sc)) 35 (Zk (lookS x st.m) 34 fun v=>k v st)
noncomputable def ZlO(c:Const)(st:St)(k:KE):Prop:=match c with
 | .none=>k .none st
 | .bool b=>k (.bool b) st
 | .int i=>k (.lit i) st
 | .float x=>k (.flt x) st
 | .str s=>k (.txt s) st
 |_=>Bad 36
noncomputable def bindA(sc:Sc)(x:Str)(v:V)(st:St)(k:St→Prop):Prop:=gd (Zfm ZoK (lookS x sc)) 37 (k {st with m:=updS x v st.m})
noncomputable def Zfq:Expr→Bool
 | .Starred .. =>true
 |_=>false
noncomputable def Z3(es:List Expr):Bool:=es.all fun t=>!Zfq t
noncomputable def evs(rec:Rec)(sc:Sc):List Expr→St→(List V→St→Prop)→Prop
 | [],st,k=>k [] st
 |e::es,st,k=>ifB (Zfq e) (Bad 219) (rec.ex sc e st fun v st=>evs rec sc es st fun vs st=>k (v::vs) st)
noncomputable def strAt(s:Str)(i:Nat):Option Str:=match s.cps.toList[i]? with
 |some c=>some ⟨#[c]⟩
 |none=>none
noncomputable def itemO(xs:List V)(j:Int):Option V:=(Y8 j (lidN xs.length)).bind fun n=>xs[n]?
noncomputable def getA(o i:V)(st:St)(k:KE):Prop:=Zo i 43 fun j μ=>match o with
 | .tup xs=>Zk (itemO xs j) 201 fun v=>k v st
 | .str s _=>Zk ((Y8 j (lidN s.length)).bind (strAt s)) 42 fun c=>k (.str c 1) st
 |o=>Z2 o 43 fun r=>Zk (st.items r) 40 fun xs=>Zk (itemO xs j) 39 fun v=>k v st
noncomputable def natO:Int→Option Nat
 | .ofNat n=>some n
 | .negSucc _=>none
theorem ZhV{i:Int}{n:Nat}(h:natO i=some n):i=n:=by
 cases i with
 |ofNat m=>exact congrArg Int.ofNat (Option.some.inj h)
 |negSucc _=>exact nnO h
noncomputable def cutNv(o:V)(n:Nat)(st:St)(k:KE):Prop:=match o with
 | .ref r=>Zk (st.items r) 44 fun xs=>gd (Nat.ble n 4096&&Nat.ble xs.length 4096) 213 (k (.ref st.n) (st.new (.list (xs.drop n))))
 | .str s b=>gd (Nat.ble n s.length&&Nat.ble b 4096) 45 (k (.str ⟨(s.cps.toList.drop n).toArray⟩ b) st)
 |_=>Bad 46
noncomputable def cutA(o lo:V)(st:St)(k:KE):Prop:=Zo lo 46 fun i μ=>Zk (natO i) 46 fun n=>cutNv o n st k
noncomputable def setA(o i v:V)(st:St)(k:St→Prop):Prop:=
 Z2 o 210 fun r=>Zo i 210 fun j μ=>Zk (natO j) 210 fun n=>Zk (st.items r) 209 fun xs=>gd (Nat.blt n xs.length&&Nat.blt n 4096) 208 (k (st.put r (.list (xs.set n v))))
noncomputable def seqO(v:V)(st:St):Option (List V):=match v with
 | .tup vs=>some vs
 | .ref r=>st.items r
 |_=>none
noncomputable def ZgV(v:V)(n:Nat)(st:St):Option (List V):=(seqO v st).bind fun vs=>gdO (Nat.beq vs.length n) (some vs)
noncomputable def Zam(e:Expr):Option Str:=match e with
 | .Name x _=>some x
 |_=>none
noncomputable def argHd(vs:List V)(n:Nat)(k:V→List V→Prop):Prop:=match vs with
 | []=>Bad n
 |v::r=>k v r
noncomputable def Zi2(sc:Sc):List Expr→List V→St→(St→Prop)→Prop
 | [],vs,st,k=>noArg vs 50 (k st)
 |e::es,vs,st,k=>Zk (Zam e) 50 fun x=>argHd vs 50 fun v vs=>bindA sc x v st fun st=>Zi2 sc es vs st k
noncomputable def Jt:Expr→Bool
 | .Slice .. =>true
 |_=>false
noncomputable def asgA(rec:Rec)(sc:Sc)(t:Expr)(v:V)(st:St)(k:St→Prop):Prop:=match t with
 | .Name x _=>bindA sc x v st k
 | .Tuple es _ _=>Zk (ZgV v es.length st) 51 fun vs=>Zi2 sc es vs st k
 | .Subscript o i _=>ifB (Jt i) (Bad 211) (rec.ex sc o st fun ov st=>rec.ex sc i st fun iv st=>setA ov iv v st k)
 |_=>Bad 52
noncomputable def asgsA(rec:Rec)(sc:Sc):List Expr→V→St→(St→Prop)→Prop
 | [],_,st,k=>k st
 |t::ts,v,st,k=>asgA rec sc t v st fun st=>asgsA rec sc ts v st k
noncomputable def ZhW(a b:Int):Nat:=(b-a).toNat
noncomputable def Jh(sc:Sc)(x:Str):Bool:=lookS x sc==some .globalImplicit
noncomputable def Zfi(e:Expr):Option (Str×List Expr):=match e with
 | .Call f args kws _=>match kws with
  | []=>(Zam f).map fun x=>(x,args)
  |_::_=>none
 |_=>none
noncomputable def Zlz:Expr→Bool
 | .Set .. =>true
 |_=>false
noncomputable def optP{α:Type}(o:Option α)(f:α→Prop)(p:Prop):Prop:=match o with
 |some a=>f a
 |none=>p
theorem Zmu{α:Type}{o:Option α}{f:α→Prop}{p:Prop}(h:optP o f p):(∃a,o=some a∧f a)∨p:=by
 cases o with
 |some a=>exact .inl ⟨a,rfl,h⟩
 |none=>exact .inr h
noncomputable def itOf(v:V)(st:St)(k:It→St→Prop):Prop:=match v with
 | .ref r=>Zk (st.items r) 53 fun μ=>k (.list r 0) st
 | .str s b=>k (.chars s.cps.toList b) st
 |_=>Bad 55
noncomputable def rng1(v:V)(st:St)(k:It→St→Prop):Prop:=Zo v 58 fun b q=>gd (under q 4096) 56 (k (.range 0 b.toNat 1) st)
noncomputable def rng2(v w:V)(st:St)(k:It→St→Prop):Prop:=Zo v 58 fun a p=>Zo w 58 fun b q=>gd (under p 4096&&under q 4096) 57 (k (.range a (ZhW a b) 1) st)
noncomputable def rngA(vs:List V)(st:St)(k:It→St→Prop):Prop:=match vs with
 | []=>Bad 58
 |v::r=>match r with
  | []=>rng1 v st k
  |w::t=>noArg t 58 (rng2 v w st k)
noncomputable def Zmm(sc:Sc)(e:Expr):Option (List Expr):=(Zfi e).bind fun q=>gdO (Jh sc q.1&&(strEq q.1 "range"&&Z3 q.2)) (some q.2)
noncomputable def iterA(rec:Rec)(sc:Sc)(e:Expr)(st:St)(k:It→St→Prop):Prop:=
 ifB (Zlz e) (Bad 222) (optP (Zmm sc e) (fun args=>evs rec sc args st fun vs st=>rngA vs st k) (rec.ex sc e st fun v st=>itOf v st k))
noncomputable def nextA(it:It)(st:St):Option (Option (V×It)):=match it with
 | .list r i=>match st.items r with
  |some xs=>match xs[i]? with
   |some v=>some (some (v, .list r (i+1)))
   |none=>some none
  |none=>none
 | .range c n d=>match n with
  |0=>some none
  |n+1=>some (some (.int c (c.natAbs+1), .range (c+d) n d))
 | .chars cs b=>match cs with
  | []=>some none
  |c::r=>some (some (.str ⟨#[c]⟩ 1, .chars r b))
noncomputable def Zg5(rec:Rec)(sc:Sc):List Expr→St→(Bool→St→Prop)→Prop
 | [],st,k=>k true st
 |e::es,st,k=>rec.ts sc e st fun b st=>match b with
  |true=>Zg5 rec sc es st k
  |false=>k false st
noncomputable def Zc(a:Arguments):List Str:=a.args.map (·.arg)
noncomputable def zipS:List Str→List V→Option (List (Str×V))
 | [],[]=>some []
 |x::xs,v::vs=>(zipS xs vs).map ((x,v):: ·)
 |_,_=>none
noncomputable def outOf(f:Fl):Option V:=match f with
 | .ret v=>some v
 | .nxt=>some .none
 |_=>none
noncomputable def isNo{α:Type}:Option α→Bool
 |some _=>false
 |none=>true
noncomputable def okSc(sc:Sc):Bool:=isNo (lookS "__debug__" sc)&&isNo (lookS "__classdict__" sc)
noncomputable def isLC:Option NameKind→Bool
 |some .local=>true
 |some .cell=>true
 |_=>false
noncomputable def Zcy:Sc→Bool
 | []=>true
 |(x,_)::r=>isNo (lookS x r)&&Zcy r
noncomputable def YT(s:Scope):Bool:=decide (s.kind= .function)&&okSc s.names&&Zcy s.names
noncomputable def Zoo(a:Arguments):Bool:=match a with
 |⟨[],_,none,[],[],none,[]⟩=>true
 |_=>false
noncomputable def notFr:NameKind→Bool
 | .free=>false
 |_=>true
noncomputable def Zdo:Sc→Bool
 | []=>true
 |x::r=>notFr x.2&&Zdo r
noncomputable def Yq:List Str→Bool
 | []=>true
 |x::r=>r.all (fun y=>!strEq x y)&&Yq r
noncomputable def okFn(d:FnDef):Bool:=Zdo d.scope.names&&Yq (Zc d.params)&&YT d.scope&&!d.scope.isGenerator&&!d.scope.isCoroutine&&Zoo d.params&&(Zc d.params).all fun x=>isLC (lookS x d.scope.names)
noncomputable def pickK{α:Type}(f x:Str)(a:α)(r:Option α):Option α:=match strEq f x with
 |true=>some a
 |false=>r
inductive BK where
 |len|sum|min|max|abs|int
noncomputable def kindB(f:Str):Option BK:=pickK f "len" .len (pickK f "sum" .sum (pickK f "min" .min (pickK f "max" .max (pickK f "abs" .abs (pickK f "int" .int none)))))
noncomputable def lenA(v:V)(st:St)(k:KE):Prop:=match v with
 | .str s b=>gd (Nat.ble b 4096) 64 (k (.int s.length (b+1)) st)
 |v=>Z2 v 65 fun r=>Zk (st.items r) 63 fun xs=>gd (Nat.ble xs.length 4096) 229 (k (.lit xs.length) st)
noncomputable def callK(kd:BK)(vs:List V)(st:St)(k:KE):Prop:=match kd with
 | .len=>Z8 vs 65 fun v=>lenA v st k
 | .sum=>Z8 vs 69 fun v=>Z2 v 69 fun r=>Zk (st.items r) 68 fun xs=>Zk (sumV xs 0 1) 67 fun q=>k (.int q.1 q.2) st
 | .min=>Zaw vs 70 fun v w=>Zo v 70 fun a p=>Zo w 70 fun b q=>k (.int (if b<a then b else a) (addB p q)) st
 | .max=>Zaw vs 71 fun v w=>Zo v 71 fun a p=>Zo w 71 fun b q=>k (.int (if b > a then b else a) (addB p q)) st
 | .abs=>Z8 vs 72 fun v=>Zas v 72 fun x=>k (.flt (Float64.abs x)) st
 | .int=>Z8 vs 74 fun v=>Zas v 74 fun x=>Float64.isFinite x=true∧k (.lit (JU x)) st
noncomputable def callB(f:Str)(vs:List V)(st:St)(k:KE):Prop:=Zk (kindB f) 75 fun kd=>callK kd vs st k
noncomputable def isB(f:Str):Bool:=(kindB f).isSome
noncomputable def known(g:G)(f:Str):Bool:=!isNo (g.con f) || (!isNo (g.fn f) || isB f)
noncomputable def callD(rec:Rec)(d:FnDef)(vs:List V)(st:St)(k:KE):Prop:=Zk (zipS (Zc d.params) vs) 62 fun m=>gd (okFn d) 214
 (rec.ss d.scope.names d.body {st with m:=m} fun fl st'=>Zk (outOf fl) 61 fun v=>k v {st' with m:=st.m})
noncomputable def callA(g:G)(rec:Rec)(f:Str)(vs:List V)(st:St)(k:KE):Prop:=match g.con f with
 |some c=>gd (Nat.ble (g.need f) rec.fu) 241 (c vs st k)
 |none=>match g.fn f with
  |some d=>callD rec d vs st k
  |none=>callB f vs st k
noncomputable def Zg7:List V→Option (List Str×Nat)
 | []=>some ([],0)
 |v::r=>strOO v fun s b=>(Zg7 r).map fun q=>(s::q.1,b+q.2+1)
noncomputable def joinL(sep:List Nat):List Str→List Nat
 | []=>[]
 | [x]=>x.cps.toList
 |x::y::r=>x.cps.toList++sep++joinL sep (y::r)
noncomputable def Chunk.text(c:Chunk):List Nat:=c.f.cps.toList++c.s.cps.toList
noncomputable def Y6(cs:List Chunk):List Nat:=cs.flatMap Chunk.text
noncomputable def curB(cs:List Chunk):Nat:=(cs.map fun c=>c.fb+c.sb).sum
noncomputable def Jx(cs:List Chunk):Nat:=(cs.map fun c=>c.f.length+c.s.length).sum
noncomputable def isNl(s:Str):Bool:=match s.cps.toList with
 | []=>true
 |_::_=>false
noncomputable def ZdK(c:Chunk):Bool:=match c.s.cps.toList with
 | [x]=>Nat.ble 97 x&&Nat.ble x 122
 |_=>false
noncomputable def Zba(c:Chunk):Bool:=isNl c.s&&strEq c.f " "
noncomputable def Zco(cs:List Chunk):List Chunk:=cond ((cs.getLast?.map Zba).getD false) cs.dropLast cs
noncomputable def Yk(x:List Nat)(b:Nat):List (Str×Nat)→List (Str×Nat)
 | []=>[]
 | [(s,n)]=>[(⟨(s.cps.toList++x).toArray⟩,n+b)]
 |l::r=>l::Yk x b r
noncomputable def ifO{α:Type}(c:Bool)(a b:Option α):Option α:=match c with
 |true=>a
 |false=>b
theorem ZbX{α:Type}{c:Bool}{a b:Option α}{x:α}(h:ifO c a b=some x):(c=true∧a=some x)∨(c=false∧b=some x):=by
 cases c with
 |true=>exact .inl ⟨rfl,h⟩
 |false=>exact .inr ⟨rfl,h⟩
noncomputable def flush(p:Page)(l:List (Str×Nat)):Page:={p with init:=0,initb:=1,cur:=[],lines:=l}
noncomputable def twoSp(cs:List Chunk):Bool:=cs.length==1&&cs.all fun c=>isNl c.s&&strEq c.f "  "
noncomputable def zeroI:Int→Bool
 | .ofNat n=>Nat.beq n 0
 | .negSucc _=>false
noncomputable def ZbF(p:Page):Option Page:=
 let cs:=Zco p.cur
 ifO (cs.any ZdK) (some (flush p (p.lines++[(⟨(Y6 cs).toArray⟩,curB cs)])))
  (ifO (zeroI p.init) (ifO cs.isEmpty (some (flush p p.lines)) (ifO (twoSp cs&&!p.lines.isEmpty) (some (flush p (Yk (Y6 cs) 2 p.lines))) none)) none)
noncomputable def YN(l:List (Str×Nat)):Nat:=(l.map fun x=>x.2+1).sum
noncomputable def Zfd(p:Page):Bool:=Nat.ble (p.initb+curB p.cur+p.cur.length+p.leadb) 200&&Nat.ble (YN p.lines) 4000
noncomputable def AO.pg:AO→Option Page
 | .page p=>some p
 |_=>none
noncomputable def AO.rm:AO→Option (Nat×Nat)
 | .rooms q i=>some (q,i)
 |_=>none
noncomputable def St.pg(st:St)(r:Nat):Option Page:=(st.obj r).bind AO.pg
noncomputable def St.rm(st:St)(r:Nat):Option (Nat×Nat):=(st.obj r).bind AO.rm
noncomputable def pushC(p:Page)(c:Chunk):Page:={p with cur:=p.cur++[c]}
noncomputable def mAc(r:Nat)(p:Page)(vs:List V)(st:St)(k:KE):Prop:=Zaw vs 93 fun v w=>Z0 v 93 fun a p1=>Z0 w 93 fun c q1=>gd (Nat.ble (p.initb+curB p.cur+p1+q1) 40) 92 (k .none (st.put r (.page (pushC p ⟨a,p1,c,q1⟩))))
noncomputable def mStr(r:Nat)(p:Page)(vs:List V)(st:St)(k:KE):Prop:=Z8 vs 96 fun v=>Z0 v 96 fun a b=>Zk (ZbF p) 95 fun p'=>gd (Nat.ble (YN p'.lines*(b+1)) 4096) 94 (k (.str ⟨(joinL a.cps.toList (p'.lines.map (·.1))).toArray⟩ (YN p'.lines*(b+1))) (st.put r (.page p')))
noncomputable def mTr(r:Nat)(p:Page)(st:St)(k:KE):Prop:=k .none (st.put r (.page (pushC p ⟨" ",1,"",0⟩)))
noncomputable def mNl(r:Nat)(p:Page)(st:St)(k:KE):Prop:=Zk (ZbF p) 97 fun p'=>k .none (st.put r (.page p'))
noncomputable def mMx(r:Nat)(st:St)(k:KE):Prop:=k (.ref st.n) (st.new (.rooms r 0))
noncomputable def methP(r:Nat)(f:Str)(vs:List V)(st:St)(k:KE):Prop:=Zk (st.pg r) 100 fun p=>gd (Zfd p) 240
 (ifB (strEq f "_append_chunk") (mAc r p vs st k) (ifB (strEq f "_str") (mStr r p vs st k) (noArg vs 99
  (ifB (strEq f "_maxlengths") (mMx r st k) (ifB (strEq f "add_transition") (mTr r p st k) (gd (strEq f "newline") 98 (mNl r p st k)))))))
noncomputable def asc:List Nat→Bool
 | []=>true
 |c::r=>Nat.ble c 127&&asc r
noncomputable def up1(c:Nat):Nat:=match Nat.ble 97 c&&Nat.ble c 122 with
 |true=>c-32
 |false=>c
noncomputable def lo1(c:Nat):Nat:=match Nat.ble 65 c&&Nat.ble c 90 with
 |true=>c+32
 |false=>c
noncomputable def mapN(f:Nat→Nat):List Nat→List Nat
 | []=>[]
 |c::r=>f c::mapN f r
noncomputable def upF(s:Str):Str:=match asc s.cps.toList with
 |true=>⟨(mapN up1 s.cps.toList).toArray⟩
 |false=>Txt.upper s
noncomputable def loF(s:Str):Str:=match asc s.cps.toList with
 |true=>⟨(mapN lo1 s.cps.toList).toArray⟩
 |false=>Txt.lower s
theorem ZnP:((List.range 128).all fun c=>Unicode.upperOf c==[up1 c])=true:=by decide+kernel
theorem ZoC:((List.range 128).all fun c=>Unicode.lowerOf c==[lo1 c])=true:=by decide+kernel
theorem ZeN:∀{l:List Nat},asc l=true→∀c∈l,c<128
 | [],_,c,h=>by cases h
 |d::r,h,c,hc=>by
  have h:=Bool.and_eq_true_iff.mp h;rcases List.mem_cons.mp hc with rfl|hc
  ·exact Nat.lt_succ_of_le (Nat.le_of_ble_eq_true h.1)
  ·exact ZeN h.2 c hc
theorem Zh2(f:Nat→Nat):∀l,mapN f l=l.map f
 | []=>rfl
 |c::r=>congrArg (f c:: ·) (Zh2 f r)
theorem Zdh(x:Str)(f:Nat→Nat→List Nat)(g:Nat→Nat)(h:∀i,(hi:i<x.cps.size)→f i x.cps[i]=[g x.cps[i]]):placed x f=(mapN g x.cps.toList).toArray:=by
 unfold placed;have e:(x.cps.mapIdx fun i c=>(f i c).toArray)=x.cps.map fun c=> #[g c]:=by
  apply Array.ext
  ·simp
  ·intro i h1 h2;simp only[Array.getElem_mapIdx,Array.getElem_map];rw[h i (by simpa using h1)]
 rw[e,Zh2];have:∀l:List Nat,(l.toArray.map fun c=> #[g c]).flatten=(l.map g).toArray:=by
  intro l;apply Array.ext';simp[Array.toList_flatten,Function.comp_def,List.flatMap,List.flatten]
  induction l with
  |nil=>rfl
  |cons a r ih=>simp_all
 have:=this x.cps.toList;simpa using this
theorem ZnQ(s:Str):upF s=Txt.upper s:=by
 unfold upF;split
 ·rename_i h;unfold Txt.upper;rw[Zdh s _ up1 fun i hi=>?_];have hc:=ZeN h s.cps[i] (by simp)
  exact eq_of_beq (List.all_eq_true.mp ZnP s.cps[i] (List.mem_range.mpr hc))
 ·rfl
theorem ZoD(s:Str):loF s=Txt.lower s:=by
 unfold loF;split
 ·rename_i h;unfold Txt.lower;rw[Zdh s _ lo1 fun i hi=>?_];have hc:=ZeN h s.cps[i] (by simp)
  unfold Unicode.lowerAt;rw[Array.getElem?_eq_getElem hi];have h3:(s.cps[i]==0x3A3)=false:=by
   rw[beq_eq_false_iff_ne];lia
  simp only[h3,Bool.false_and];exact eq_of_beq (List.all_eq_true.mp ZoC s.cps[i] (List.mem_range.mpr hc))
 ·rfl
inductive RK where
 |upper|lower|find|rfind|startsw|join|append|index|page
noncomputable def Zbb(f:Str):Bool:=strEq f "_append_chunk" || strEq f "_str" || strEq f "_maxlengths" || strEq f "add_transition" || strEq f "newline"
noncomputable def recvS(f:Str)(n:Nat):Option RK:=match n with
 |0=>pickK f "upper" .upper (pickK f "lower" .lower none)
 |k+1=>match k with
  |0=>pickK f "find" .find (pickK f "rfind" .rfind (pickK f "startswith" .startsw (pickK f "join" .join none)))
  |_+1=>none
noncomputable def recvL(f:Str)(n:Nat):Option RK:=match n with
 |0=>none
 |k+1=>match k with
  |0=>pickK f "append" .append (pickK f "index" .index none)
  |_+1=>none
noncomputable def recvO(o:AO)(f:Str)(n:Nat):Option RK:=match o with
 | .list _=>recvL f n
 | .page _=>match Zbb f with
  |true=>some .page
  |false=>none
 |_=>none
noncomputable def Ze7(v:V)(st:St)(f:Str)(n:Nat):Option RK:=match v with
 | .str _ _=>recvS f n
 | .ref r=>match st.obj r with
  |some o=>recvO o f n
  |none=>none
 |_=>none
noncomputable def methA(kd:RK)(o:V)(f:Str)(vs:List V)(st:St)(k:KE):Prop:=match kd with
 | .upper=>Z0 o 101 fun s b=>noArg vs 101 (gd (Nat.ble b 64) 76 (k (.str (upF s) (upF s).length) st))
 | .lower=>Z0 o 101 fun s b=>noArg vs 101 (gd (Nat.ble b 64) 77 (k (.str (loF s) (loF s).length) st))
 | .find=>Z0 o 101 fun s μ=>Z8 vs 101 fun v=>Z0 v 101 fun t μ=>k (.int (Txt.find s t) ((Txt.find s t).natAbs+1)) st
 | .rfind=>Z0 o 101 fun s μ=>Z8 vs 101 fun v=>Z0 v 101 fun t μ=>k (.int (Txt.rfind s t) ((Txt.rfind s t).natAbs+1)) st
 | .startsw=>Z0 o 101 fun s μ=>Z8 vs 101 fun v=>Z0 v 101 fun t μ=>k (.bool (Txt.startswith s t)) st
 | .join=>Z0 o 101 fun s b=>Z8 vs 101 fun v=>Z2 v 101 fun r=>Zk (st.items r) 85 fun xs=>Zk (Zg7 xs) 84 fun q=>gd (Nat.ble (q.2*(b+1)) 4096) 83 (k (.str ⟨(joinL s.cps.toList q.1).toArray⟩ (q.2*(b+1))) st)
 | .append=>Z2 o 101 fun r=>Z8 vs 101 fun v=>Zk (st.items r) 225 fun xs=>gd (Nat.ble xs.length 4096) 88 (k .none (st.put r (.list (xs++[v]))))
 | .index=>Z2 o 101 fun r=>Z8 vs 101 fun v=>Zk (st.items r) 226 fun xs=>Zk (Zks st v xs) 89 fun n=>gd (Nat.ble xs.length 4096) 224 (k (.lit n) st)
 | .page=>Z2 o 101 fun r=>methP r f vs st k
noncomputable def Zbd:Expr→Bool
 | .Call .. =>true
 |_=>false
noncomputable def ZaE(v:V)(st:St)(k:KE):Prop:=Z2 v 105 fun r=>Zk (st.rm r) 104 fun q=>Zk (st.pg q.1) 103 fun p=>gd (Zfd p&&Nat.ble q.2 8) 102
 (ifB (Nat.beq q.2 0) (k (.int (40-(p.init+Jx p.cur)) (41+p.initb+curB p.cur)) (st.put r (.rooms q.1 (q.2+1)))) (k (.int (40-p.lead) (41+p.leadb)) (st.put r (.rooms q.1 (q.2+1)))))
theorem JR{c:Bool}{p q:Prop}(h:ifB c p q):(c=true∧p)∨(c=false∧q):=by
 cases c with
 |true=>exact .inl ⟨rfl,h⟩
 |false=>exact .inr ⟨rfl,h⟩
theorem ifB_t{c:Bool}{p q:Prop}(h:ifB c p q)(e:c=true):p:=by
 cases e;exact h
theorem ifB_f{c:Bool}{p q:Prop}(h:ifB c p q)(e:c=false):q:=by
 cases e;exact h
theorem pg_of{st:St}{r:Nat}{p:Page}(h:st.pg r=some p):st.obj r=some (.page p):=by
 obtain⟨o,e,h⟩:=Option.bind_eq_some_iff.mp h;cases o with
 |page q=>exact Option.some.inj h▸e
 |list _=>exact(nomatch h)
 |rooms _ _=>exact(nomatch h)
theorem rm_of{st:St}{r:Nat}{q:Nat×Nat}(h:st.rm r=some q):st.obj r=some (.rooms q.1 q.2):=by
 obtain⟨o,e,h⟩:=Option.bind_eq_some_iff.mp h;cases o with
 |rooms _ _=>exact Option.some.inj h▸e
 |list _=>exact(nomatch h)
 |page _=>exact(nomatch h)
noncomputable def Zm(cs:List Nat)(c:Nat):Nat:=(cs.filter (Nat.beq · c)).length
noncomputable def Zeq(s:Str):Option Nat:=match s.cps.toList with
 | [c]=>some c
 |_=>none
noncomputable def soleO{α:Type}(l:List α):Option α:=match l with
 | []=>none
 |a::r=>match r with
  | []=>some a
  |_::_=>none
noncomputable def ZlB(o:CmpOp):Bool:=match o with
 | .Eq=>true
 |_=>false
noncomputable def ZlL(e:Expr):Option (Str×Str):=match e with
 | .Compare l ops rs _=>(Zam l).bind fun z=>(soleO ops).bind fun o=>(soleO rs).bind fun r=>(Zam r).bind fun c=>gdO (ZlB o) (some (z,c))
 |_=>none
noncomputable def ZaJ(e:Expr):Option (Expr×Str×Str×Scope):=match e with
 | .ListComp elt gs sc _=>(Zam elt).bind fun x=>(soleO gs).bind fun c=>(Zam c.target).bind fun y=>(soleO c.ifs).bind fun t=>(ZlL t).bind fun zc=>gdO (decide (c.is_async=0)&&(strEq x y&&strEq y zc.1)) (some (c.iter,x,zc.2,sc))
 |_=>none
noncomputable def Zi1(rec:Rec)(sc:Sc)(op:BoolOp):List Expr→St→(Bool→St→Prop)→Prop
 | [],st,k=>k (match op with| .And=>true| .Or=>false) st
 |e::es,st,k=>rec.ts sc e st fun b st=>match op,b with
  | .And,false=>k false st
  | .Or,true=>k true st
  |_,_=>Zi1 rec sc op es st k
noncomputable def boolE(rec:Rec)(sc:Sc)(op:BoolOp):List Expr→St→KE→Prop
 | [],_,_=>Bad 203
 | [e],st,k=>rec.ex sc e st k
 |e::f::es,st,k=>rec.ex sc e st fun v st=>Zg0 v st fun b st=>match op,b with
  | .And,false=>k v st
  | .Or,true=>k v st
  |_,_=>boolE rec sc op (f::es) st k
noncomputable def isLoc(sc:Sc)(x:Str):Bool:=lookS x sc==some .local
noncomputable def Zim(sc:Sc)(x:Str):Bool:=lookS x sc==some .free
noncomputable def isFr:Option NameKind→Bool
 |some .free=>true
 |_=>false
noncomputable def isCF:Option NameKind→Bool
 |some .cell=>true
 |some .free=>true
 |_=>false
noncomputable def Yx(sc:Sc):List (Str×V)→List (Str×V)
 | []=>[]
 |(x,v)::r=>cond (isFr (lookS x sc)) ((x,v)::Yx sc r) (Yx sc r)
noncomputable def Zar(sc:Sc):Sc→Bool
 | []=>true
 |(x,k)::r=>(notFr k || isCF (lookS x sc))&&Zar sc r
theorem Zff{k:NameKind}(h:notFr k=false):k= .free:=by cases k<;>first|rfl|exact tfB h
theorem Zfg{k:NameKind}(h:notFr k=true):k≠ .free:=fun e=>by rw[e]at h;exact ftB h
theorem Zin{k:Option NameKind}(h:isCF k=true):k=some .cell∨k=some .free:=by
 cases k with
 |none=>exact ftB h
 |some k=>cases k<;>first|exact .inl rfl|exact .inr rfl|exact ftB h
theorem ZmY{k:Option NameKind}(h:isLC k=true):k=some .local∨k=some .cell:=by
 cases k with
 |none=>exact ftB h
 |some k=>cases k<;>first|exact .inl rfl|exact .inr rfl|exact ftB h
theorem ZmZ{k:Option NameKind}(h:isFr k=true):k=some .free:=by
 cases k with
 |none=>exact ftB h
 |some k=>cases k<;>first|rfl|exact ftB h
noncomputable def compA(rec:Rec)(sc:Sc)(elt target iter:Expr)(ifs:List Expr)(scope:Scope)(st:St)(k:KE):Prop:=
 match YT scope&&Zar sc scope.names with
 |true=>iterA rec sc iter st fun it st=>rec.cl scope.names elt target ifs it st.n {(st.new (.list []))with m:=Yx scope.names st.m} fun st'=>k (.ref st.n) {st' with m:=st.m}
 |false=>Bad 215
noncomputable def exBin(g:G)(rec:Rec)(sc:Sc)(l:Expr)(op:Operator)(r:Expr)(p:Pos)(st:St)(k:KE):Prop:=
 rec.ex sc l st fun a st=>rec.ex sc r st fun b st=>binA op a b st (cutK g p k)
noncomputable def exUn(rec:Rec)(sc:Sc)(op:UnaryOp)(x:Expr)(st:St)(k:KE):Prop:=match op with
 | .USub=>rec.ex sc x st fun v st=>Zo v 106 fun i b=>k (.int (-i) b) st
 |_=>Bad 114
noncomputable def exIf(rec:Rec)(sc:Sc)(t b o:Expr)(st:St)(k:KE):Prop:=rec.ts sc t st fun c st=>ifB c (rec.ex sc b st k) (rec.ex sc o st k)
noncomputable def ZlH(g:G)(rec:Rec)(sc:Sc)(l:Expr)(op:CmpOp)(r:Expr)(p:Pos)(st:St)(k:KE):Prop:=
 gd (!behindInMarks op r) 220 (rec.ex sc l st fun a st=>rec.ex sc r st fun b st=>cmpA op a b st fun c st=>cutK g p k (.bool c) st)
noncomputable def sole{α:Type}(l:List α)(n:Nat)(k:α→Prop):Prop:=match l with
 | []=>Bad n
 |a::r=>match r with
  | []=>k a
  |_::_=>Bad n
noncomputable def ZlG(rec:Rec)(sc:Sc)(es:List Expr)(st:St)(k:KE):Prop:=gd (Nat.ble es.length 4096) 232 (evs rec sc es st fun vs st=>k (.ref st.n) (st.new (.list vs)))
noncomputable def exTup(rec:Rec)(sc:Sc)(es:List Expr)(st:St)(k:KE):Prop:=gd (Nat.ble es.length 4096) 233 (evs rec sc es st fun vs st=>k (.tup vs) st)
noncomputable def Zo2(g:G)(rec:Rec)(sc:Sc)(o i:Expr)(p:Pos)(st:St)(k:KE):Prop:=
 rec.ex sc o st fun ov st=>rec.ex sc i st fun iv st=>getA ov iv st (cutK g p k)
noncomputable def Zhj(i:Expr):Option Expr:=match i with
 | .Slice lo hi stp _=>match hi with
  |none=>match stp with
   |none=>lo
   |some _=>none
  |some _=>none
 |_=>none
noncomputable def exSub(g:G)(rec:Rec)(sc:Sc)(o i:Expr)(p:Pos)(st:St)(k:KE):Prop:=
 ifB (Jt i) (Zk (Zhj i) 207 fun lo=>rec.ex sc o st fun ov st=>rec.ex sc lo st fun lv st=>cutA ov lv st k) (Zo2 g rec sc o i p st k)
noncomputable def ZfI(it:It)(n:Nat)(k:List Nat→Nat→Prop):Prop:=match it with
 | .chars cs b=>k cs b
 |_=>Bad n
noncomputable def exLen(g:G)(rec:Rec)(sc:Sc)(a:Expr)(p:Pos)(st:St)(k:KE):Prop:=match ZaJ a with
 |some q=>gd (YT q.2.2.2&&Zar sc q.2.2.2.names&&isLoc q.2.2.2.names q.2.1&&Zim q.2.2.2.names q.2.2.1) 230 (iterA rec sc q.1 st fun it st=>ZfI it 112 fun cs b=>gd (Nat.ble b 4096) 111 (nameA sc q.2.2.1 st fun cv st=>Z0 cv 110 fun d μ=>Zk (Zeq d) 109 fun n=>k (.int (Zm cs n) (b+1)) st))
 |none=>rec.ex sc a st fun v st=>callA g rec "len" [v] st (cutK g p k)
noncomputable def ZiB(g:G)(rec:Rec)(sc:Sc)(f:Str)(args:List Expr)(p:Pos)(st:St)(k:KE):Prop:=gd (Jh sc f&&Z3 args&&(strEq f "next" || known g f)) 107
 (ifB (strEq f "next") (evs rec sc args st fun vs st=>Z8 vs 108 fun v=>ZaE v st k)
  (ifB (strEq f "len") (sole args 113 fun a=>exLen g rec sc a p st k) (evs rec sc args st fun vs st=>callA g rec f vs st (cutK g p k))))
noncomputable def Zne(g:G)(rec:Rec)(sc:Sc)(o:Expr)(f:Str)(ap:Pos)(args:List Expr)(p:Pos)(st:St)(k:KE):Prop:=gd (Z3 args&&!Zbd o&&Nat.beq ap.endLine p.line&&Nat.blt args.length 20) 223
 (rec.ex sc o st fun ov st=>Zk (Ze7 ov st f args.length) 228 fun kd=>evs rec sc args st fun vs st=>methA kd ov f vs st (cutK g p k))
noncomputable def Zo4(g:G)(rec:Rec)(sc:Sc)(fe:Expr)(args:List Expr)(kw:List Keyword)(p:Pos)(st:St)(k:KE):Prop:=match kw with
 | []=>match fe with
  | .Name f _=>ZiB g rec sc f args p st k
  | .Attribute o f ap=>Zne g rec sc o f ap args p st k
  |_=>Bad 114
 |_::_=>Bad 114
noncomputable def Zo3(rec:Rec)(sc:Sc)(elt:Expr)(gs:List Comprehension)(scope:Scope)(st:St)(k:KE):Prop:=sole gs 114 fun c=>gd (decide (c.is_async=0)) 114 (compA rec sc elt c.target c.iter c.ifs scope st k)
noncomputable def ZiA(g:G)(rec:Rec)(sc:Sc)(e:Expr)(st:St)(k:KE):Prop:=match e with
 | .Constant c _ _=>ZlO c st k
 | .Name x _=>nameA sc x st k
 | .BinOp l op r p=>exBin g rec sc l op r p st k
 | .UnaryOp op x _=>exUn rec sc op x st k
 | .IfExp t b o _=>exIf rec sc t b o st k
 | .Compare l ops rs p=>sole ops 114 fun op=>sole rs 114 fun r=>ZlH g rec sc l op r p st k
 | .BoolOp op es _=>boolE rec sc op es st k
 | .List es _=>ZlG rec sc es st k
 | .Tuple es _ _=>exTup rec sc es st k
 | .Subscript o i p=>exSub g rec sc o i p st k
 | .Call fe args kw p=>Zo4 g rec sc fe args kw p st k
 | .ListComp elt gs scope _=>Zo3 rec sc elt gs scope st k
 |_=>Bad 114
noncomputable def Zlf(g:G)(rec:Rec)(sc:Sc)(l:Expr)(op:CmpOp)(r:Expr)(p:Pos)(st:St)(k:Bool→St→Prop):Prop:=
 gd (!behindInMarks op r) 221 (rec.ex sc l st fun a st=>rec.ex sc r st fun b st=>cmpA op a b st (cutB g p k))
noncomputable def tsAny(rec:Rec)(sc:Sc)(e:Expr)(st:St)(k:Bool→St→Prop):Prop:=rec.ex sc e st fun v st=>Zg0 v st k
noncomputable def tsUn(rec:Rec)(sc:Sc)(op:UnaryOp)(x:Expr)(p:Pos)(st:St)(k:Bool→St→Prop):Prop:=match op with
 | .Not=>rec.ts sc x st fun b st=>k (!b) st
 |op=>tsAny rec sc (.UnaryOp op x p) st k
noncomputable def Zle(g:G)(rec:Rec)(sc:Sc)(e:Expr)(st:St)(k:Bool→St→Prop):Prop:=match e with
 | .UnaryOp op x p=>tsUn rec sc op x p st k
 | .BoolOp op es _=>Zi1 rec sc op es st k
 | .Compare l ops rs p=>sole ops 217 fun op=>sole rs 217 fun r=>Zlf g rec sc l op r p st k
 | .IfExp .. =>Bad 218
 |e=>tsAny rec sc e st k
noncomputable def ZoM:Expr→Bool
 | .ListComp .. | .SetComp .. | .DictComp .. =>true
 |_=>false
noncomputable def isSD:Expr→Bool
 | .SetComp .. =>true
 | .DictComp .. =>true
 |_=>false
noncomputable def swT(ts:List Expr):Expr→Bool
 | .Tuple vs _ _=>(vs.all (foldedForSure 8) || !(vs.all (constantsAlone 8)))&&!Nat.beq ts.length 3
 |_=>true
noncomputable def sw1(e:Expr):Expr→Bool
 | .Tuple ts _ _=>swT ts e
 | .List _ _=>false
 |_=>true
noncomputable def ZbO(ts:List Expr)(e:Expr):Bool:=!isSD e&&match ts with
 | [t]=>sw1 e t
 |_=>true
noncomputable def sIf(rec:Rec)(sc:Sc)(t:Expr)(b o:List Stmt)(st:St)(k:KS):Prop:=rec.ts sc t st fun c st=>ifB c (rec.ss sc b st k) (rec.ss sc o st k)
noncomputable def sAsg(rec:Rec)(sc:Sc)(ts:List Expr)(e:Expr)(st:St)(k:KS):Prop:=gd (ZbO ts e&&Z3 ts) 216 (rec.ex sc e st fun v st=>asgsA rec sc ts v st fun st=>k .nxt st)
noncomputable def sRet(rec:Rec)(sc:Sc)(e:Option Expr)(st:St)(k:KS):Prop:=match e with
 |some e=>rec.ex sc e st fun v st=>k (.ret v) st
 |none=>k (.ret .none) st
noncomputable def sExp(rec:Rec)(sc:Sc)(e:Expr)(st:St)(k:KS):Prop:=gd (!ZoM e) 231 (rec.ex sc e st fun μ st=>k .nxt st)
noncomputable def sAugN(g:G)(rec:Rec)(sc:Sc)(x:Str)(op:Operator)(e:Expr)(p:Pos)(st:St)(k:KS):Prop:=nameA sc x st fun a st=>rec.ex sc e st fun b st=>binI op a b st (cutK g p fun v st=>bindA sc x v st fun st=>k .nxt st)
noncomputable def sAugS(g:G)(rec:Rec)(sc:Sc)(o i:Expr)(op:Operator)(e:Expr)(p:Pos)(st:St)(k:KS):Prop:=gd (!Jt i) 212 (rec.ex sc o st fun ov st=>rec.ex sc i st fun iv st=>getA ov iv st fun a st=>rec.ex sc e st fun b st=>
   binI op a b st (cutK g p fun v st=>setA ov iv v st fun st=>k .nxt st))
noncomputable def sAug(g:G)(rec:Rec)(sc:Sc)(t:Expr)(op:Operator)(e:Expr)(p:Pos)(st:St)(k:KS):Prop:=match t with
 | .Name x _=>sAugN g rec sc x op e p st k
 | .Subscript o i _=>sAugS g rec sc o i op e p st k
 |_=>Bad 115
noncomputable def onNxt(f:Fl)(p:Prop)(q:Fl→Prop):Prop:=match f with
 | .nxt=>p
 |f=>q f
noncomputable def sTry(rec:Rec)(sc:Sc)(b:List Stmt)(hs:List ExceptHandler)(o fin:List Stmt)(st:St)(k:KS):Prop:=match hs with
 | []=>Bad 115
 |_::_=>match fin with
  | []=>rec.ss sc b st fun f st=>onNxt f (rec.ss sc o st k) fun f=>k f st
  |_::_=>Bad 115
noncomputable def sStep(g:G)(rec:Rec)(sc:Sc)(s:Stmt)(st:St)(k:KS):Prop:=match s with
 | .Expr e _=>sExp rec sc e st k
 | .Return e _=>sRet rec sc e st k
 | .Break _=>k .brk st
 | .Pass _=>k .nxt st
 | .Assign ts e _=>sAsg rec sc ts e st k
 | .AugAssign t op e p=>sAug g rec sc t op e p st k
 | .If t b o _=>sIf rec sc t b o st k
 | .Try b hs o fin _=>sTry rec sc b hs o fin st k
 | .While t b o _=>rec.wl sc t b o st k
 | .For t i b o _=>iterA rec sc i st fun it st=>rec.fl sc t b o it st k
 |_=>Bad 115
noncomputable def Zc2(g:G)(rec:Rec)(sc:Sc)(l:List Stmt)(st:St)(k:KS):Prop:=match l with
 | []=>k .nxt st
 |s::r=>sStep g rec sc s st fun f st=>onNxt f (rec.ss sc r st k) fun f=>k f st
noncomputable def ZdQ(rec:Rec)(sc:Sc)(t:Expr)(b o:List Stmt)(it:It)(st:St)(k:KS):Prop:=match nextA it st with
 |none=>Bad 116
 |some none=>rec.ss sc o st k
 |some (some (v,it'))=>asgA rec sc t v st fun st=>rec.ss sc b st fun f st=>match f with
  | .nxt=>rec.fl sc t b o it' st k
  | .cnt=>rec.fl sc t b o it' st k
  | .brk=>k .nxt st
  | .ret v=>k (.ret v) st
noncomputable def ZgL(rec:Rec)(sc:Sc)(t:Expr)(b o:List Stmt)(st:St)(k:KS):Prop:=rec.ts sc t st fun c st=>match c with
 |false=>rec.ss sc o st k
 |true=>rec.ss sc b st fun f st=>match f with
  | .nxt=>rec.wl sc t b o st k
  | .cnt=>rec.wl sc t b o st k
  | .brk=>k .nxt st
  | .ret v=>k (.ret v) st
noncomputable def ZiU(rec:Rec)(sc:Sc)(elt target:Expr)(ifs:List Expr)(it:It)(acc:Nat)(st:St)(k:St→Prop):Prop:=match nextA it st with
 |none=>Bad 117
 |some none=>k st
 |some (some (v,it'))=>asgA rec sc target v st fun st=>Zg5 rec sc ifs st fun c st=>match c with
  |false=>rec.cl sc elt target ifs it' acc st k
  |true=>rec.ex sc elt st fun x st=>match st.items acc with
   |some xs=>match Nat.ble xs.length 4096 with
    |true=>rec.cl sc elt target ifs it' acc (st.put acc (.list (xs++[x]))) k
    |false=>Bad 118
   |none=>Bad 119
noncomputable def step(g:G)(n:Nat)(rec:Rec):Rec where
 ex:=ZiA g rec
 ts:=Zle g rec
 ss:=Zc2 g rec
 fl:=ZdQ rec
 wl:=ZgL rec
 cl:=ZiU rec
 fu:=n
noncomputable def no:Rec where
 ex:=fun μ μ μ μ=>Bad 120
 ts:=fun μ μ μ μ=>Bad 121
 ss:=fun μ μ μ μ=>Bad 122
 fl:=fun μ μ μ μ μ μ μ=>Bad 123
 wl:=fun μ μ μ μ μ μ=>Bad 124
 cl:=fun μ μ μ μ μ μ μ μ=>Bad 125
 fu:=0
noncomputable def ev(g:G)(n:Nat):Rec:=Nat.rec (motive:=fun μ=>Rec) no (fun n ih=>step g (Nat.succ n) ih) n
noncomputable abbrev evF:=ev
end Mine
end
noncomputable section
open PySem PyProof.Rows
namespace Mine
set_option backward.match.sparseCases false
section
theorem J7{a:List Nat}:∀{b:List Nat},Za6 a b=true↔a=b:=by
 induction a with
 |nil=>
  intro b;cases b with
  |nil=>exact⟨fun μ=>rfl,fun μ=>rfl⟩
  |cons y t=>exact⟨fun h=>ftB h,fun h=>nomatch h⟩
 |cons x r ih=>
  intro b;cases b with
  |nil=>exact⟨fun h=>ftB h,fun h=>nomatch h⟩
  |cons y t=>
   rw[Zdv];cases h:Nat.beq x y with
   |true=>exact ih.trans ⟨fun e=>by rw[Nat.eq_of_beq_eq_true h,e],fun e=>(List.cons.inj e).2⟩
   |false=>exact⟨fun q=>ftB q,fun e=>absurd (List.cons.inj e).1 (Nat.ne_of_beq_eq_false h)⟩
theorem Za{a b:Str}:strEq a b=true↔a=b:=by
 unfold strEq;rw[J7];constructor
 ·intro h;obtain⟨x⟩:=a;obtain⟨y⟩:=b;have:x=y:=Array.toList_inj.mp h;rw[this]
 ·rintro rfl;rfl
theorem J3(a:Str):strEq a a=true:=Za.mpr rfl
theorem Yn{a b:Str}:strEq a b=false↔a≠b:=by
 cases h:strEq a b with
 |true=>simp[Za.mp h]
 |false=>simp;intro e;rw[Za.mpr e]at h;exact tfB h
theorem Zjx(a b:Str):strEq a b=(a==b):=by
 cases h:strEq a b with
 |true=>simp[Za.mp h]
 |false=>have:=Yn.mp h;simp[this]
theorem Zv{β:Type}(x:Str)(l:List (Str×β)):lookS x l=l.lookup x:=by
 induction l with
 |nil=>rfl
 |cons p r ih=>
  cases p with|mk y v=>
  rw[ZE,List.lookup_cons,ih];cases h:strEq y x with
  |true=>rw[Za.mp h,beq_self_eq_true]
  |false=>rw[beq_eq_false_iff_ne.mpr fun e=>Yn.mp h e.symm]
theorem Zgf{β:Type}(x:Str)(v:β)(l:List (Str×β)):lookS x (updS x v l)=some v:=by
 induction l with
 |nil=>rw[Zla,ZE,J3]
 |cons p r ih=>
  cases p with|mk z u=>
  rw[Zlb];cases h:strEq z x with
  |true=>exact(ZE x z v r).trans (by rw[h])
  |false=>exact(ZE x z u _).trans (by rw[h];exact ih)
theorem Zj8{β:Type}{x y:Str}(v:β)(l:List (Str×β))(hn:y≠x):lookS y (updS x v l)=lookS y l:=by
 induction l with
 |nil=>rw[Zla,ZE,Yn.mpr (Ne.symm hn)]
 |cons p r ih=>
  cases p with|mk z u=>
  rw[Zlb,ZE y z u r];cases h:strEq z x with
  |true=>exact(ZE y z v r).trans (by rw[Yn.mpr fun e=>hn (e.symm.trans (Za.mp h))])
  |false=>exact(ZE y z u _).trans (by rw[ih])
theorem ZX{β:Type}(x:Str)(v:β)(y:Str)(l:List (Str×β)):lookS y (updS x v l)=if y=x then some v else lookS y l:=by
 by_cases h:y=x
 ·rw[if_pos h,h];exact Zgf x v l
 ·rw[if_neg h];exact Zj8 v l h
namespace Tr
variable{α:Type}
theorem ix(i:Nat):i=0∨(∃k,i=2*k+1)∨∃k,i=2*k+2:=by
 induction i with
 |zero=>exact .inl rfl
 |succ n ih=>
  rcases ih with rfl|⟨k,rfl⟩|⟨k,rfl⟩
  ·exact .inr (.inl ⟨0,rfl⟩)
  ·exact .inr (.inr ⟨k,rfl⟩)
  ·exact .inr (.inl ⟨k+1,rfl⟩)
theorem dv1(k:Nat):(2*k+1) / 2=k:=by omega
theorem md1(k:Nat):(2*k+1) % 2=1:=by omega
theorem dv2(k:Nat):(2*k+2) / 2=k+1:=by omega
theorem md2(k:Nat):(2*k+2) % 2=0:=by omega
theorem lt1{k n:Nat}(h:2*k+1<n+1):k<n:=by omega
theorem lt2{k n:Nat}(h:2*k+2<n+1):k<n:=by omega
theorem Jj(v:Option α)(l r:Tr α)(k:Nat):(node v l r).get (2*k+1)=l.get k:=by
 show(Bool.rec (Bool.rec (r.get ((2*k+1) / 2-1)) (l.get ((2*k+1) / 2)) (Nat.beq ((2*k+1) % 2) 1)) v false:Option α)=_;rw[dv1,md1];rfl
theorem Yw(v:Option α)(l r:Tr α)(k:Nat):(node v l r).get (2*k+2)=r.get k:=by
 show(Bool.rec (Bool.rec (r.get ((2*k+2) / 2-1)) (l.get ((2*k+2) / 2)) (Nat.beq ((2*k+2) % 2) 1)) v false:Option α)=_;rw[dv2,md2];rfl
theorem ZhD(n:Nat)(v:Option α)(l r:Tr α)(k:Nat)(o:α):put (n+1) (node v l r) (2*k+1) o=node v (put n l k o) r:=by
 show(Bool.rec (Bool.rec (.node v l (put n r ((2*k+1) / 2-1) o)) (.node v (put n l ((2*k+1) / 2) o) r) (Nat.beq ((2*k+1) % 2) 1)) (.node (some o) l r) false:Tr α)=_;rw[dv1,md1];rfl
theorem Ze9(n:Nat)(v:Option α)(l r:Tr α)(k:Nat)(o:α):put (n+1) (node v l r) (2*k+2) o=node v l (put n r k o):=by
 show(Bool.rec (Bool.rec (.node v l (put n r ((2*k+2) / 2-1) o)) (.node v (put n l ((2*k+2) / 2) o) r) (Nat.beq ((2*k+2) % 2) 1)) (.node (some o) l r) false:Tr α)=_;rw[dv2,md2];rfl
theorem get_nil(j:Nat):(nil:Tr α).get j=none:=rfl
theorem ZoP(j:Nat):(nil:Tr α).get j=(node none nil nil).get j:=by
 rcases ix j with rfl|⟨k,rfl⟩|⟨k,rfl⟩
 ·rfl
 ·exact(Jj none nil nil k).symm
 ·exact(Yw none nil nil k).symm
theorem Zku(o:α)(f:Nat):∀(t:Tr α) (i:Nat),i<f→(put f t i o).get i=some o:=by
 induction f with
 |zero=>exact fun μ μ h=>absurd h (Nat.not_lt_zero _)
 |succ n ih=>
  intro t i h;have key:∀v l r,(put (n+1) (node v l r) i o).get i=some o:=fun v l r=>by
   rcases ix i with rfl|⟨k,rfl⟩|⟨k,rfl⟩
   ·rfl
   ·rw[ZhD,Jj];exact ih _ _ (lt1 h)
   ·rw[Ze9,Yw];exact ih _ _ (lt2 h)
  cases t with
  |nil=>exact key none nil nil
  |node v l r=>exact key v l r
theorem ZoQ(o:α)(f:Nat):∀(t:Tr α) (i j:Nat),i<f→j≠i→(put f t i o).get j=t.get j:=by
 induction f with
 |zero=>exact fun μ μ μ h=>absurd h (Nat.not_lt_zero _)
 |succ n ih=>
  intro t i j h hn;have key:∀v l r,(put (n+1) (node v l r) i o).get j=(node v l r).get j:=fun v l r=>by
   rcases ix i with rfl|⟨k,rfl⟩|⟨k,rfl⟩
   ·rcases ix j with rfl|⟨m,rfl⟩|⟨m,rfl⟩
    ·exact absurd rfl hn
    ·exact(Jj _ l r m).trans (Jj v l r m).symm
    ·exact(Yw _ l r m).trans (Yw v l r m).symm
   ·rw[ZhD];rcases ix j with rfl|⟨m,rfl⟩|⟨m,rfl⟩
    ·rfl
    ·rw[Jj,Jj];exact ih _ _ _ (lt1 h) fun e=>hn (by rw[e])
    ·rw[Yw,Yw]
   ·rw[Ze9];rcases ix j with rfl|⟨m,rfl⟩|⟨m,rfl⟩
    ·rfl
    ·rw[Jj,Jj]
    ·rw[Yw,Yw];exact ih _ _ _ (lt2 h) fun e=>hn (by rw[e])
  cases t with
  |nil=>rw[ZoP];exact key none nil nil
  |node v l r=>exact key v l r
theorem get_put(f:Nat)(t:Tr α)(i:Nat)(o:α)(j:Nat)(h:i<f):(put f t i o).get j=if j=i then some o else t.get j:=by
 by_cases e:j=i
 ·rw[if_pos e,e];exact Zku o f t i h
 ·rw[if_neg e];exact ZoQ o f t i j h e
end Tr
structure Ent where
 as:List Addr
 gs:List Nat
noncomputable abbrev Rho:=List Ent
noncomputable def foot(ρ:Rho):List Addr:=ρ.flatMap (·.as)
noncomputable def gfoot(ρ:Rho):List Nat:=ρ.flatMap (·.gs)
noncomputable def Zi(ρ:Rho)(i:Nat):Option Addr:=(ρ[i]?).bind (·.as.head?)
noncomputable abbrev Zb(vs:List Value)(n:Nat):Obj:={cls:= .type "list",data:= .seq vs.toArray n}
noncomputable abbrev YE(vs:List Value):Obj:={cls:= .type "tuple",data:= .seq vs.toArray}
mutual
inductive VR(ρ:Rho)(h:Heap):V→Value→Prop
 |none:VR ρ h .none .none
 |bool (b:Bool):VR ρ h (.bool b) (.bool b)
 |int (i:Int) (b:Nat) (t:Tok):(b≠0→i.natAbs<b)→VR ρ h (.int i b) (.int i t)
 |flt (x:UInt64) (t:Tok):VR ρ h (.flt x) (.float x t)
 |str (s:Str) (b:Nat) (t:Tok):s.length≤b→VR ρ h (.str s b) (.str s t)
 |tup (vs:List V) (a:Addr) (xs:List Value):h.get? a=some (YE xs)→VRs ρ h vs xs→VR ρ h (.tup vs) (.ref a)
 |ref (i:Nat) (a:Addr):Zi ρ i=some a→VR ρ h (.ref i) (.ref a)
inductive VRs(ρ:Rho)(h:Heap):List V→List Value→Prop
 |nil:VRs ρ h [] []
 |cons (v:V) (vs:List V) (x:Value) (xs:List Value):VR ρ h v x→VRs ρ h vs xs→VRs ρ h (v::vs) (x::xs)
end
noncomputable def Ze(h h':Heap):Prop:=∀a xs,h.get? a=some (YE xs)→h'.get? a=some (YE xs)
noncomputable def ZF(ρ ρ':Rho):Prop:=∀i a,Zi ρ i=some a→Zi ρ' i=some a
section
variable{ρ ρ':Rho}{h h':Heap}
theorem VRs.ind{P:List V→List Value→Prop}(h0:P [] [])(hc:∀v vs x xs,VR ρ h v x→VRs ρ h vs xs→P vs xs→P (v::vs) (x::xs)){vs:List V}{xs:List Value}(r:VRs ρ h vs xs):P vs xs:=
 VRs.rec (motive_1:=fun μ μ μ=>True) (motive_2:=fun vs xs μ=>P vs xs) trivial (fun μ=>trivial) (fun μ μ μ μ=>trivial) (fun μ μ=>trivial) (fun μ μ μ μ=>trivial) (fun μ μ μ μ μ μ=>trivial) (fun μ μ μ=>trivial) h0 (fun v vs x xs p r μ q=>hc v vs x xs p r q) r
theorem VR.mono(hm:ZF ρ ρ')(ht:Ze h h'){v:V}{x:Value}(r:VR ρ h v x):VR ρ' h' v x:=
 VR.rec (motive_1:=fun v x μ=>VR ρ' h' v x) (motive_2:=fun vs xs μ=>VRs ρ' h' vs xs) .none .bool .int .flt .str (fun vs a xs p μ q=> .tup vs a xs (ht _ _ p) q) (fun i a p=> .ref i a (hm i a p)) .nil (fun v vs x xs μ μ p q=> .cons v vs x xs p q) r
theorem VRs.mono(hm:ZF ρ ρ')(ht:Ze h h'){vs:List V}{xs:List Value}(r:VRs ρ h vs xs):VRs ρ' h' vs xs:=
 VRs.ind (P:=fun vs xs=>VRs ρ' h' vs xs) .nil (fun μ μ μ μ p μ q=> .cons _ _ _ _ (p.mono hm ht) q) r
section
variable{x:Value}{xs:List Value}{v:V}{vs:List V}
theorem ZB{i:Int}{b:Nat}(r:VR ρ h (.int i b) x):∃t,x= .int i t∧(b≠0→i.natAbs<b):=by
 cases r with|int _ _ t p=>exact⟨t,rfl,p⟩
theorem Z4{i:Str}{b:Nat}(r:VR ρ h (.str i b) x):∃t,x= .str i t∧i.length≤b:=by
 cases r with|str _ _ t p=>exact⟨t,rfl,p⟩
theorem Ys{i:UInt64}(r:VR ρ h (.flt i) x):∃t,x= .float i t:=by
 cases r with|flt _ t=>exact⟨t,rfl⟩
theorem Z9{i:Nat}(r:VR ρ h (.ref i) x):∃a,x= .ref a∧Zi ρ i=some a:=by
 cases r with|ref _ a p=>exact⟨a,rfl,p⟩
theorem Zji(r:VR ρ h (.tup vs) x):∃a xs,x= .ref a∧h.get? a=some (YE xs)∧VRs ρ h vs xs:=by
 cases r with|tup _ a xs p q=>exact⟨a,xs,rfl,p,q⟩
theorem Zbv(r:VR ρ h .none x):x= .none:=by cases r;rfl
theorem Zbw{b:Bool}(r:VR ρ h (.bool b) x):x= .bool b:=by cases r;rfl
theorem ZM(r:VRs ρ h [] xs):xs=[]:=by cases r;rfl
theorem Zq(r:VRs ρ h (v::vs) xs):∃x ys,xs=x::ys∧VR ρ h v x∧VRs ρ h vs ys:=by
 cases r with|cons _ _ x ys p r=>exact⟨x,ys,rfl,p,r⟩
end
theorem VRs.len{vs:List V}{xs:List Value}(r:VRs ρ h vs xs):vs.length=xs.length:=
 VRs.ind (P:=fun vs xs=>vs.length=xs.length) rfl (fun μ μ μ μ μ μ ih=>congrArg Nat.succ ih) r
theorem VRs.get{vs:List V}{xs:List Value}(r:VRs ρ h vs xs):∀{i:Nat} {v:V},vs[i]? =some v→∃x,xs[i]? =some x∧VR ρ h v x:=
 VRs.ind (P:=fun vs xs=>∀{i:Nat} {v:V},vs[i]? =some v→∃x,xs[i]? =some x∧VR ρ h v x) (fun e=>by exact nnO e) (fun v vs x xs p μ ih i w e=>by
  cases i with
  |zero=>exact⟨x,rfl,Option.some.inj e▸p⟩
  |succ i=>exact ih (i:=i) e) r
theorem VRs.get_none{vs:List V}{xs:List Value}(r:VRs ρ h vs xs){i:Nat}(e:vs[i]? =none):xs[i]? =none:=by
 rw[List.getElem?_eq_none_iff]at e ⊢;rw[←r.len];exact e
theorem VRs.append{vs ws:List V}{xs ys:List Value}(r:VRs ρ h vs xs)(q:VRs ρ h ws ys):VRs ρ h (vs++ws) (xs++ys):=
 VRs.ind (P:=fun vs xs=>VRs ρ h (vs++ws) (xs++ys)) q (fun v μ x μ p μ ih=> .cons v _ x _ p ih) r
theorem VRs.drop{vs:List V}{xs:List Value}(n:Nat)(r:VRs ρ h vs xs):VRs ρ h (vs.drop n) (xs.drop n):=
 VRs.ind (P:=fun vs xs=>∀n,VRs ρ h (vs.drop n) (xs.drop n)) (fun n=>by rw[List.drop_nil,List.drop_nil];exact .nil) (fun v vs x xs p r ih n=>by
  cases n with
  |zero=>exact .cons v vs x xs p r
  |succ n=>exact ih n) r n
theorem VRs.set{vs:List V}{xs:List Value}(n:Nat){v:V}{x:Value}(r:VRs ρ h vs xs)(q:VR ρ h v x):VRs ρ h (vs.set n v) (xs.set n x):=
 VRs.ind (P:=fun vs xs=>∀n,VRs ρ h (vs.set n v) (xs.set n x)) (fun μ=> .nil) (fun μ μ μ μ p r ih n=>by
  cases n with
  |zero=>exact .cons _ _ _ _ q r
  |succ n=>exact .cons _ _ _ _ p (ih n)) r n
theorem VRs.rep{vs:List V}{xs:List Value}(r:VRs ρ h vs xs)(n:Nat):VRs ρ h (repL n vs) (List.replicate n xs).flatten:=by
 induction n with
 |zero=>exact .nil
 |succ n ih=>exact r.append ih
theorem VRs.one{v:V}{x:Value}(p:VR ρ h v x):VRs ρ h [v] [x]:= .cons _ _ _ _ p .nil
theorem VR.lit(i:Int)(t:Tok):VR ρ h (V.lit i) (.int i t):= .int _ _ _ fun μ=>Nat.lt_succ_self _
theorem VR.txt(s:Str)(t:Tok):VR ρ h (V.txt s) (.str s t):= .str _ _ _ (Nat.le_refl _)
end
theorem Ze.refl(h:Heap):Ze h h:=fun μ μ e=>e
theorem Ze.trans{a b c:Heap}(x:Ze a b)(y:Ze b c):Ze a c:=fun p o e=>y p o (x p o e)
theorem ZF.refl(ρ:Rho):ZF ρ ρ:=fun μ μ e=>e
theorem ZF.trans{a b c:Rho}(x:ZF a b)(y:ZF b c):ZF a c:=fun i p e=>y i p (x i p e)
end
structure Ctx where
 prog:Program
 w:World
 base:Heap
 os:OsState
 inv:Heap→Prop
 inv_step:∀h h',inv h→(∀a o,h.get? a=some o→a<base.objs.size→h'.get? a=some o)→inv h'
 mg:Str→Option Value
 mb:Str→Option Value
 g:base.Ns mainGlobals mg
 b:base.Ns builtinsNs mb
 lim:∀h,inv h→h.NoLimit
 bi:∀x:Str,x≠"__name__"→mb x=bootBuiltins x
 last:∃n o,base.objs.size=n+1∧base.get? n=some o
 xr:Rho→Shared→AO→Ent→Prop
 xr_live:∀ρ s o e,xr ρ s o e→∀a∈e.as,∃x,s.heap.get? a=some x
 xr_step:∀ρ ρ' s s' o e,xr ρ s o e→ZF ρ ρ'→(∀a o,a∈e.as→s.heap.get? a=some o→s'.heap.get? a=some o)→Ze s.heap s'.heap→
  (∀g gs,g∈e.gs→s.gens[g]? =some gs→s'.gens[g]? =some gs)→xr ρ' s' o e
noncomputable def ZnF(ρ:Rho)(h:Heap)(vs:List V)(e:Ent):Prop:=∃a n xs,e=⟨[a],[]⟩∧h.get? a=some (Zb xs n)∧VRs ρ h vs xs
noncomputable def Zcg(C:Ctx)(ρ:Rho)(s:Shared)(o:AO)(e:Ent):Prop:=match o with
 | .list vs=>ZnF ρ s.heap vs e
 |o=>C.xr ρ s o e
noncomputable def Live(h:Heap)(a:Addr):Prop:=∃o,h.get? a=some o
structure HI(C:Ctx)(ρ:Rho)(st:St)(s:Shared):Prop where
 old:OldK C.base s.heap
 inv:C.inv s.heap
 os:s.os=C.os
 gens:AllBare s.gens
 nod:(foot ρ).Nodup
 lo:∀a∈foot ρ,C.base.objs.size≤a
 live:∀a∈foot ρ,Live s.heap a
 gnod:(gfoot ρ).Nodup
 ghi:∀g∈gfoot ρ,g<s.gens.size
 len:ρ.length=st.n
 dom:∀i o,st.σ.get i=some o→i<st.n
 sto:∀i o,st.σ.get i=some o→∃e,ρ[i]? =some e∧Zcg C ρ s o e
structure Ext(C:Ctx)(X:Addr→Prop)(ρ:Rho)(s:Shared)(ρ':Rho)(s':Shared):Prop where
 main:ZF ρ ρ'
 fresh:∀a∈foot ρ',a∈foot ρ∨s.heap.get? a=none∨X a
 kept:∀a o,s.heap.get? a=some o→C.base.objs.size≤a→a∉foot ρ→¬X a→s'.heap.get? a=some o
 tup:Ze s.heap s'.heap
 live:∀a o,s.heap.get? a=some o→¬X a→Live s'.heap a
 gfresh:∀g∈gfoot ρ',g∈gfoot ρ∨s.gens.size≤g
 gkept:∀g gs,s.gens[g]? =some gs→g∉gfoot ρ→s'.gens[g]? =some gs
 gsize:s.gens.size≤s'.gens.size
noncomputable abbrev nox:Addr→Prop:=fun μ=>False
theorem Ext.refl(C:Ctx)(X:Addr→Prop)(ρ:Rho)(s:Shared):Ext C X ρ s ρ s:=
 ⟨.refl _,fun μ h=> .inl h,fun μ μ e μ μ μ=>e, .refl _,fun μ o e μ=>⟨o,e⟩,fun μ h=> .inl h,fun μ μ e μ=>e,Nat.le_refl _⟩
theorem Ext.trans{C:Ctx}{X:Addr→Prop}{ρ₁ ρ₂ ρ₃:Rho}{s₁ s₂ s₃:Shared}(x:Ext C X ρ₁ s₁ ρ₂ s₂)(y:Ext C X ρ₂ s₂ ρ₃ s₃):Ext C X ρ₁ s₁ ρ₃ s₃ where
 main:=x.main.trans y.main
 fresh:=fun a h=>by
  rcases y.fresh a h with h|h|h
  ·exact x.fresh a h
  ·cases e:s₁.heap.get? a with
   |none=>exact .inr (.inl rfl)
   |some o=>
    by_cases hx:X a
    ·exact .inr (.inr hx)
    ·obtain⟨o',e'⟩:=x.live a o e hx;rw[h]at e';cases e'
  ·exact .inr (.inr h)
 kept:=fun a o e hb hf hx=>y.kept a o (x.kept a o e hb hf hx) hb (fun h=>by
  rcases x.fresh a h with h|h|h
  ·exact hf h
  ·rw[h]at e;exact nnO e
  ·exact hx h) hx
 tup:=x.tup.trans y.tup
 live:=fun a o e hx=>let ⟨o',e'⟩:=x.live a o e hx;y.live a o' e' hx
 gfresh:=fun g h=>by
  rcases y.gfresh g h with h|h
  ·exact x.gfresh g h
  ·exact .inr (Nat.le_trans x.gsize h)
 gkept:=fun g gs e hf=>y.gkept g gs (x.gkept g gs e hf) (fun h=>by
  rcases x.gfresh g h with h|h
  ·exact hf h
  ·rw[Array.getElem?_eq_some_iff]at e;obtain⟨lt,_⟩:=e;exact absurd lt (Nat.not_lt.mpr h))
 gsize:=Nat.le_trans x.gsize y.gsize
theorem Ext.weaken{C:Ctx}{X Y:Addr→Prop}{ρ ρ':Rho}{s s':Shared}(x:Ext C X ρ s ρ' s')(h:∀a,X a→Y a):Ext C Y ρ s ρ' s':=
  {x with kept:=fun a o e hb hf hy=>x.kept a o e hb hf fun q=>hy (h a q),live:=fun a o e hy=>x.live a o e fun q=>hy (h a q),
           fresh:=fun a ha=>(x.fresh a ha).imp id fun q=>q.imp id (h a)}
structure Plain(S:Addr→Prop)(s s':Shared):Prop where
 keep:∀a o,s.heap.get? a=some o→¬S a→s'.heap.get? a=some o
 gens:s'.gens=s.gens
 os:s'.os=s.os
theorem Plain.refl(S:Addr→Prop)(s:Shared):Plain S s s:=⟨fun μ μ e μ=>e,rfl,rfl⟩
theorem Plain.trans{S:Addr→Prop}{a b c:Shared}(x:Plain S a b)(y:Plain S b c):Plain S a c:=
 ⟨fun p o e n=>y.keep p o (x.keep p o e n) n,y.gens.trans x.gens,y.os.trans x.os⟩
theorem Plain.toks(S:Addr→Prop)(s:Shared)(t:Nat):Plain S s {s with toks:=t}:=⟨fun μ μ e μ=>e,rfl,rfl⟩
theorem Plain.push(S:Addr→Prop)(s:Shared)(o:Obj)(t:Nat):Plain S s {s with heap:=s.heap.push o,toks:=t}:=
 ⟨fun μ μ e μ=>Heap.get?_push_of_some _ e,rfl,rfl⟩
theorem Plain.push'(S:Addr→Prop)(s:Shared)(o:Obj):Plain S s {s with heap:=s.heap.push o}:=Plain.push S s o s.toks
theorem Plain.but{s:Shared}{h:Heap}{a:Addr}(hs:Heap.SameBut a s.heap h)(t:Nat):Plain (· =a) s {s with heap:=h,toks:=t}:=
 ⟨fun p μ e n=>(hs.2 p n).trans e,rfl,rfl⟩
theorem Plain.ext{s:Shared}{h:Heap}{a:Addr}(hs:Heap.ExtBut a s.heap h)(t:Nat):Plain (· =a) s {s with heap:=h,toks:=t}:=
 ⟨fun p o e n=>hs p o n e,rfl,rfl⟩
theorem Plain.keeps{S:Addr→Prop}{s:Shared}{h:Heap}(hk:∀b o,s.heap.get? b=some o→h.get? b=some o)(t:Nat):Plain S s {s with heap:=h,toks:=t}:=
 ⟨fun p o e μ=>hk p o e,rfl,rfl⟩
theorem Plain.weaken{S T:Addr→Prop}{s s':Shared}(x:Plain S s s')(h:∀a,S a→T a):Plain T s s':={x with keep:=fun a o e n=>x.keep a o e fun q=>n (h a q)}
theorem Zw(h:Heap):h.get? h.objs.size=none:=by
 cases e:h.get? h.objs.size with
 |none=>rfl
 |some o=>exact absurd (Heap.lt_size e) (Nat.lt_irrefl _)
theorem ZH{h:Heap}{a:Addr}(ha:h.objs.size≤a):h.get? a=none:=by
 cases e:h.get? a with
 |none=>rfl
 |some o=>exact absurd (Heap.lt_size e) (Nat.not_lt.mpr ha)
section
variable{C:Ctx}{ρ:Rho}{st:St}{s s':Shared}
theorem HI.lt(H:HI C ρ st s){i:Nat}{o:AO}(e:st.σ.get i=some o):i<st.n:=H.dom i o e
theorem HI.size(H:HI C ρ st s):C.base.objs.size≤s.heap.objs.size:=by
 obtain⟨n,o,hn,ho⟩:=C.last;obtain⟨o',ho'⟩:=H.old.there n o ho;refine(hn).symm▸?_;exact Heap.lt_size ho'
theorem HI.freshLo(H:HI C ρ st s){a:Addr}(ha:s.heap.objs.size≤a):C.base.objs.size≤a:=Nat.le_trans H.size ha
theorem HI.freshOut(H:HI C ρ st s){a:Addr}(ha:s.heap.get? a=none):a∉foot ρ:=fun h=>by
 obtain⟨o,e⟩:=H.live a h;rw[ha]at e;exact nnO e
theorem Zu{S:Addr→Prop}(K:OldK C.base s.heap)(P:Plain S s s')(hS:∀a,S a→C.base.objs.size≤a):OldK C.base s'.heap:=by
 have ne:∀b,b<C.base.objs.size→¬S b:=fun b hb hs=>absurd (hS b hs) (Nat.not_le.mpr hb);refine⟨fun b o e=>?_,fun b o e=>?_⟩
 ·have hb:=Heap.lt_size e;rcases K.old b o e with x|⟨t,hc,vs,more,hv,x⟩|⟨rfl,hc,⟨o',es,n,ho',r⟩,z⟩
  ·exact .inl (P.keep _ _ x (ne b hb))
  ·exact .inr (.inl ⟨t,hc,vs,more,hv,P.keep _ _ x (ne b hb)⟩)
  ·exact .inr (.inr ⟨rfl,hc,⟨o',es,n,P.keep _ _ ho' (ne _ hb),r⟩,fun key=>by refine(OldK.staticOf_congr ((P.keep _ _ ho' (ne _ hb)).trans ho'.symm) key).symm▸?_;exact z key⟩)
 ·obtain⟨o',ho'⟩:=K.there b o e;exact⟨o',P.keep _ _ ho' (ne b (Heap.lt_size e))⟩
theorem Zcg.step{ρ ρ':Rho}{o:AO}{e:Ent}(h:Zcg C ρ s o e)(hm:ZF ρ ρ')(hk:∀a o,a∈e.as→s.heap.get? a=some o→s'.heap.get? a=some o)
  (ht:Ze s.heap s'.heap)(hg:∀g gs,g∈e.gs→s.gens[g]? =some gs→s'.gens[g]? =some gs):Zcg C ρ' s' o e:=by
 cases o with
 |list vs=>
  obtain⟨a,n,xs,rfl,hl,r⟩:=h;exact⟨a,n,xs,rfl,hk a _ (.head _) hl,r.mono hm ht⟩
 |page p=>exact C.xr_step _ _ _ _ _ _ h hm hk ht hg
 |rooms p i=>exact C.xr_step _ _ _ _ _ _ h hm hk ht hg
theorem Zz{ρ:Rho}{i:Nat}{e:Ent}(h:ρ[i]? =some e){a:Addr}(ha:a∈e.as):a∈foot ρ:=List.mem_flatMap.mpr ⟨e,List.mem_of_getElem? h,ha⟩
theorem JP{ρ:Rho}{i:Nat}{e:Ent}(h:ρ[i]? =some e){a:Nat}(ha:a∈e.gs):a∈gfoot ρ:=List.mem_flatMap.mpr ⟨e,List.mem_of_getElem? h,ha⟩
theorem HI.plain{S:Addr→Prop}(H:HI C ρ st s)(P:Plain S s s')(hS:∀a,S a→C.base.objs.size≤a∧a∉foot ρ)(ht:Ze s.heap s'.heap):HI C ρ st s' where
 old:=Zu H.old P fun a h=>(hS a h).1
 inv:=C.inv_step _ _ H.inv fun a o e hb=>P.keep a o e fun h=>absurd (hS a h).1 (Nat.not_le.mpr hb)
 os:=P.os.trans H.os
 gens:=by refine(P.gens).symm▸?_;exact H.gens
 nod:=H.nod
 lo:=H.lo
 live:=fun a h=>let ⟨o,e⟩:=H.live a h;⟨o,P.keep a o e fun q=>(hS a q).2 h⟩
 gnod:=H.gnod
 ghi:=by refine(P.gens).symm▸?_;exact H.ghi
 len:=H.len
 dom:=H.dom
 sto:=fun i o e=>by
  obtain⟨en,he,r⟩:=H.sto i o e;exact⟨en,he,r.step (.refl _) (fun a o ha e=>P.keep a o e fun h=>(hS a h).2 (Zz he ha)) ht fun g gs μ e=>by refine(P.gens).symm▸?_;exact e⟩
theorem Plain.tup0(P:Plain nox s s'):Ze s.heap s'.heap:=fun a μ e=>P.keep a _ e fun h=>h
theorem HI.plain0(H:HI C ρ st s)(P:Plain nox s s'):HI C ρ st s':=H.plain P (fun μ h=>h.elim) P.tup0
theorem HI.m(H:HI C ρ st s)(m:List (Str×V)):HI C ρ {st with m:=m} s:=⟨H.old,H.inv,H.os,H.gens,H.nod,H.lo,H.live,H.gnod,H.ghi,H.len,H.dom,H.sto⟩
theorem HI.sst{st':St}(H:HI C ρ st s)(hn:st'.n=st.n)(hs:st'.σ=st.σ):HI C ρ st' s:=⟨H.old,H.inv,H.os,H.gens,H.nod,H.lo,H.live,H.gnod,H.ghi,hn▸H.len,hn▸hs▸H.dom,hs▸H.sto⟩
theorem Ext.plain{S X:Addr→Prop}(P:Plain S s s')(hS:∀a,S a→(a∈foot ρ∧Live s'.heap a)∨X a)(ht:Ze s.heap s'.heap):Ext C X ρ s ρ s' where
 main:= .refl _
 fresh:=fun μ h=> .inl h
 kept:=fun a o e μ hf hx=>P.keep a o e fun h=>(hS a h).elim (fun q=>hf q.1) hx
 tup:=ht
 live:=fun a o e hx=>by
  by_cases h:S a
  ·exact(hS a h).elim (fun q=>q.2) fun q=>absurd q hx
  ·exact⟨o,P.keep a o e h⟩
 gfresh:=fun μ h=> .inl h
 gkept:=fun g gs e μ=>by refine(P.gens).symm▸?_;exact e
 gsize:=by refine(P.gens).symm▸?_;exact Nat.le_refl _
theorem Ext.plain0{X:Addr→Prop}(P:Plain nox s s'):Ext C X ρ s ρ s':=Ext.plain P (fun μ h=>h.elim) P.tup0
theorem ZS{ρ:Rho}(e:Ent):ZF ρ (ρ++[e]):=fun i a h=>by
 unfold Zi at h ⊢;have:i<ρ.length:=by
  cases q:ρ[i]? with
  |none=>rw[q]at h;exact nnO h
  |some x=>exact(List.getElem?_eq_some_iff.mp q).1
 refine(List.getElem?_append_left this).symm▸?_;exact h
theorem Zs(ρ:Rho)(e:Ent):foot (ρ++[e])=foot ρ++e.as:=by simp[foot]
theorem ZD(ρ:Rho)(e:Ent):gfoot (ρ++[e])=gfoot ρ++e.gs:=by simp[gfoot]
theorem ZaF(ρ:Rho)(a:Addr)(r:List Addr)(gs:List Nat):Zi (ρ++[⟨a::r,gs⟩]) ρ.length=some a:=by
 unfold Zi;rw[List.getElem?_append_right (Nat.le_refl _)];simp
theorem HI.newList(H:HI C ρ st s){vs:List V}{xs:List Value}{a:Addr}{n:Nat}(P:Plain nox s s')(ha:s.heap.get? a=none)(hlo:C.base.objs.size≤a)(hl:s'.heap.get? a=some (Zb xs n))(r:VRs ρ s.heap vs xs):
  HI C (ρ++[⟨[a],[]⟩]) (st.new (.list vs)) s':=by
 have H':=H.plain0 P;have hmain:=ZS (ρ:=ρ) ⟨[a],[]⟩;have hget:∀j,(st.new (.list vs)).σ.get j=if j=st.n then some (.list vs)else st.σ.get j:=fun j=>Tr.get_put _ _ _ _ _ (Nat.lt_succ_self _)
 refine⟨H'.old,H'.inv,H'.os,H'.gens,?_,?_,?_,?_,?_,?_,?_,?_⟩
 ·rw[Zs,List.nodup_append];refine⟨H.nod,by simp,fun x hx y hy=>?_⟩
  simp at hy;subst hy
  rintro rfl
  exact H.freshOut ha hx
 ·intro x hx;rw[Zs,List.mem_append]at hx;rcases hx with hx|hx
  ·exact H.lo x hx
  ·simp at hx;subst hx;exact hlo
 ·intro x hx;rw[Zs,List.mem_append]at hx;rcases hx with hx|hx
  ·exact H'.live x hx
  ·simp at hx;subst hx;exact⟨_,hl⟩
 ·rw[ZD];simpa using H.gnod
 ·intro g hg;rw[ZD]at hg;exact H'.ghi g (by simpa using hg)
 ·show(ρ++[_]).length=st.n+1;rw[List.length_append,H.len];rfl
 ·intro i o e;rw[hget]at e;show i<st.n+1;split at e
  ·lia
  ·exact Nat.lt_succ_of_lt (H.dom i o e)
 ·intro i o e;rw[hget]at e;split at e
  ·rename_i hi;subst hi;cases e;refine⟨⟨[a],[]⟩,?_,a,n,xs,rfl,hl,r.mono hmain P.tup0⟩;rw[←H.len,List.getElem?_append_right (Nat.le_refl _)];simp
  ·obtain⟨en,he,r'⟩:=H'.sto i o e;refine⟨en,?_,r'.step hmain (fun μ μ μ e=>e) (.refl _) fun μ μ μ e=>e⟩;rw[List.getElem?_append_left (List.getElem?_eq_some_iff.mp he).1];exact he
theorem Ext.newList{X:Addr→Prop}{a:Addr}(P:Plain nox s s')(ha:s.heap.get? a=none):Ext C X ρ s (ρ++[⟨[a],[]⟩]) s' where
 main:=ZS _
 fresh:=fun x hx=>by
  rw[Zs,List.mem_append]at hx;rcases hx with hx|hx
  ·exact .inl hx
  ·simp at hx;subst hx;exact .inr (.inl ha)
 kept:=fun a o e μ μ μ=>P.keep a o e fun h=>h
 tup:=P.tup0
 live:=fun a o e μ=>⟨o,P.keep a o e fun h=>h⟩
 gfresh:=fun g hg=>by rw[ZD]at hg;exact .inl (by simpa using hg)
 gkept:=fun g gs e μ=>by refine(P.gens).symm▸?_;exact e
 gsize:=by refine(P.gens).symm▸?_;exact Nat.le_refl _
theorem VR.newList(H:HI C ρ st s)(a:Addr)(h:Heap):VR (ρ++[⟨[a],[]⟩]) h (.ref st.n) (.ref a):= .ref _ _ (by refine(H.len)▸?_;exact ZaF ρ a [] [])
theorem Ye{st:St}{i:Nat}{vs:List V}(e:st.items i=some vs):st.σ.get i=some (.list vs):=by
 unfold St.items at e;split at e
 ·rename_i h;cases e;exact h
 ·exact nnO e
theorem HI.list(H:HI C ρ st s){i:Nat}{vs:List V}{a:Addr}(e:st.items i=some vs)(ha:Zi ρ i=some a):∃n xs,s.heap.get? a=some (Zb xs n)∧VRs ρ s.heap vs xs∧ρ[i]? =some ⟨[a],[]⟩:=by
 obtain⟨en,he,b,n,xs,rfl,hl,r⟩:=H.sto i _ (Ye e);have:a=b:=by
  unfold Zi at ha;rw[he]at ha;exact(Option.some.inj ha).symm
 subst this;exact⟨n,xs,hl,r,he⟩
theorem Ym{ρ:List Ent}(h:(foot ρ).Nodup){i j:Nat}{e f:Ent}{a:Addr}(hi:ρ[i]? =some e)(hj:ρ[j]? =some f)(he:a∈e.as)(hf:a∈f.as):i=j:=by
 induction ρ generalizing i j with
 |nil=>simp at hi
 |cons x r ih=>
  have h':(x.as++foot r).Nodup:=h;rw[List.nodup_append]at h';cases i with
  |zero=>
   simp at hi;subst hi;cases j with
   |zero=>rfl
   |succ j=>simp at hj;exact absurd rfl (h'.2.2 a he a (Zz hj hf))
  |succ i=>
   simp at hi;cases j with
   |zero=>simp at hj;subst hj;exact absurd rfl (h'.2.2 a hf a (Zz hi he))
   |succ j=>simp at hj;rw[ih h'.2.1 hi hj]
theorem HI.setList(H:HI C ρ st s){i:Nat}{vs vs':List V}{a:Addr}{n n':Nat}{xs xs':List Value}(hi:st.σ.get i=some (.list vs))(he:ρ[i]? =some ⟨[a],[]⟩)(hl:s.heap.get? a=some (Zb xs n))
  (P:Plain (· =a) s s')(hl':s'.heap.get? a=some (Zb xs' n'))(r:VRs ρ s'.heap vs' xs'):Ze s.heap s'.heap∧HI C ρ (st.put i (.list vs')) s':=by
 have hm:a∈foot ρ:=Zz he (.head _);have ht:Ze s.heap s'.heap:=fun b ys e=>P.keep b _ e fun h=>by
  subst h;rw[hl]at e;exact absurd (congrArg Obj.cls (Option.some.inj e)) (by simp)
 have hget:∀j,(st.put i (.list vs')).σ.get j=if j=i then some (.list vs')else st.σ.get j:=fun j=>Tr.get_put _ _ _ _ _ (Nat.lt_succ_self _)
 refine⟨ht,Zu H.old P fun b h=>h▸H.lo a hm,C.inv_step _ _ H.inv fun b o e hb=>P.keep b o e fun h=>absurd (h▸H.lo a hm) (Nat.not_le.mpr hb),P.os.trans H.os,by refine(P.gens).symm▸?_;exact H.gens,
  H.nod,H.lo,fun b h=>?_,H.gnod,by refine(P.gens).symm▸?_;exact H.ghi,H.len,fun j o e=>?_,fun j o e=>?_⟩
 ·by_cases q:b=a
  ·subst q;exact⟨_,hl'⟩
  ·obtain⟨o,e⟩:=H.live b h;exact⟨o,P.keep b o e q⟩
 ·rw[hget]at e;split at e
  ·rename_i h;subst h;exact H.dom _ _ hi
  ·exact H.dom j o e
 ·rw[hget]at e;split at e
  ·rename_i h;subst h;cases e;exact⟨_,he,a,n',xs',rfl,hl',r⟩
  ·rename_i hj;obtain⟨en,hen,r'⟩:=H.sto j o e;exact⟨en,hen,r'.step (.refl _) (fun b o hb e=>P.keep b o e fun h=>hj (Ym H.nod hen he hb (by simp[h]))) ht fun g gs μ e=>by refine(P.gens).symm▸?_;exact e⟩
theorem Ext.setList{X:Addr→Prop}{i:Nat}{a:Addr}(he:ρ[i]? =some ⟨[a],[]⟩)(P:Plain (· =a) s s')(hl:Live s'.heap a)(ht:Ze s.heap s'.heap):Ext C X ρ s ρ s':=
 Ext.plain P (fun μ h=> .inl ⟨h▸Zz he (.head _),h▸hl⟩) ht
end
structure EnvOK(env:Env)(sc:Sc):Prop where
 kind:env.scope.kind= .function
 glob:env.globals=mainGlobals
 blt:env.builtins=builtinsNs
 loc:∀x,lookS x sc=some .local→env.kindOf x=some .local
 cel:∀x,lookS x sc=some .cell→env.kindOf x=some .cell
 fre:∀x,lookS x sc=some .free→env.kindOf x=some .cell∨env.kindOf x=some .free
 glo:∀x,lookS x sc=some .globalImplicit→env.kindOf x=some .globalImplicit
noncomputable def VarAt(env:Env)(h:Heap)(x:Str)(val:Value):Prop:=
 (env.kindOf x=some .local∧∃mm,h.Ns env.locals mm∧mm x=some val)∨
 ((env.kindOf x=some .cell∨env.kindOf x=some .free)∧∃c,env.cells.lookup x=some c∧h.IsCell c (some val))
structure FI(C:Ctx)(env:Env)(sc:Sc)(ρ:Rho)(m:List (Str×V))(s:Shared):Prop where
 ok:EnvOK env sc
 lo:C.base.objs.size≤env.locals
 ns:∃mm,s.heap.Ns env.locals mm
 out:env.locals∉foot ρ
 cell:∀x c,env.cells.lookup x=some c→C.base.objs.size≤c∧c∉foot ρ∧c≠env.locals∧∃v,s.heap.IsCell c v
 apart:∀x y c,env.cells.lookup x=some c→env.cells.lookup y=some c→x=y
 has:∀x,(lookS x sc=some .cell∨lookS x sc=some .free)→(env.cells.lookup x).isSome=true
 vars:∀x v,lookS x m=some v→∃val,VarAt env s.heap x val∧VR ρ s.heap v val
noncomputable def own(env:Env)(sc:Sc):Addr→Prop:=fun a=>a=env.locals∨∃x,lookS x sc=some .cell∧env.cells.lookup x=some a
section
variable{C:Ctx}{env:Env}{sc:Sc}{ρ ρ':Rho}{m:List (Str×V)}{s s':Shared}
theorem ns_at{h h':Heap}{a:Addr}{mm:Str→Option Value}(hn:h.Ns a mm)(hk:∀o,h.get? a=some o→h'.get? a=some o):h'.Ns a mm:=
 let ⟨o,es,ep,ho,r⟩:=hn;⟨o,es,ep,hk o ho,r⟩
theorem Yr{h h':Heap}{a:Addr}{v:Option Value}(hn:h.IsCell a v)(hk:∀o,h.get? a=some o→h'.get? a=some o):h'.IsCell a v:=
 let ⟨o,ho,r⟩:=hn;⟨o,hk o ho,r⟩
theorem FI.ext(F:FI C env sc ρ m s)(x:Ext C nox ρ s ρ' s'):FI C env sc ρ' m s':=by
 have kL:∀o,s.heap.get? env.locals=some o→s'.heap.get? env.locals=some o:=fun o e=>x.kept _ o e F.lo F.out fun h=>h;have kc:∀y c,env.cells.lookup y=some c→∀o,s.heap.get? c=some o→s'.heap.get? c=some o:=fun y c hc o e=>x.kept _ o e (F.cell y c hc).1 (F.cell y c hc).2.1 fun h=>h;refine⟨F.ok,F.lo,?_,?_,?_,F.apart,F.has,?_⟩
 ·obtain⟨mm,h⟩:=F.ns;exact⟨mm,ns_at h kL⟩
 ·intro h;rcases x.fresh _ h with h|h|h
  ·exact F.out h
  ·obtain⟨mm,o,_,_,ho,_⟩:=F.ns;rw[h]at ho;exact nnO ho
  ·exact h
 ·intro y c hc;obtain⟨h1,h2,h3,v,h4⟩:=F.cell y c hc;refine⟨h1,?_,h3,v,Yr h4 (kc y c hc)⟩;intro h;rcases x.fresh _ h with h|h|h
  ·exact h2 h
  ·obtain⟨o,ho,_⟩:=h4;rw[h]at ho;exact nnO ho
  ·exact h
 ·intro y v hv;obtain⟨val,hva,r⟩:=F.vars y v hv;refine⟨val,?_,r.mono x.main x.tup⟩;rcases hva with⟨hk,mm,hn,he⟩|⟨hk,c,hc,hi⟩
  ·exact .inl ⟨hk,mm,ns_at hn kL,he⟩
  ·exact .inr ⟨hk,c,hc,Yr hi (kc y c hc)⟩
end
noncomputable def Room(n:Nat)(A:Around):Prop:=A.depth+n+20<recursionLimit∧A.units+4*n+800<cLine∧A.handled=none
theorem Room.less{n m:Nat}{A:Around}(h:Room n A)(hm:m≤n):Room m A:=⟨by have:=h.1;lia,by have:=h.2.1;lia,h.2.2⟩
noncomputable abbrev KX(C:Ctx)(ρ:Rho)(s:Shared)(m:List (Str×V))(k:KE)(Q:VP):Prop:=
 ∀v st' ρ' s' x,k v st'→HI C ρ' st' s'→Ext C nox ρ s ρ' s'→VR ρ' s'.heap v x→st'.m=m→Q x s'
section
variable{C:Ctx}{ρ:Rho}{st:St}{s:Shared}{m:List (Str×V)}{k:KE}{Q:VP}
theorem KX.val(K:KX C ρ s st.m k Q)(H:HI C ρ st s){v:V}{x:Value}(hk:k v st)(r:VR ρ s.heap v x)(t:Nat):Q x {s with toks:=t}:=
 K v st ρ _ x hk (H.plain0 (Plain.toks _ s t)) (.plain0 (Plain.toks _ s t)) r rfl
theorem KX.same(K:KX C ρ s st.m k Q)(H:HI C ρ st s){v:V}{x:Value}(hk:k v st)(r:VR ρ s.heap v x):Q x s:=K v st ρ _ x hk H (.refl _ _ _ _) r rfl
theorem KX.list(K:KX C ρ s st.m k Q)(H:HI C ρ st s){vs:List V}{xs:List Value}(hk:k (.ref st.n) (st.new (.list vs)))(r:VRs ρ s.heap vs xs)(t:Nat):
  Q (.ref s.heap.objs.size) {s with heap:=s.heap.push (Zb xs 0),toks:=t}:=
 K _ _ _ _ _ hk (H.newList (Plain.push _ s _ t) (Zw _) (H.freshLo (Nat.le_refl _)) (Heap.get?_push_size _ rfl) r) (.newList (Plain.push _ s _ t) (Zw _)) (.newList H _ _) rfl
theorem KX.after{ρ':Rho}{s':Shared}(K:KX C ρ s m k Q)(x:Ext C nox ρ s ρ' s'):KX C ρ' s' m k Q:=fun v st' ρ₂ s₂ y hk H e r hm=>K v st' ρ₂ s₂ y hk H (x.trans e) r hm
end
theorem ZbA(x y:Int):(x.fdiv y).natAbs≤x.natAbs:=by
 rcases Int.lt_trichotomy y 0 with h|h|h
 ·have e:x.fdiv y=(-x).fdiv (-y):=(Int.neg_fdiv_neg x y).symm;rw[e,Int.fdiv_eq_ediv_of_nonneg _ (by lia),←Int.natAbs_neg x]
  exact Int.natAbs_ediv_le_natAbs _ _
 ·subst h;simp
 ·rw[Int.fdiv_eq_ediv_of_nonneg _ (by lia)]
  exact Int.natAbs_ediv_le_natAbs _ _
theorem ZU{b lid:Nat}(h:under b lid=true):b≠0∧b≤lid:=by
 unfold under at h;rw[Bool.and_eq_true,Bool.not_eq_true']at h;exact⟨Nat.ne_of_beq_eq_false h.1,Nat.le_of_ble_eq_true h.2⟩
theorem ZeR{x y:Int}{p q:Nat}(hx:p≠0→x.natAbs<p)(hy:q≠0→y.natAbs<q):addB p q≠0→(x+y).natAbs<addB p q∧(x-y).natAbs<addB p q:=by
 delta addB
 cases h:(Nat.beq p 0 || Nat.beq q 0)with
 |true=>exact fun h=>absurd rfl h
 |false=>
  rw[Bool.or_eq_false_iff]at h;have s:x.natAbs+y.natAbs<p+q-1:=Nat.lt_sub_of_add_lt (Nat.lt_of_le_of_lt (by rw[Nat.add_right_comm];exact Nat.add_le_add_right (hx (Nat.ne_of_beq_eq_false h.1)) _) (Nat.add_lt_add_left (hy (Nat.ne_of_beq_eq_false h.2)) _))
  exact fun μ=>⟨Nat.lt_of_le_of_lt (Int.natAbs_add_le x y) s,Nat.lt_of_le_of_lt (Int.natAbs_sub_le x y) s⟩
theorem ZhY{x y:Int}{p q:Nat}(hx:p≠0→x.natAbs<p)(hy:q≠0→y.natAbs<q):mulB p q≠0→(x*y).natAbs<mulB p q:=by
 unfold mulB;cases h:(Nat.beq p 0 || Nat.beq q 0)with
 |true=>simp
 |false=>
  rw[Bool.or_eq_false_iff]at h;have h1:=hx (Nat.ne_of_beq_eq_false h.1);have h2:=hy (Nat.ne_of_beq_eq_false h.2);intro μ
  dsimp only
  rw[Int.natAbs_mul];exact Nat.lt_succ_of_le (Nat.mul_le_mul (by lia) (by lia))
theorem mulOk{x y:Int}{p q:Nat}(hp:under p big=true)(hq:under q big=true)(hx:p≠0→x.natAbs<p)(hy:q≠0→y.natAbs<q):IntMulOk x y:=by
 have bx:Builtin.Int.intBits x≤8192:=intBits_le (Nat.lt_of_lt_of_le (hx (ZU hp).1) (ZU hp).2);have by':Builtin.Int.intBits y≤8192:=intBits_le (Nat.lt_of_lt_of_le (hy (ZU hq).1) (ZU hq).2)
 delta IntMulOk
 have:Builtin.Int.intTooBig (Builtin.Int.intBits x+Builtin.Int.intBits y)=false:=by
  delta Builtin.Int.intTooBig bitsLine
  apply decide_eq_false
  lia
 rw[this];simp
theorem Zek{α:Type}(xs:List α):∀n:Nat,List.foldl (fun x1 x2=>x1++x2) #[] (List.replicate n xs.toArray)=(List.replicate n xs).flatten.toArray:=by
 have key:∀(n:Nat) (acc:Array α),List.foldl (fun x1 x2=>x1++x2) acc (List.replicate n xs.toArray)=acc++(List.replicate n xs).flatten.toArray:=by
  intro n
  induction n with
  |zero=>intro acc;simp
  |succ n ih=>intro acc;rw[List.replicate_succ,List.foldl_cons,ih,List.replicate_succ,List.flatten_cons];simp
 intro n;rw[key];simp
theorem ZjK{α:Type}(n:Nat):(List.replicate n ([]:List α)).flatten=[]:=by
 induction n with
 |zero=>rfl
 |succ n ih=>rw[List.replicate_succ,List.flatten_cons,ih];rfl
theorem ZmA(x:Str)(n:Int)(b:Nat)(hx:x.length≤b)(q:Nat)(hq:n.natAbs<q):(Txt.mul x n).length≤b*(q-1):=by
 unfold Txt.mul;split
 ·exact Nat.zero_le _
 ·split
  ·rename_i h1 h2;have:1≤q-1:=by simp at h2;omega
   calc x.length≤b:=hx
    _≤b*(q-1):=Nat.le_mul_of_pos_right _ this
  ·obtain⟨cps⟩:=x;have key:∀(k:Nat) (acc:Array Nat),((List.replicate k cps).foldl (· ++ ·) acc).size=acc.size+k*cps.size:=by
    intro k
    induction k with
    |zero=>intro acc;simp
    |succ k ih=>intro acc;rw[List.replicate_succ,List.foldl_cons,ih,Array.size_append,Nat.succ_mul];omega
   show((List.replicate n.toNat cps).foldl (· ++ ·) #[]).size≤b*(q-1)
   rw[key];have:n.toNat≤q-1:=by omega
   have hx':cps.size≤b:=hx
   calc (#[]:Array Nat).size+n.toNat*cps.size=n.toNat*cps.size:=by simp
    _≤(q-1)*b:=Nat.mul_le_mul this hx'
    _=b*(q-1):=Nat.mul_comm _ _
section
variable{ρ:Rho}{h:Heap}{v:V}{vs:List V}{x:Value}{xs:List Value}{n:Nat}
theorem Zh{P:Int→Nat→Prop}(e:Zo v n P)(r:VR ρ h v x):∃i b t,x= .int i t∧(b≠0→i.natAbs<b)∧P i b:=by
 cases v with
 |int i b=>exact⟨i,b,(ZB r).choose,(ZB r).choose_spec.1,(ZB r).choose_spec.2,e⟩
 |_=>exact noB e
theorem ZW{P:Str→Nat→Prop}(e:Z0 v n P)(r:VR ρ h v x):∃s b t,x= .str s t∧s.length≤b∧P s b:=by
 cases v with
 |str i b=>exact⟨i,b,(Z4 r).choose,(Z4 r).choose_spec.1,(Z4 r).choose_spec.2,e⟩
 |_=>exact noB e
theorem Yo{P:Nat→Prop}(e:Z2 v n P)(r:VR ρ h v x):∃i a,x= .ref a∧Zi ρ i=some a∧P i:=by
 cases v with
 |ref i=>exact⟨i,(Z9 r).choose,(Z9 r).choose_spec.1,(Z9 r).choose_spec.2,e⟩
 |_=>exact noB e
theorem ZcA{p:Prop}(e:noArg vs n p)(r:VRs ρ h vs xs):xs=[]∧p:=by
 cases r with
 |nil=>exact⟨rfl,e⟩
 |cons _ _ _ _ _ _=>cases e
theorem ZJ{P:V→Prop}(e:Z8 vs n P)(r:VRs ρ h vs xs):∃v y,xs=[y]∧VR ρ h v y∧P v:=by
 cases r with
 |nil=>cases e
 |cons v _ y _ p r=>
  obtain⟨rfl,e⟩:=ZcA e r;exact⟨v,y,rfl,p,e⟩
end
theorem Znz(x y:Str):appF x y=x++y:=by
 show(⟨(x.cps.toList++y.cps.toList).toArray⟩:Str)=⟨x.cps++y.cps⟩;congr 1;apply Array.toList_inj.mp;simp
theorem ZaH{q:Nat}{n:Int}(hc:under q (2 ^ 1000)=true)(hy:q≠0→n.natAbs<q):n.natAbs<2 ^ 1023:=by
 have hq:=ZU hc;exact Nat.lt_of_lt_of_le (hy hq.1) (Nat.le_trans hq.2 (by decide+kernel))
section
variable{C:Ctx}{A:Around}{ρ:Rho}{st:St}{s:Shared}{k:KE}{Q E:VP}{x y:Value}{a b:V}
theorem Zk3{xs ys:Str}{p q:Nat}{t u:Tok}(hc:Nat.ble (p+q) 4096=true)(hb:k (.str (appF xs ys) (p+q)) st)(H:HI C ρ st s)(hx:xs.length≤p)(hy:ys.length≤q)(K:KX C ρ s st.m k Q):
  wpAny (model C.prog C.w) A (binaryOp .Add (.str xs t) (.str ys u)) Q E s:=by
 rw[Znz]at hb;have hc:=Nat.le_of_ble_eq_true hc;have hl:(xs++ys).length≤p+q:=by rw[PySem.Str.length_append];exact Nat.add_le_add hx hy
 refine PySem.P.add_str ?_;by_cases h0:(xs.length==0)=true
 ·refine(if_pos h0).symm▸?_;rw[PySem.Str.append_left_empty h0]at hb hl;exact K.same H hb (.str _ _ _ hl)
 ·refine(if_neg h0).symm▸?_;by_cases h0:(ys.length==0)=true
  ·refine(if_pos h0).symm▸?_;rw[PySem.Str.append_right_empty h0]at hb hl;exact K.same H hb (.str _ _ _ hl)
  ·refine(if_neg h0).symm▸?_;refine⟨?_,K.val H hb (.str _ _ _ hl) _⟩;refine(sizeLine_eq).symm▸?_;exact Nat.le_trans hl (Nat.le_trans hc (by decide))
theorem Zk4{i j:Nat}{xs ys:List V}{a b:Addr}(e1:st.items i=some xs)(e2:st.items j=some ys)(hc:Nat.ble (xs.length+ys.length) 4096=true)(hb:k (.ref st.n) (st.new (.list (xs++ys))))(H:HI C ρ st s)(ha:Zi ρ i=some a)(hb':Zi ρ j=some b)(K:KX C ρ s st.m k Q):
  wpAny (model C.prog C.w) A (binaryOp .Add (.ref a) (.ref b)) Q E s:=by
 refine Classical.byContradiction fun hnG=>?_;have hc:=Nat.le_of_ble_eq_true hc;obtain⟨n,us,hl,r1,_⟩:=H.list e1 ha;obtain⟨n',ws,hl',r2,_⟩:=H.list e2 hb';refine hnG ?_;refine PySem.concat_meets ⟨_,hl,rfl⟩ ⟨_,hl',rfl⟩ noFill_list_add seq_list_add PySem.F.slot_list_add PySem.F.entry_list_add (PySem.F.args_list_add_2 _ _) (list_addW a b us.toArray ws.toArray n n' none none #[] #[] ?_) ⟨hl,hl',?_⟩
 ·rw[List.size_toArray,List.size_toArray,←r1.len,←r2.len,sizeLine_eq];exact Nat.le_trans hc (by decide)
 ·have:=K.list H hb (r1.append r2) s.toks;simpa using this
theorem ZkH(hb:fAdd a b st k)(H:HI C ρ st s)(ra:VR ρ s.heap a x)(rb:VR ρ s.heap b y)(K:KX C ρ s st.m k Q):wpAny (model C.prog C.w) A (binaryOp .Add x y) Q E s:=by
 cases a with
 |int _ _=>
  obtain⟨_,rfl,hx⟩:=ZB ra;obtain⟨_,_,_,rfl,hy,hb⟩:=Zh hb rb;exact PySem.P.add_int (K.val H hb (.int _ _ _ fun h=>(ZeR hx hy h).1) _)
 |str _ _=>
  obtain⟨_,rfl,hx⟩:=Z4 ra;obtain⟨_,_,_,rfl,hy,hb⟩:=ZW hb rb;exact Zk3 (gd_of hb).1 (gd_of hb).2 H hx hy K
 |flt _=>
  obtain⟨_,rfl⟩:=Ys ra;cases b with
  |flt _=>
   obtain⟨_,rfl⟩:=Ys rb;exact PyProof.Rows.add_float (K.val H hb (.flt _ _) _)
  |int _ _=>
   obtain⟨_,rfl,hy⟩:=ZB rb;exact PyProof.Rows.add_fi_fits (ZaH (gd_of hb).1 hy) (K.val H (gd_of hb).2 (.flt _ _) _)
  |_=>exact noB hb
 |ref _=>
  obtain⟨_,rfl,ha⟩:=Z9 ra;obtain⟨_,_,rfl,hb',hb⟩:=Yo hb rb;obtain⟨_,e1,hb⟩:=Zd hb;obtain⟨_,e2,hb⟩:=Zd hb;exact Zk4 e1 e2 (gd_of hb).1 (gd_of hb).2 H ha hb' K
 |_=>exact noB hb
theorem ZkF(hb:fSub a b st k)(H:HI C ρ st s)(ra:VR ρ s.heap a x)(rb:VR ρ s.heap b y)(K:KX C ρ s st.m k Q):wpAny (model C.prog C.w) A (binaryOp .Sub x y) Q E s:=by
 cases a with
 |int _ _=>
  obtain⟨_,rfl,hx⟩:=ZB ra;obtain⟨_,_,_,rfl,hy,hb⟩:=Zh hb rb;exact PySem.P.sub_int (K.val H hb (.int _ _ _ fun h=>(ZeR hx hy h).2) _)
 |flt _=>
  obtain⟨_,rfl⟩:=Ys ra;cases b with
  |flt _=>
   obtain⟨_,rfl⟩:=Ys rb;exact PyProof.Rows.sub_float (K.val H hb (.flt _ _) _)
  |int _ _=>
   obtain⟨_,rfl,hy⟩:=ZB rb;exact PyProof.Rows.sub_fi_fits (ZaH (gd_of hb).1 hy) (K.val H (gd_of hb).2 (.flt _ _) _)
  |_=>exact noB hb
 |_=>exact noB hb
theorem Zj1{xs:Str}{p q:Nat}{n:Int}{t u:Tok}(hc:(under q 64&&Nat.ble p 64)=true)(hb:k (.str (Txt.mul xs n) (p*(q-1))) st)(H:HI C ρ st s)(hx:xs.length≤p)(hy:q≠0→n.natAbs<q)(K:KX C ρ s st.m k Q):
  wpAny (model C.prog C.w) A (binaryOp .Mult (.str xs t) (.int n u)) Q E s:=by
 rw[Bool.and_eq_true]at hc;have hq:=ZU hc.1;have hp:=Nat.le_of_ble_eq_true hc.2;have ln:=hy hq.1;refine PySem.SB.mul ⟨?_,fun h1 h2=>?_,fun h1 h2=>?_⟩ fun t' kk=>K.val H hb (.str _ _ _ (ZmA _ _ _ hx _ ln)) kk
 ·simp only[Bool.or_eq_false_iff,decide_eq_false_iff_not];lia
 ·have:(64:Int)≤(2 ^ 63-1) / n:=Int.le_ediv_of_mul_le (by lia) (by lia)
  lia
 ·have:xs.length*n.toNat≤64*64:=Nat.mul_le_mul (by lia) (by lia)
  show decide (_ > sizeLine)=false;refine(sizeLine_eq).symm▸?_;apply decide_eq_false
  lia
theorem Zj2{i q:Nat}{n:Int}{u:Tok}{a:Addr}{xs:List V}(e1:st.items i=some xs)(hc:(under q 64&&Nat.ble xs.length 64)=true)(hb:k (.ref st.n) (st.new (.list (repL n.toNat xs))))(H:HI C ρ st s)(ha:Zi ρ i=some a)(hy:q≠0→n.natAbs<q)(K:KX C ρ s st.m k Q):
  wpAny (model C.prog C.w) A (binaryOp .Mult (.ref a) (.int n u)) Q E s:=by
 refine Classical.byContradiction fun hnG=>?_;rw[Bool.and_eq_true]at hc;have hq:=ZU hc.1;have hn:=Nat.le_of_ble_eq_true hc.2;have ln:=hy hq.1;obtain⟨n',us,hl,r1,_⟩:=H.list e1 ha;have hz:us.toArray.size*n.toNat≤64*64:=Nat.mul_le_mul (by rw[List.size_toArray,←r1.len];exact hn) (by lia)
 refine hnG ?_;refine wpAny_binaryOp_repeat_ref (T:="list") (U:="int") (by decide) ⟨_,hl,rfl⟩ (fun s'=>typeIs_int s' n u) noFill_list_mul PySem.F.fills_int_mul PySem.F.slot_int_rmul repeat_list PySem.F.slot_int_index.lookup
  (call_meets PySem.F.slot_int_rmul (typeIs_int s n u) PySem.F.entry_int_rmul (PySem.F.args_int_rmul_2 _ _) (int___rmul___int_list n u a us.toArray n')
   ⟨hl,rfl,⟨_,hl,rfl⟩,call_meets PySem.F.slot_list_mul ⟨_,hl,rfl⟩ PySem.F.entry_list_mul (PySem.F.args_list_mul_2 _ _)
    (AutoListH.list___mul___list_int_3 a us.toArray n' n u (by simp[Builtin.List.listFitsIndex];lia) (by lia) (by rw[List.size_toArray]at hz;simp[Builtin.List.listTooLong,sizeLine];lia))
    ⟨hl,?_⟩⟩)
 have:=K.list H hb (r1.rep n.toNat) s.toks;cases us with
 |nil=>
  rw[ZjK]at this;simpa using this
 |cons z zs=>
  have e:(z::zs).toArray.isEmpty=false:=by simp
  refine(e).symm▸?_
  skip
  rw[Zek];exact this
theorem ZkG(hb:fMul a b st k)(H:HI C ρ st s)(ra:VR ρ s.heap a x)(rb:VR ρ s.heap b y)(K:KX C ρ s st.m k Q):wpAny (model C.prog C.w) A (binaryOp .Mult x y) Q E s:=by
 cases a with
 |int _ _=>
  obtain⟨_,rfl,hx⟩:=ZB ra;cases b with
  |flt _=>
   obtain⟨_,rfl⟩:=Ys rb;exact PyProof.Rows.mul_if_fits (ZaH (gd_of hb).1 hx) (K.val H (gd_of hb).2 (.flt _ _) _)
  |int _ _=>
   obtain⟨_,rfl,hy⟩:=ZB rb;have hc:=Bool.and_eq_true_iff.mp (gd_of hb).1;exact PySem.P.mul_int (K.val H (gd_of hb).2 (.int _ _ _ (ZhY hx hy)) _) (mulOk hc.1 hc.2 hx hy)
  |_=>exact noB hb
 |str _ _=>
  obtain⟨_,rfl,hx⟩:=Z4 ra;obtain⟨_,_,_,rfl,hy,hb⟩:=Zh hb rb;exact Zj1 (gd_of hb).1 (gd_of hb).2 H hx hy K
 |flt _=>
  obtain⟨_,rfl⟩:=Ys ra;cases b with
  |flt _=>
   obtain⟨_,rfl⟩:=Ys rb;exact PyProof.Rows.mul_float (K.val H hb (.flt _ _) _)
  |int _ _=>
   obtain⟨_,rfl,hy⟩:=ZB rb;exact PyProof.Rows.mul_fi_fits (ZaH (gd_of hb).1 hy) (K.val H (gd_of hb).2 (.flt _ _) _)
  |_=>exact noB hb
 |ref _=>
  obtain⟨_,rfl,ha⟩:=Z9 ra;obtain⟨_,_,_,rfl,hy,hb⟩:=Zh hb rb;obtain⟨_,e1,hb⟩:=Zd hb;exact Zj2 e1 (gd_of hb).1 (gd_of hb).2 H ha hy K
 |_=>exact noB hb
theorem ZjP{x y:Int}{p q:Nat}(hc:(under p 16&&under q 16&&decide (0≤y))=true)(hx:p≠0→x.natAbs<p)(hy:q≠0→y.natAbs<q):0≤y∧(Builtin.Int.intBits x:Int)*y≤2 ^ 27∧(x ^ y.toNat).natAbs<p ^ y.toNat+1:=by
 rw[Bool.and_eq_true,Bool.and_eq_true]at hc;have h0:=of_decide_eq_true hc.2;have hp:=ZU hc.1.1;have hq:=ZU hc.1.2;have lx:=hx hp.1;have ly:=hy hq.1;refine⟨h0,?_,?_⟩
 ·have:Builtin.Int.intBits x≤4:=intBits_le (by lia)
  have h4:(Builtin.Int.intBits x:Int)≤4:=by lia
  have h16:y≤16:=by lia
  exact Int.le_trans (Int.mul_le_mul h4 h16 h0 (by decide)) (by decide)
 ·rw[Int.natAbs_pow];exact Nat.lt_succ_of_le (Nat.pow_le_pow_left (Nat.le_of_lt lx) _)
theorem ZkA(x:Int){y:Int}(h0:¬y=0):(x.fmod y).natAbs<y.natAbs:=by
 have f:=(fdiv_fmod_facts x y).2.2;rcases Int.lt_or_gt_of_ne h0 with h|h
 ·have g:=f.2 h;rw[←Int.natAbs_neg,←Int.natAbs_neg y];exact Int.natAbs_lt_natAbs_of_nonneg_of_lt (Int.neg_nonneg_of_nonpos g.2) (Int.neg_lt_neg g.1)
 ·exact Int.natAbs_lt_natAbs_of_nonneg_of_lt (f.1 h).1 (f.1 h).2
theorem Zj3{x y:Int}{q:Nat}(h0:¬y=0)(hy:q≠0→y.natAbs<q)(h:q-1≠0):(x.fmod y).natAbs<q-1:=
 Nat.lt_of_lt_of_le (ZkA x h0) (Nat.le_sub_one_of_lt (hy fun e=>h (by rw[e])))
theorem Znt{op:Operator}(hb:binA op a b st k)(H:HI C ρ st s)(ra:VR ρ s.heap a x)(rb:VR ρ s.heap b y)(hA:Room 1 A)(K:KX C ρ s st.m k Q):
  wpAny (model C.prog C.w) A (binaryOp op x y) Q E s:=by
 cases op with
 |Add=>exact ZkH hb H ra rb K
 |Sub=>exact ZkF hb H ra rb K
 |Mult=>exact ZkG hb H ra rb K
 |FloorDiv=>
  refine Classical.byContradiction fun hnG=>?_;obtain⟨_,_,_,rfl,hx,hb⟩:=Zh hb ra;obtain⟨_,_,_,rfl,hy,hb⟩:=Zh hb rb;obtain⟨hc,hb⟩:=gd_of hb;rw[Bool.and_eq_true,Bool.not_eq_true']at hc;have hq:=ZU hc.1;refine hnG ?_;exact PyProof.Rows.floordiv_int (of_decide_eq_false hc.2) (K.val H hb (.int _ _ _ fun h=>Nat.lt_of_le_of_lt (ZbA _ _) (hx h)) _) (.inl (PyProof.noPylong_small (Nat.lt_of_lt_of_le (hy hq.1) hq.2)))
 |Mod=>
  refine Classical.byContradiction fun hnG=>?_;obtain⟨_,_,_,rfl,hx,hb⟩:=Zh hb ra;obtain⟨_,_,_,rfl,hy,hb⟩:=Zh hb rb;obtain⟨hc,hb⟩:=gd_of hb;rw[Bool.not_eq_true']at hc;have h0:=of_decide_eq_false hc;refine hnG ?_;exact PyProof.Rows.mod_int h0 (K.val H hb (.int _ _ _ (Zj3 h0 hy)) _)
 |Pow=>
  refine Classical.byContradiction fun hnG=>?_;obtain⟨_,_,_,rfl,hx,hb⟩:=Zh hb ra;obtain⟨_,_,_,rfl,hy,hb⟩:=Zh hb rb;obtain⟨hc,hb⟩:=gd_of hb;have f:=ZjP hc hx hy;refine hnG ?_;exact PyProof.Rows.pow_int f.1 f.2.1 (K.val H hb (.int _ _ _ fun μ=>f.2.2) _)
 |Div=>
  refine Classical.byContradiction fun hnG=>?_;obtain⟨_,_,_,rfl,hx,hb⟩:=Zh hb ra;obtain⟨_,_,_,rfl,hy,hb⟩:=Zh hb rb;obtain⟨hc,hb⟩:=gd_of hb;rw[Bool.and_eq_true,Bool.not_eq_true']at hc;refine hnG ?_;exact PySem.AutoIntOps.truediv_2 (by simpa using hc.2) (by refine(hb.1).symm▸?_;decide) (K.val H hb.2 (.flt _ _) _)
 |_=>exact noB hb
theorem ZfO{op:Operator}(hb:binI op a b st k)(H:HI C ρ st s)(ra:VR ρ s.heap a x)(rb:VR ρ s.heap b y)(K:KX C ρ s st.m k Q):
  wpAny (model C.prog C.w) A (inplaceOp op x y) Q E s:=by
 cases op with
 |Add=>
  refine Classical.byContradiction fun hnG=>?_;obtain⟨_,_,_,rfl,hx,hb⟩:=Zh hb ra;obtain⟨_,_,_,rfl,hy,hb⟩:=Zh hb rb;refine hnG ?_;exact PySem.P.iadd_int (K.val H hb (.int _ _ _ fun h=>(ZeR hx hy h).1) _)
 |Mult=>
  refine Classical.byContradiction fun hnG=>?_;obtain⟨_,_,_,rfl,hx,hb⟩:=Zh hb ra;obtain⟨_,_,_,rfl,hy,hb⟩:=Zh hb rb;obtain⟨hc,hb⟩:=gd_of hb;rw[Bool.and_eq_true]at hc;refine hnG ?_;exact PySem.P.imul_int (K.val H hb (.int _ _ _ (ZhY hx hy)) _) (mulOk hc.1 hc.2 hx hy)
 |_=>exact noB hb
end
end Mine
end
noncomputable section
open PySem PyProof.Rows PySem.SeqAt
namespace Mine
set_option backward.match.sparseCases false
section
variable{C:Ctx}{A:Around}{ρ:Rho}{st:St}{s:Shared}{h:Heap}
theorem ZbH(x y:Str):strEq x y=(x.cps.toList==y.cps.toList):=by
 unfold strEq;cases q:Za6 x.cps.toList y.cps.toList with
 |true=>refine(J7.mp q)▸?_;simp
 |false=>
  have:x.cps.toList≠y.cps.toList:=fun e=>by rw[J7.mpr e]at q;cases q
  exact(beq_eq_false_iff_ne.mpr this).symm
theorem Zm2{α:Type}{b:V}{f:Int→α}{c:α}(e:intO b f=some c):∃j q,b= .int j q∧c=f j:=by
 cases b with
 |int j q=>exact⟨j,q,rfl,(Option.some.inj e).symm⟩
 |_=>exact nnO e
theorem Zme{α:Type}{b:V}{f:Str→α}{c:α}(e:strO b f=some c):∃j q,b= .str j q∧c=f j:=by
 cases b with
 |str j q=>exact⟨j,q,rfl,(Option.some.inj e).symm⟩
 |_=>exact nnO e
theorem Jk{a b:V}{x:Value}{c:Bool}(e:Jv a b=some c)(r:VR ρ h a x):(∃i t j q,x= .int i t∧b= .int j q∧c=decide (i=j))∨(∃p t q n,x= .str p t∧b= .str q n∧c=strEq p q):=by
 cases a with
 |int i p=>exact(ZB r).elim fun t h=>exE2 (Zm2 e) fun j q h'=> .inl ⟨i,t,j,q,h.1,h'⟩
 |str i p=>exact(Z4 r).elim fun t h=>exE2 (Zme e) fun j q h'=> .inr ⟨i,t,j,q,h.1,h'⟩
 |_=>exact nnO e
theorem Zb3{a b:V}{x y:Value}{c:Bool}(e:Jv a b=some c)(r:VR ρ h a x)(rb:VR ρ h b y):(∃i t j u,x= .int i t∧y= .int j u∧c=decide (i=j))∨(∃p t q u,x= .str p t∧y= .str q u∧c=strEq p q):=
 (Jk e r).elim (fun h=>exE4 h fun i t j μ h=>(ZB (h.2.1▸rb)).elim fun u hu=> .inl ⟨i,t,j,u,h.1,hu.1,h.2.2⟩)
  fun h=>exE4 h fun i t j μ h=>(Z4 (h.2.1▸rb)).elim fun u hu=> .inr ⟨i,t,j,u,h.1,hu.1,h.2.2⟩
theorem ZdR{a b:V}{x y:Value}{c:Bool}(e:Jv a b=some c)(ra:VR ρ h a x)(rb:VR ρ h b y):EqAt A s x y c:=
 (Zb3 e ra rb).elim (fun h=>exE4 h fun μ μ μ μ h=>by rw[h.1,h.2.1,h.2.2];exact(PySem.MeetsSeq.EqGives.int _ _ _ _).at A s)
  fun h=>exE4 h fun μ μ μ μ h=>by rw[h.1,h.2.1,h.2.2,ZbH];exact(PySem.SeqRoads2.EqGives.str _ _ _ _).at A s
theorem Zgt{as:List V}:∀{bs:List V} {xs ys:List Value} {c:Bool},ZeJ as bs=some c→VRs ρ h as xs→VRs ρ h bs ys→
  ∃e:Nat→Bool,xs.length=ys.length∧(∀j (h1:j<xs.length) (h2:j<ys.length),EqAt A s xs[j] ys[j] (e j))∧(List.range xs.length).all e=c:=by
 induction as with
 |nil=>
  intro bs xs ys c e ra rb;rw[ZM ra];cases bs with
  |nil=>rw[ZM rb];exact⟨fun μ=>true,rfl,fun j h1=>absurd h1 (Nat.not_lt_zero _),Option.some.inj e⟩
  |cons=>exact nnO e
 |cons a as ih=>
  intro bs xs ys c e ra rb;cases bs with
  |nil=>exact nnO e
  |cons b bs=>
   refine exE2 (Zq ra) fun x xs p=>exE2 (Zq rb) fun y ys q=>(Option.bind_eq_some_iff.mp e).elim fun c1 h1=>(Option.bind_eq_some_iff.mp h1.2).elim fun c2 h2=>(ih h2.1 p.2.2 q.2.2).elim fun f hf=>?_;rw[p.1,q.1,←Option.some.inj h2.2,←hf.2.2];refine⟨fun j=>Nat.casesOn j c1 f,congrArg Nat.succ hf.1,fun j k1 k2=>?_,?_⟩
   ·cases j with
    |zero=>exact ZdR h1.1 p.2.1 q.2.1
    |succ j=>exact hf.2.1 j (Nat.lt_of_succ_lt_succ k1) (Nat.lt_of_succ_lt_succ k2)
   ·rw[List.length_cons,List.range_succ_eq_map,List.all_cons,List.all_map];rfl
theorem Zl{a:Addr}{xs:List Value}{n:Nat}(e:s.heap.get? a=some (Zb xs n)):s.heap.IsList a xs.toArray:=⟨_,e,rfl,n,rfl⟩
theorem Zgs{as bs:List V}{xs ys:List Value}{c:Bool}{a b:Addr}{n n':Nat}(e:ZeI as bs=some c)(hl:s.heap.get? a=some (Zb xs n))(hl':s.heap.get? b=some (Zb ys n'))
  (ra:VRs ρ s.heap as xs)(rb:VRs ρ s.heap bs ys)(hu:A.units<cLine):RcAt A s (.ref a) (.ref b) c∧RcNeAt A s (.ref a) (.ref b) (!c):=by
 unfold ZeI at e;split at e
 ·obtain⟨f,hlen,hf,hall⟩:=Zgt (A:=A.in1) (s:=s) e ra rb;subst hall;have hf':∀j (h1:j<xs.toArray.size) (h2:j<ys.toArray.size),EqAt A.in1 s xs.toArray[j] ys.toArray[j] (f j):=fun j h1 h2=>by simpa using hf j (by simpa using h1) (by simpa using h2)
  have k1:=RcAt.lists (Zl hl) (Zl hl') (by simpa using hlen) hu hf'
  have k2:=RcNeAt.lists (Zl hl) (Zl hl') (by simpa using hlen) hu hf'
  rw[List.size_toArray]at k1 k2;exact⟨k1,k2⟩
 ·rename_i hne;cases e;have hne:=Nat.ne_of_beq_eq_false hne;have:(xs.toArray.size !=ys.toArray.size)=true:=by
   rw[List.size_toArray,List.size_toArray,←ra.len,←rb.len];simpa using hne
  exact⟨RcAt.lists_lengths (Zl hl) (Zl hl') this hu,RcNeAt.lists_lengths (Zl hl) (Zl hl') this hu⟩
theorem ZbQ{ρ:Rho}(hn:(foot ρ).Nodup){i j:Nat}{a b:Addr}(hi:Zi ρ i=some a)(hj:Zi ρ j=some b)(hne:i≠j):a≠b:=by
 rintro rfl
 unfold Zi at hi hj;cases ei:ρ[i]? with
 |none=>rw[ei]at hi;cases hi
 |some e=>
  cases ej:ρ[j]? with
  |none=>rw[ej]at hj;cases hj
  |some f=>
   rw[ei]at hi;rw[ej]at hj;have h1:a∈e.as:=List.mem_of_mem_head? (by simpa using hi)
   have h2:a∈f.as:=List.mem_of_mem_head? (by simpa using hj)
   exact hne (Ym hn ei ej h1 h2)
theorem ZfA{a b:V}{c:Bool}(e:eqV st a b=some c):(∃i j,a= .ref i∧b= .ref j∧eqRef st i j=some c)∨Jv a b=some c:=by
 cases a with
 |ref i=>cases b with
  |ref j=>exact .inl ⟨i,j,rfl,rfl,e⟩
  |_=>exact nnO e
 |_=>exact .inr e
theorem ZlK{a b:V}{x y:Value}{c:Bool}(e:eqV st a b=some c)(ra:VR ρ h a x)(rb:VR ρ h b y):(∃i p j q,x= .ref p∧y= .ref q∧Zi ρ i=some p∧Zi ρ j=some q∧eqRef st i j=some c)∨Jv a b=some c:=
 (ZfA e).elim (fun h=>exE2 h fun i j h=>(Z9 (h.1▸ra)).elim fun p hp=>(Z9 (h.2.1▸rb)).elim fun q hq=> .inl ⟨i,p,j,q,hp.1,hq.1,hp.2,hq.2,h.2.2⟩) .inr
theorem ZfB(H:HI C ρ st s){i j:Nat}{p q:Addr}{c:Bool}(e:eqRef st i j=some c)(hp:Zi ρ i=some p)(hq:Zi ρ j=some q)(hu:A.units<cLine):i≠j∧RcAt A s (.ref p) (.ref q) c∧RcNeAt A s (.ref p) (.ref q) (!c):=by
 delta eqRef at e
 cases hne:Nat.beq i j with
 |true=>rw[hne]at e;cases e
 |false=>
  rw[hne]at e;obtain⟨as,e1,e⟩:=Option.bind_eq_some_iff.mp e;obtain⟨bs,e2,e⟩:=Option.bind_eq_some_iff.mp e;obtain⟨n,xs,hl,r1,_⟩:=H.list e1 hp;obtain⟨n',ys,hl',r2,_⟩:=H.list e2 hq;exact⟨Nat.ne_of_beq_eq_false hne,Zgs e hl hl' r1 r2 hu⟩
theorem Zo5(H:HI C ρ st s){a b:V}{x y:Value}{c:Bool}(e:eqV st a b=some c)(ra:VR ρ s.heap a x)(rb:VR ρ s.heap b y)(hu:A.units<cLine):EqAt A s x y c:=
 (ZlK e ra rb).elim (fun h=>exE4 h fun i p j q h=>by
  have r:=ZfB H h.2.2.2.2 h.2.2.1 h.2.2.2.1 hu;rw[h.1,h.2.1];exact .of_refs (ZbQ H.nod h.2.2.1 h.2.2.2.1 r.1) r.2.1) fun e=>ZdR e ra rb
theorem ZiD{prog:Program}{w:World}{Q E:VP}(H:HI C ρ st s){a b:V}{x y:Value}{c:Bool}(e:eqV st a b=some c)(ra:VR ρ s.heap a x)(rb:VR ρ s.heap b y)(hu:A.units<cLine):
  (Q (.bool c) s→wpAny (model prog w) A (compareOp .Eq x y) Q E s)∧(Q (.bool (!c)) s→wpAny (model prog w) A (compareOp .NotEq x y) Q E s):=by
 refine(ZlK e ra rb).elim (fun h=>exE4 h fun i p j q h=>?_) fun e=>(Zb3 e ra rb).elim (fun h=>exE4 h fun i t j u h=>?_) fun h=>exE4 h fun i t j u h=>?_
 ·have r:=(ZfB H h.2.2.2.2 h.2.2.1 h.2.2.2.1 hu).2;rw[h.1,h.2.1];exact⟨fun h=>r.1 prog w E Q h,fun h=>r.2 prog w E Q h⟩
 ·rw[h.1,h.2.1,h.2.2];exact⟨fun h=>PySem.P.eq_int h,fun h=>PySem.P.ne_int h⟩
 ·rw[h.1,h.2.1,h.2.2,ZbH];exact⟨fun h=>PySem.P.eq_str h,fun h=>PySem.P.ne_str h⟩
theorem Zgu{v v' w:V}{y:Value}{c c':Bool}(r:VR ρ h v y)(r':VR ρ h v' y)(e:Jv v w=some c)(e':Jv v' w=some c'):c=c':=
 (Jk e r).elim (fun g=>exE4 g fun i t j q g=>(Jk e' r').elim (fun k=>exE4 k fun i' t' j' q' k=>by
   rw[g.2.2,k.2.2,(Value.int.inj (g.1.symm.trans k.1)).1,(V.int.inj (g.2.1.symm.trans k.2.1)).1])
   fun k=>exE4 k fun i' t' j' q' k=>Value.noConfusion (g.1.symm.trans k.1))
  fun g=>exE4 g fun i t j q g=>(Jk e' r').elim (fun k=>exE4 k fun i' t' j' q' k=>Value.noConfusion (g.1.symm.trans k.1))
   fun k=>exE4 k fun i' t' j' q' k=>by rw[g.2.2,k.2.2,(Value.str.inj (g.1.symm.trans k.1)).1,(V.str.inj (g.2.1.symm.trans k.2.1)).1]
theorem Zb4{v:V}{y:Value}{j:Nat}{c:Bool}{P:Prop}(r:VR ρ h v y)(e:Jv v (.ref j)=some c):P:=
 (Jk e r).elim (fun g=>exE4 g fun μ μ μ μ g=>V.noConfusion g.2.1) fun g=>exE4 g fun μ μ μ μ g=>V.noConfusion g.2.1
theorem Zj7{ρ:Rho}(hn:(foot ρ).Nodup){i j:Nat}{a:Addr}(hi:Zi ρ i=some a)(hj:Zi ρ j=some a):i=j:=by
 by_cases h:i=j
 ·exact h
 ·exact absurd rfl (ZbQ hn hi hj h)
theorem Znf(hn:(foot ρ).Nodup){v v' w:V}{y:Value}{c c':Bool}(r:VR ρ h v y)(r':VR ρ h v' y)(e:eqV st v w=some c)(e':eqV st v' w=some c'):c=c':=by
 refine(ZfA e).elim (fun g=>exE2 g fun i j g=>(ZfA e').elim (fun k=>exE2 k fun i' j' k=>?_) fun k=>Zb4 r' (g.2.1▸k)) fun g=>(ZfA e').elim (fun k=>exE2 k fun i' j' k=>Zb4 r (k.2.1▸g)) fun k=>Zgu r r' g k;have q:=V.ref.inj (g.2.1.symm.trans k.2.1);refine(Z9 (g.1▸r)).elim fun p hp=>(Z9 (k.1▸r')).elim fun p' hp'=>?_;have ep:=Value.ref.inj (hp.1.symm.trans hp'.1);have ei:=Zj7 hn hp.2 (ep▸hp'.2);rw[ei,q]at g;exact Option.some.inj (g.2.2.symm.trans k.2.2)
theorem ZdS:∀{x:V} {l:List V} {bs:List Bool},eqAll st x l=some bs→bs.length=l.length
 |_,[],_,e=>by cases e;rfl
 |x,y::r,bs,e=>by
  obtain⟨_,_,e⟩:=Option.bind_eq_some_iff.mp e;obtain⟨_,e2,e⟩:=Option.bind_eq_some_iff.mp e;cases e;exact congrArg Nat.succ (ZdS e2)
theorem ZdT:∀{x:V} {l:List V} {bs:List Bool},eqAll st x l=some bs→∀{j:Nat} {v:V},l[j]? =some v→∃c,bs[j]? =some c∧eqV st v x=some c
 |_,[],_,_,j,_,h=>by cases h
 |x,y::r,bs,e,j,v,h=>by
  obtain⟨c,e1,e⟩:=Option.bind_eq_some_iff.mp e;obtain⟨_,e2,e⟩:=Option.bind_eq_some_iff.mp e;cases e;cases j with
  |zero=>cases h;exact⟨c,rfl,e1⟩
  |succ j=>exact ZdT e2 h
theorem Zi8:∀l:List Bool,anyB l=l.any id
 | []=>rfl
 |true::_=>rfl
 |false::r=>Zi8 r
theorem ZdJ:∀{l:List Bool} {n:Nat},idxB l=some n→l[n]? =some true∧∀m,m<n→l[m]? =some false
 | [],_,e=>by cases e
 |true::_,_,e=>by cases e;exact⟨rfl,fun m hm=>absurd hm (Nat.not_lt_zero _)⟩
 |false::r,n,e=>by
  obtain⟨k,e2,e⟩:=Option.bind_eq_some_iff.mp (show(idxB r).bind _=_ from e);cases e;obtain⟨h1,h2⟩:=ZdJ e2;refine⟨h1,fun m hm=>?_⟩;cases m with
  |zero=>rfl
  |succ m=>exact h2 m (Nat.lt_of_succ_lt_succ hm)
open Classical in
theorem ZfC(H:HI C ρ st s){a:V}{x:Value}(ra:VR ρ s.heap a x)(hu:A.units<cLine){vs:List V}{ys:List Value}{bs:List Bool}(e:eqAll st a vs=some bs)(r:VRs ρ s.heap vs ys):
  ∃f:Value→Bool,(∀y∈ys,EqAt A s y x (f y))∧ys.map f=bs:=by
 have key:∀(j:Nat) (y:Value),ys[j]? =some y→∃v c,vs[j]? =some v∧bs[j]? =some c∧VR ρ s.heap v y∧eqV st v a=some c:=fun j y hy=>by
  cases hv:vs[j]? with
  |none=>rw[r.get_none hv]at hy;cases hy
  |some v=>
   obtain⟨y',h1,h2⟩:=r.get hv;rw[h1]at hy;cases hy;obtain⟨c,h3,h4⟩:=ZdT e hv;exact⟨v,c,rfl,h3,h2,h4⟩
 have uni:∀(j k:Nat) (y:Value) (c d:Bool),ys[j]? =some y→ys[k]? =some y→bs[j]? =some c→bs[k]? =some d→c=d:=fun j k y c d h1 h2 h3 h4=>by
  obtain⟨v,c',_,e1,r1,q1⟩:=key j y h1;obtain⟨v',d',_,e2,r2,q2⟩:=key k y h2;rw[h3]at e1;rw[h4]at e2;cases e1;cases e2;exact Znf H.nod r1 r2 q1 q2
 refine⟨fun y=>decide (∃j:Nat,ys[j]? =some y∧bs[j]? =some true),fun y hy=>?_,?_⟩
 ·obtain⟨j,hj⟩:=List.getElem?_of_mem hy;obtain⟨v,c,_,h2,h3,h4⟩:=key j y hj;have:decide (∃j:Nat,ys[j]? =some y∧bs[j]? =some true)=c:=by
   cases c with
   |true=>exact decide_eq_true ⟨j,hj,h2⟩
   |false=>exact decide_eq_false fun⟨k,h5,h6⟩=>by have:=uni j k y _ _ hj h5 h2 h6;cases this
  show EqAt A s y x (decide (∃j:Nat,ys[j]? =some y∧bs[j]? =some true));rw[this];exact Zo5 H h4 h3 ra hu
 ·apply List.ext_getElem?;intro j;rw[List.getElem?_map];cases hy:ys[j]? with
  |none=>
   have:bs.length=ys.length:=(ZdS e).trans r.len;have h1:=List.getElem?_eq_none_iff.mp hy;rw[List.getElem?_eq_none_iff.mpr (by lia)]
   rfl
  |some y=>
   obtain⟨v,c,_,h2,h3,h4⟩:=key j y hy;rw[h2];show some (decide _)=_;congr 1;cases c with
   |true=>exact decide_eq_true ⟨j,hy,h2⟩
   |false=>exact decide_eq_false fun⟨k,h5,h6⟩=>by have:=uni j k y _ _ hy h5 h2 h6;cases this
end
noncomputable abbrev KB(C:Ctx)(ρ:Rho)(s:Shared)(m:List (Str×V))(k:Bool→St→Prop)(Q:Bool→Shared→Prop):Prop:=
 ∀b st' ρ' s',k b st'→HI C ρ' st' s'→Ext C nox ρ s ρ' s'→st'.m=m→Q b s'
section
variable{C:Ctx}{A:Around}{ρ:Rho}{st:St}{s:Shared}{k:Bool→St→Prop}{Q:VP}{E:VP}
theorem ZlC{a b:V}{x y:Value}{P:Bool→Prop}(hb:inA st a b P)(H:HI C ρ st s)(ra:VR ρ s.heap a x)(rb:VR ρ s.heap b y)(hA:Room 1 A):
  ∃p us,y= .ref p∧s.heap.IsList p us∧∃f:Value→Bool,(∀z∈us.toList,EqAt A.in1 s z x (f z))∧P (us.any f):=by
 obtain⟨_,p,rfl,hp,hb⟩:=Yo hb rb;obtain⟨xs,e1,hb⟩:=Zd hb;obtain⟨c,e2,hb⟩:=Zd hb;obtain⟨bs,e3,e2⟩:=Option.bind_eq_some_iff.mp e2;cases e2;obtain⟨n,us,hl,r1,_⟩:=H.list e1 hp;obtain⟨f,hf,hm⟩:=ZfC (A:=A.in1) H ra (by have:=hA.2.1;show A.units+1<cLine;lia) e3 r1
 refine⟨p,us.toArray,rfl,Zl hl,f,hf,?_⟩;have:us.toArray.any f=anyB bs:=by
  rw[Zi8,←hm,List.any_map];simp
 refine(this)▸?_;exact hb
theorem Zos{x:Value}(h:x≠ .none):(Q (.bool false) s→wpAny (model C.prog C.w) A (compareOp .Is x .none) Q E s)∧(Q (.bool true) s→wpAny (model C.prog C.w) A (compareOp .IsNot x .none) Q E s):=
 ⟨fun q=>PyProof.Rows.is_none_ne (by intro e;exact h e) q,fun q=>PyProof.Rows.isnot_none_ne (by intro e;exact h e) q⟩
theorem ZdI{a:V}{x:Value}(ra:VR ρ s.heap a x):(Q (.bool (Zfr a)) s→wpAny (model C.prog C.w) A (compareOp .Is x .none) Q E s)∧(Q (.bool (!Zfr a)) s→wpAny (model C.prog C.w) A (compareOp .IsNot x .none) Q E s):=by
 cases ra with
 |none=>exact⟨fun h=>PySem.wpAny_is_self rfl h,fun h=>PySem.wpAny_isNot_self rfl h⟩
 |_=>exact Zos (fun e=>Value.noConfusion e)
theorem Zpb(d c:Bool):(Value.bool d==Value.bool c)=(d==c):=by cases c<;>cases d<;>rfl
theorem Zga{v:V}{x:Value}{h:Heap}{n:Nat}{p:Prop}(e:Zcz v n p)(r:VR ρ h v x):x= .none∧p:=by
 cases v with
 |none=>exact⟨Zbv r,e⟩
 |_=>exact noB e
theorem ZmF{a b:V}{x y:Value}{P:Bool→Prop}(hb:ltA a b P)(ra:VR ρ s.heap a x)(rb:VR ρ s.heap b y)(K:∀c,P c→Q (.bool c) s):wpAny (model C.prog C.w) A (compareOp .Lt x y) Q E s:=by
 cases a with
 |flt i=>
  refine(Ys ra).elim fun t e=>?_;rw[e];cases b with
  |flt j=>refine(Ys rb).elim fun t e=>?_;rw[e];exact PySem.AutoFloatOps.lt_0 (K _ hb)
  |_=>exact noB hb
 |int i p=>refine(ZB ra).elim fun t e=>exE3 (Zh hb rb) fun j μ u g=>?_;rw[e.1,g.1];exact PySem.P.lt_int (K _ g.2.2)
 |_=>exact noB hb
theorem Zm7{a b:V}{x y:Value}{P:Bool→Prop}(hb:gtA a b P)(ra:VR ρ s.heap a x)(rb:VR ρ s.heap b y)(K:∀c,P c→Q (.bool c) s):wpAny (model C.prog C.w) A (compareOp .Gt x y) Q E s:=by
 cases a with
 |flt i=>
  refine(Ys ra).elim fun t e=>?_;rw[e];cases b with
  |flt j=>refine(Ys rb).elim fun t e=>?_;rw[e];exact PySem.AutoFloatOps.gt_0 (K _ hb)
  |int j p=>refine(ZB rb).elim fun t e=>?_;rw[e.1];exact PyProof.Rows.gt_fi (K _ hb)
  |_=>exact noB hb
 |int i p=>refine(ZB ra).elim fun t e=>exE3 (Zh hb rb) fun j μ u g=>?_;rw[e.1,g.1];exact PySem.P.gt_int (K _ g.2.2)
 |_=>exact noB hb
theorem Zgn{a b:V}{x y:Value}{P:Bool→Prop}(hb:ZlA a b P)(ra:VR ρ s.heap a x)(rb:VR ρ s.heap b y)(K:∀c,P c→Q (.bool c) s):wpAny (model C.prog C.w) A (compareOp .IsNot x y) Q E s:=by
 cases b with
 |none=>rw[Zbv rb];exact(ZdI ra).2 (K _ hb)
 |bool d=>rw[Zbw rb];cases a with
  |bool c=>rw[Zbw ra];exact PySem.wpAny_isNot_plain rfl (by rw[Zpb];exact K _ hb)
  |_=>exact noB hb
 |_=>exact noB hb
theorem ZeL{op:CmpOp}{a b:V}{x y:Value}(hb:cmpA op a b st k)(H:HI C ρ st s)(ra:VR ρ s.heap a x)(rb:VR ρ s.heap b y)(hA:Room 1 A)(K:∀c,k c st→Q (.bool c) s):
  wpAny (model C.prog C.w) A (compareOp op x y) Q E s:=by
 have hu:A.units<cLine:=Nat.lt_of_le_of_lt (Nat.le_add_right _ _) hA.2.1;cases op with
 |Eq=>
  obtain⟨c,e,hb⟩:=Zd hb;exact(ZiD H e ra rb hu).1 (K _ hb)
 |NotEq=>
  obtain⟨c,e,hb⟩:=Zd hb;exact(ZiD H e ra rb hu).2 (K _ hb)
 |In=>
  obtain⟨p,us,rfl,hl,f,hf,hb⟩:=ZlC hb H ra rb hA;exact in_listAt f hl (fun z hz=>hf z (Array.mem_toList_iff.mpr hz)) (K _ hb)
 |NotIn=>
  obtain⟨p,us,rfl,hl,f,hf,hb⟩:=ZlC hb H ra rb hA;exact notIn_listAt f hl (fun z hz=>hf z (Array.mem_toList_iff.mpr hz)) (K _ hb)
 |Is=>
  obtain⟨rfl,hb⟩:=Zga hb rb;exact(ZdI ra).1 (K _ hb)
 |IsNot=>exact Zgn (P:=fun c=>k c st) hb ra rb K
 |Lt=>exact ZmF (P:=fun c=>k c st) hb ra rb K
 |Gt=>exact Zm7 (P:=fun c=>k c st) hb ra rb K
 |GtE=>
  obtain⟨_,_,_,rfl,_,hb⟩:=Zh hb ra;obtain⟨_,_,_,rfl,_,hb⟩:=Zh hb rb;exact PySem.P.ge_int (K _ hb)
 |LtE=>
  obtain⟨_,_,_,rfl,_,hb⟩:=Zh hb ra;obtain⟨_,_,_,rfl,_,hb⟩:=Zh hb rb;exact PySem.P.le_int (K _ hb)
theorem Zc1{v:V}{x:Value}{Q:Bool→Shared→Prop}(hb:Zg0 v st k)(ra:VR ρ s.heap v x)(K:∀c,k c st→Q c s):wpAny (model C.prog C.w) A (truthy x) Q E s:=by
 cases v with
 |none=>rw[Zbv ra];exact PyProof.Rows.truthy_none (K _ hb)
 |bool b=>rw[Zbw ra];exact PySem.wpAny_truthy_bool (K _ hb)
 |_=>exact noB hb
end
end Mine
end
noncomputable section
open PySem PyProof.Rows
namespace Mine
set_option backward.match.sparseCases false
theorem ZhN{sc:Sc}(h:okSc sc=true):lookS "__debug__" sc=none∧lookS "__classdict__" sc=none:=by
 unfold okSc isNo at h;rw[Bool.and_eq_true]at h;constructor
 ·cases e:lookS "__debug__" sc with
  |none=>rfl
  |some x=>rw[e]at h;cases h.1
 ·cases e:lookS "__classdict__" sc with
  |none=>rfl
  |some x=>rw[e]at h;cases h.2
section
variable{C:Ctx}{A:Around}{env:Env}{sc:Sc}{ρ:Rho}{st:St}{s:Shared}{k:KE}{Q E:VP}
theorem Zih{p:NameKind→Bool}{o:Option NameKind}(h:Zfm p o=true):∃k,o=some k∧p k=true:=by
 cases o with
 |none=>exact ftB h
 |some k=>exact⟨k,rfl,h⟩
theorem ZjY{x:Str}(hs:okSc sc=true)(h:(lookS x sc).isSome=true):(x==("__classdict__":Str))=false:=by
 cases hx:(x==("__classdict__":Str))with
 |false=>rfl
 |true=>rw[eq_of_beq hx,(ZhN hs).2]at h;exact ftB h
theorem Zh4{x:Str}{m:List (Str×V)}{v:V}(F:FI C env sc ρ m s)(hs:okSc sc=true)(hx:(lookS x sc).isSome=true)(hv:lookS x m=some v)(hQ:∀y,VR ρ s.heap v y→Q y s):wpAny (model C.prog C.w) A (loadName env x) Q E s:=by
 refine(F.vars x v hv).elim fun val h=>?_;have q:=hQ _ h.2;rcases h.1 with⟨hl,mm,h1⟩|⟨hl,c,h1⟩
 ·exact PySem.wpAny_loadName_local F.ok.kind hl h1.1 h1.2 q
 ·rcases hl with hl|hl
  ·exact PySem.wpAny_loadName_cell F.ok.kind hl h1.1 h1.2 q
  ·exact PySem.wpAny_loadName_free F.ok.kind hl h1.1 h1.2 q (ZjY hs hx)
theorem ZdC{p:NameKind→Bool}{o:Option NameKind}(h:Zfm p o=true):o.isSome=true:=by
 cases o with
 |none=>exact ftB h
 |some k=>rfl
theorem Zan{x:Str}(hb:nameA sc x st k)(H:HI C ρ st s)(F:FI C env sc ρ st.m s)(hs:okSc sc=true)(K:KX C ρ s st.m k Q):wpAny (model C.prog C.w) A (loadName env x) Q E s:=
 (Zd (gd_of hb).2).elim fun μ h=>Zh4 F hs (ZdC (gd_of hb).1) h.1 fun μ r=>K.same H h.2 r
theorem ZaD{x:Str}(hs:okSc sc=true)(hx:(lookS x sc).isSome=true):(x==("__debug__":Str))=false:=by
 cases h:(x==("__debug__":Str))with
 |false=>rfl
 |true=>
  have e:x=("__debug__":Str):=eq_of_beq h;rw[e,(ZhN hs).1]at hx;cases hx
theorem Zeu{x:Str}{m:List (Str×V)}{v:V}{p:Pos}(F:FI C env sc ρ m s)(hs:okSc sc=true)(hx:(lookS x sc).isSome=true)(hv:lookS x m=some v)(hQ:∀y,VR ρ s.heap v y→Q y s):wpAny (model C.prog C.w) A (eval (.Name x p) env) Q E s:=
 PySem.wpAny_Name (Zh4 F hs hx hv hQ) (ZaD hs hx)
theorem ZjZ{x:Str}{p:Pos}(hb:nameA sc x st k)(H:HI C ρ st s)(F:FI C env sc ρ st.m s)(hs:okSc sc=true)(K:KX C ρ s st.m k Q):wpAny (model C.prog C.w) A (eval (.Name x p) env) Q E s:=
 PySem.wpAny_Name (Zan hb H F hs K) (ZaD hs (ZdC (gd_of hb).1))
theorem ZiM{c:Const}{kk:Nat}{p:Pos}(hb:ZlO c st k)(H:HI C ρ st s)(K:KX C ρ s st.m k Q):wpAny (model C.prog C.w) A (eval (.Constant c kk p) env) Q E s:=by
 show wpAny _ A (constValue env c) Q E s;cases c with
 |none=>exact Wp (K.same H hb .none)
 |bool b=>exact Wp (K.same H hb (.bool _))
 |int i=>exact PySem.wpAny_mkInt (K.val H hb (.lit _ _) _)
 |float x=>exact PySem.wpAny_mkFloat (K.val H hb (.flt _ _) _)
 |str x=>exact PySem.wpAny_mkText (K.val H hb (.txt _ _) _)
 |_=>exact noB hb
theorem Z5{x:Str}{v:V}{val:Value}{k:St→Prop}{Q:Unit→Shared→Prop}(hb:bindA sc x v st k)(H:HI C ρ st s)(F:FI C env sc ρ st.m s)(r:VR ρ s.heap v val)
  (K:∀st' s',k st'→HI C ρ st' s'→FI C env sc ρ st'.m s'→Ext C (own env sc) ρ s ρ s'→Q () s'):wpAny (model C.prog C.w) A (storeName env x val) Q E s:=by
 obtain⟨hk,hb⟩:=gd_of hb;obtain⟨kd,hl,hk⟩:=Zih hk;have hp:(env.scope.kind== .class || (env.scope.kind== .module&&env.locals !=env.globals))=false:=by rw[F.ok.kind];rfl
 cases kd with
 |«local»=>
  obtain⟨mm,hns⟩:=F.ns;obtain⟨oL,esL,_,hoL,hdL,_⟩:=id hns;refine PySem.wpAny_storeName_local (F.ok.loc x hl) hns (fun h' hns' hs=>?_) hp;have P:Plain (· =env.locals) s {s with heap:=h',toks:=s.toks+1}:=Plain.but hs _;have ht:Ze s.heap h':=fun a xs e=>P.keep a _ e fun q=>by
   subst q;rw[hoL]at e;cases e;cases hdL
  refine K _ _ hb ((H.plain P (fun a q=>q▸⟨F.lo,F.out⟩) ht).m _) ?_ (Ext.plain P (fun a q=> .inr (.inl q)) ht);refine⟨F.ok,F.lo,⟨_,hns'⟩,F.out,?_,F.apart,F.has,?_⟩
  ·intro y c hc;obtain⟨h1,h2,h3,w,h4⟩:=F.cell y c hc;exact⟨h1,h2,h3,w,Yr h4 fun o e=>P.keep _ _ e h3⟩
  ·intro y w hw;show∃val,VarAt env h' y val∧VR ρ h' w val;rw[ZX]at hw;split at hw
   ·rename_i e;subst e;cases hw;exact⟨val, .inl ⟨F.ok.loc y hl,_,hns',by simp⟩,r.mono (.refl _) ht⟩
   ·rename_i ne;obtain⟨val',hva,r'⟩:=F.vars y w hw;refine⟨val',?_,r'.mono (.refl _) ht⟩;rcases hva with⟨h1,m2,h2,h3⟩|⟨h1,c,h2,h3⟩
    ·refine .inl ⟨h1,_,hns',?_⟩;have:m2 y=mm y:=by
      obtain⟨o1,es1,ep1,ho1,hd1,_,hf1⟩:=h2;obtain⟨o2,es2,ep2,ho2,hd2,_,hf2⟩:=hns;rw[ho1]at ho2;cases ho2;rw[hd1]at hd2;cases hd2;rw[←hf1,←hf2]
     simp only[if_neg ne];refine(this)▸?_;exact h3
    ·exact .inr ⟨h1,c,h2,Yr h3 fun o e=>P.keep _ _ e (F.cell y c h2).2.2.1⟩
 |cell=>
  obtain⟨c,hc⟩:=Option.isSome_iff_exists.mp (F.has x (.inl hl));obtain⟨h1,h2,h3,w,h4⟩:=F.cell x c hc;obtain⟨oc,hoc,hdc⟩:=id h4;refine PySem.wpAny_storeName_cell F.ok.kind (F.ok.cel x hl) hc h4 fun h' hi hs=>?_;have P:Plain (· =c) s {s with heap:=h'}:=Plain.but hs _;have ht:Ze s.heap h':=fun a xs e=>P.keep a _ e fun q=>by
   subst q;rw[hoc]at e;cases e;cases hdc
  refine K _ _ hb ((H.plain P (fun a q=>q▸⟨h1,h2⟩) ht).m _) ?_ (Ext.plain P (fun a q=> .inr (.inr ⟨x,hl,q▸hc⟩)) ht);have kL:∀o,s.heap.get? env.locals=some o→h'.get? env.locals=some o:=fun o e=>P.keep _ _ e (Ne.symm h3);refine⟨F.ok,F.lo,?_,F.out,?_,F.apart,F.has,?_⟩
  ·obtain⟨mm,h⟩:=F.ns;exact⟨mm,ns_at h kL⟩
  ·intro y d hd;obtain⟨g1,g2,g3,w',g4⟩:=F.cell y d hd;by_cases e:d=c
   ·subst e;exact⟨g1,g2,g3,_,hi⟩
   ·exact⟨g1,g2,g3,w',Yr g4 fun o e'=>P.keep _ _ e' e⟩
  ·intro y w' hw;show∃val,VarAt env h' y val∧VR ρ h' w' val;rw[ZX]at hw;split at hw
   ·rename_i e;subst e;cases hw;exact⟨val, .inr ⟨.inl (F.ok.cel y hl),c,hc,hi⟩,r.mono (.refl _) ht⟩
   ·rename_i ne;obtain⟨val',hva,r'⟩:=F.vars y w' hw;refine⟨val',?_,r'.mono (.refl _) ht⟩;rcases hva with⟨g1,m2,g2,g3⟩|⟨g1,d,g2,g3⟩
    ·exact .inl ⟨g1,m2,ns_at g2 kL,g3⟩
    ·refine .inr ⟨g1,d,g2,Yr g3 fun o e=>P.keep _ _ e ?_⟩
     rintro rfl
     exact ne (F.apart y x d g2 hc)
 |_=>exact ftB hk
end
theorem Jq{k n j:Nat}(h:Y8 (Int.ofNat k) n=some j):k<n∧k=j:=by
 delta Y8 at h
 dsimp only at h
 cases hk:Nat.blt k n with
 |false=>rw[hk]at h;exact nnO h
 |true=>rw[hk]at h;exact⟨Nat.le_of_ble_eq_true hk,Option.some.inj h⟩
theorem Jp{k n j:Nat}(h:Y8 (Int.negSucc k) n=some j):k<n∧n-(k+1)=j:=by
 delta Y8 at h
 dsimp only at h
 cases hk:Nat.blt k n with
 |false=>rw[hk]at h;exact nnO h
 |true=>rw[hk]at h;exact⟨Nat.le_of_ble_eq_true hk,Option.some.inj h⟩
theorem Zc9{i:Int}{n j:Nat}(h:Y8 i n=some j):seqIndex? i n=some j∧j<n:=by
 delta seqIndex?
 cases i with
 |ofNat k=>
  obtain⟨hk,rfl⟩:=Jq h;rw[if_neg (show¬(Int.ofNat k<0)from Int.not_lt.mpr (Int.natCast_nonneg k))];exact⟨if_pos (by rw[Bool.and_eq_true,decide_eq_true_eq,decide_eq_true_eq];exact⟨Int.natCast_nonneg k,Int.ofNat_lt.mpr hk⟩),hk⟩
 |negSucc k=>
  obtain⟨hk,rfl⟩:=Jp h;rw[if_pos (Int.negSucc_lt_zero k)];have e:Int.negSucc k+(n:Int)=((n-(k+1):Nat):Int):=by omega
  dsimp only
  rw[e];exact⟨if_pos (by rw[Bool.and_eq_true,decide_eq_true_eq,decide_eq_true_eq];exact⟨Int.natCast_nonneg _,Int.ofNat_lt.mpr (Nat.sub_lt (Nat.zero_lt_of_lt hk) (Nat.succ_pos k))⟩),Nat.sub_lt (Nat.zero_lt_of_lt hk) (Nat.succ_pos k)⟩
theorem Zai{i:Int}{n j:Nat}(h:Y8 i n=some j)(hn:n≤4096): -4096≤i∧i<4096:=by
 cases i with
 |ofNat k=>
  have:=(Jq h).1;have e:Int.ofNat k=(k:Int):=rfl;omega
 |negSucc k=>
  have:=(Jp h).1;omega
theorem Zdw{i:Int}{n j:Nat}(h:Y8 i (lidN n)=some j):Y8 i n=some j∧n≤4096:=by
 delta lidN at h
 cases e:Nat.ble n 4096 with
 |true=>rw[e]at h;exact⟨h,Nat.le_of_ble_eq_true e⟩
 |false=>
  rw[e]at h;cases i with
  |ofNat k=>exact absurd (Jq h).1 (Nat.not_lt_zero _)
  |negSucc k=>exact absurd (Jp h).1 (Nat.not_lt_zero _)
section
variable{C:Ctx}{A:Around}{ρ:Rho}{st:St}{s:Shared}{k:KE}{Q E:VP}
theorem ZdH{h:Heap}{a:Addr}{xs:List Value}(e:h.get? a=some (YE xs)):IsTup h a xs.toArray:=⟨_,e,rfl,0,rfl⟩
theorem Zfo{h:Heap}{ρ:Rho}{xs:List V}{us:List Value}{j:Int}{v:V}(e:itemO xs j=some v)(r:VRs ρ h xs us):∃n x,Y8 j us.length=some n∧us.length≤4096∧us[n]? =some x∧VR ρ h v x:=by
 obtain⟨n,hn,hv⟩:=Option.bind_eq_some_iff.mp e;obtain⟨hn,hlen⟩:=Zdw hn;obtain⟨x,hx,rx⟩:=r.get hv;rw[r.len]at hn hlen;exact⟨n,x,hn,hlen,hx,rx⟩
theorem Zik{prog:Program}{w:World}{a:Addr}{us:List Value}{nn n:Nat}{j:Int}{t:Tok}{x:Value}(hl:s.heap.get? a=some (Zb us nn))(hn:Y8 j us.length=some n)(hlen:us.length≤4096)(hx:us[n]? =some x)(q:Q x s):
  wpAny (model prog w) A (getItem (.ref a) (.int j t)) Q E s:=by
 cases j with
 |ofNat k=>
  obtain⟨hk,rfl⟩:=Jq hn;exact PySem.wpAny_getItem_list (Zl hl) (Int.natCast_nonneg k) (by show((k:Nat):Int)<_;omega) (by simpa using hx) q
 |negSucc k=>
  obtain⟨hk,rfl⟩:=Jp hn;refine PySem.wpAny_getItem_list_neg (Zl hl) (Int.negSucc_lt_zero k) ?_ (by omega) ?_ q
  ·rw[List.size_toArray];omega
  ·rw[List.size_toArray,show Int.negSucc k+(us.length:Int)=((us.length-(k+1):Nat):Int) by omega];simpa using hx
theorem Zcl{slice:Expr}(o i:Value)(h:Jt slice=false):subscripted slice false o i=operate [o,i] (getItem o i):=by
 cases slice<;>first|rfl|exact tfB h
theorem Zfn{o i:V}{ov iv:Value}(hb:getA o i st k)(H:HI C ρ st s)(ro:VR ρ s.heap o ov)(ri:VR ρ s.heap i iv)(K:KX C ρ s st.m k Q):
  wpAny (model C.prog C.w) A (getItem ov iv) Q E s∧∀(value slice:Expr),Jt slice=false→wpAny (model C.prog C.w) A (subscriptTail value slice ov iv) Q E s:=by
 obtain⟨j,_,t,rfl,_,hb⟩:=Zh hb ri;cases ro with
 |ref r a ha=>
  obtain⟨xs,e1,hb⟩:=Zd (show Zk _ _ _ from hb);obtain⟨v,e2,hb⟩:=Zd hb;obtain⟨_,us,hl,r1,_⟩:=H.list e1 ha;obtain⟨n,x,hn,hlen,hx,rx⟩:=Zfo e2 r1;have hg:=Zik (prog:=C.prog) (w:=C.w) (A:=A) (E:=E) (t:=t) hl hn hlen hx (K.same H hb rx);exact⟨hg,fun value slice h=>tail_any (Zl hl).typeIs slot_list_getitem.lookup hg (Zcl _ _ h)⟩
 |tup xs a us hl r1=>
  obtain⟨v,e2,hb⟩:=Zd hb;obtain⟨n,x,hn,hlen,hx,rx⟩:=Zfo e2 r1;have hsm:=Zai hn hlen;have hg:=getItem_tuple (prog:=C.prog) (w:=C.w) (A:=A) (E:=E) (u:=t) (k:=j) (ZdH hl) (by omega) (by omega) (by rw[List.size_toArray];exact(Zc9 hn).1) (by simpa using hx) (K.same H hb rx)
  exact⟨hg,fun value slice h=>tail_any (ZdH hl).typeIs slot_tuple_getitem.lookup hg (Zcl _ _ h)⟩
 |str x _ u hlen=>
  obtain⟨c,e2,hb⟩:=Zd hb;obtain⟨n,hn,hc⟩:=Option.bind_eq_some_iff.mp e2;obtain⟨hn,hle⟩:=Zdw hn;have hsm:=Zai hn hle
  delta strAt at hc
  cases hd:x.cps.toList[n]? with
  |none=>rw[hd]at hc;exact nnO hc
  |some d=>
   rw[hd]at hc;cases hc;have q:=K.val H hb (.str ⟨#[d]⟩ 1 s.toks (Nat.le_refl _)) (s.toks+1)
   have hg:=PySem.P.getItem_str (prog:=C.prog) (w:=C.w) (A:=A) (E:=E) (x:=x) (t:=u) (u:=t) (i:=j) (c:=d) (by simp only[Bool.or_eq_false_iff,decide_eq_false_iff_not];omega)
    (by rw[(Zc9 hn).1];simpa using hd) q
   exact⟨hg,fun value slice h=>tail_any (typeIs_str s x u) PySem.F.slot_str_getitem.lookup hg (Zcl _ _ h)⟩
 |_=>exact noB hb
end
theorem Zbz(xs:List Value)(n:Nat):slicePick xs.toArray (some (n:Int)) none none=(xs.drop n).toArray:=by
 have e:sliceBounds (some (n:Int)) none none xs.toArray.size=(((min n xs.toArray.size:Nat):Int),((xs.toArray.size:Nat):Int),1):=by
  simp only[sliceBounds,Option.getD_none,show(1:Int) > 0 by decide,if_true,if_neg (show¬((n:Int)<0) by omega)]
  congr 1;omega
 rw[PySem.W.kmk_pick_nat _ e];show((xs.drop (min n xs.toArray.size)).take (xs.toArray.size-min n xs.toArray.size)).toArray=_;rw[List.size_toArray,PySem.W.kmk_drop_min,List.take_of_length_le (by rw[List.length_drop];omega)]
section
variable{C:Ctx}{A:Around}{ρ:Rho}{st:St}{s:Shared}{k:KE}{Q E:VP}
theorem ZkN{r n:Nat}{a:Addr}{t:Tok}{value:Expr}{lo:Option Expr}{p:Pos}{q:Addr}(hb:cutNv (.ref r) n st k)(H:HI C ρ st s)(ha:Zi ρ r=some a)(hsl:s.heap.get? q=some {cls:= .type "slice",data:= .fields #[.int n t, .none, .none]})(K:KX C ρ s st.m k Q):
  wpAny (model C.prog C.w) A (subscriptTail value (.Slice lo none none p) (.ref a) (.ref q)) Q E s:=by
 refine(Zd hb).elim fun xs h=>?_;have h1:=gd_of h.2;have hlen:=Nat.le_of_ble_eq_true (Bool.and_eq_true_iff.mp h1.1).2;obtain⟨n',us,hl,r1,_⟩:=H.list h.1 ha;refine tail_any (Zl hl).typeIs slot_list_getitem.lookup (ops:=[.ref q, .ref a]) ?_ rfl;refine wpAny_getItem_list_slice (lo:=some (n:Int)) (hi:=none) (st:=none) (Zl hl) ⟨_,hsl,rfl,rfl⟩ (.int _ _) .none .none (by decide) ?_ (by rw[List.size_toArray,←r1.len];exact Nat.le_trans hlen (by decide))
 rw[Zbz];exact K.list H h1.2 (r1.drop n) s.toks
theorem ZaY{x:Str}{n:Nat}{t:Tok}(hn:n≤x.length):slicePicked x (some ((n:Int),t)) none none=(List.range (x.length-n)).map (fun k=>n+k):=by
 rw[←PySem.StrLaws.strSliceIndices_plain (a:=n) (b:=x.length) (len:=x.length) hn (Nat.le_refl _)];simp only[slicePicked,PySem.Builtin.Str.strSliceIndices,Option.map_some,Option.map_none,Option.getD_none];simp only[show((1:Int) > 0)=True from by decide,if_true,show¬((x.length:Int)<0)from by lia,if_false]
 congr 1
 lia
theorem Zf7{x:Str}{n:Nat}{t:Tok}(hn:n≤x.length):((slicePicked x (some ((n:Int),t)) none none).filterMap (x.cps[·]?)).toArray=(x.cps.toList.drop n).toArray:=by
 refine congrArg List.toArray ?_;have h1:=PySem.StrLaws.sliced_plain x (a:=n) (b:=x.length) hn (Nat.le_refl _);rw[PySem.StrLaws.strSliceIndices_plain hn (Nat.le_refl _)]at h1;rw[ZaY hn,h1];exact List.take_of_length_le (by simp[Str.length])
theorem ZkM{x:Str}{n:Nat}(hn:n≤x.length)(h:x.length-n=x.length):x=⟨(x.cps.toList.drop n).toArray⟩:=by
 have h0:n=0∨x.length=0:=by lia
 obtain⟨l⟩:=x;rcases h0 with e|e
 ·rw[e];rfl
 ·have e:l= #[]:=Array.size_eq_zero_iff.mp e
  rw[e,List.drop_nil]
theorem Znk{x:Str}{b n:Nat}{u t:Tok}{value:Expr}{lo:Option Expr}{p:Pos}{q:Addr}(hb:cutNv (.str x b) n st k)(H:HI C ρ st s)(hx:x.length≤b)(hsl:s.heap.get? q=some {cls:= .type "slice",data:= .fields #[.int n t, .none, .none]})(K:KX C ρ s st.m k Q):
  wpAny (model C.prog C.w) A (subscriptTail value (.Slice lo none none p) (.str x u) (.ref q)) Q E s:=by
 have h1:=gd_of hb;have hc:=Bool.and_eq_true_iff.mp h1.1;have hn:=Nat.le_of_ble_eq_true hc.1;refine tail_any (typeIs_str s x u) PySem.F.slot_str_getitem.lookup (ops:=[.ref q, .str x u]) ?_ rfl;refine wpAny_getItem_str_slice (l:=some ((n:Int),t)) (u:=none) (st:=none) ⟨_,hsl,rfl,rfl⟩ rfl ?_;have hle:(⟨(x.cps.toList.drop n).toArray⟩:Str).length≤b:=by
  show((x.cps.toList.drop n).toArray).size≤b;rw[List.size_toArray,List.length_drop];exact Nat.le_trans (Nat.sub_le _ _) hx
 unfold sliceMade;rw[Zf7 hn];split
 ·rename_i hc;have h2:=(Bool.and_eq_true_iff.mp hc).2;rw[ZaY hn,List.length_map,List.length_range,beq_iff_eq]at h2;refine K.same H h1.2 ?_;rw[←ZkM hn h2];exact .str _ _ _ hx
 ·exact⟨Nat.le_trans hle (Nat.le_trans (Nat.le_of_ble_eq_true hc.2) (by decide)),K.val H h1.2 (.str _ _ s.toks hle) (s.toks+1)⟩
set_option tactic.hygienic true in
theorem Znl{o i:V}{ov iv:Value}{value:Expr}{lo:Option Expr}{p:Pos}(hb:cutA o i st k)(H:HI C ρ st s)(ro:VR ρ s.heap o ov)(ri:VR ρ s.heap i iv)(K:KX C ρ s st.m k Q):
  wpAny (model C.prog C.w) A (subscriptTail value (.Slice lo none none p) ov (.ref s.heap.objs.size)) Q E {s with heap:=s.heap.push {cls:= .type "slice",data:= .fields #[iv, .none, .none]}}:=by
 have P:Plain nox s {s with heap:=s.heap.push {cls:= .type "slice",data:= .fields #[iv, .none, .none]}}:=Plain.push' _ s _
 have H1:=H.plain0 P;have K1:KX C ρ _ st.m k Q:=K.after (Ext.plain0 P);have ro1:=ro.mono (.refl _) P.tup0;have hsl:(s.heap.push {cls:= .type "slice",data:= .fields #[iv, .none, .none]}).get? s.heap.objs.size=some {cls:= .type "slice",data:= .fields #[iv, .none, .none]}:=Heap.get?_push_size _ rfl
 refine exE2 (Yf hb) fun j b hb=>(Zd hb.2).elim fun n h=>?_;rw[hb.1,ZhV h.1]at ri;refine(ZB ri).elim fun t e=>?_;rw[e.1]at hsl H1 K1 ro1 ⊢;have hb:=h.2;cases o with
 |ref r=>exact(Z9 ro1).elim fun a e=>e.1▸ZkN hb H1 e.2 hsl K1
 |str x b=>exact(Z4 ro1).elim fun u e=>e.1▸Znk hb H1 e.2 hsl K1
 |_=>exact noB hb
end
inductive FlR(ρ:Rho)(h:Heap):Fl→Flow→Prop
 |nxt:FlR ρ h .nxt .next
 |brk:FlR ρ h .brk .brk
 |cnt:FlR ρ h .cnt .cont
 |ret (v:V) (x:Value):VR ρ h v x→FlR ρ h (.ret v) (.ret x)
noncomputable abbrev KU(C:Ctx)(env:Env)(sc:Sc)(ρ:Rho)(s:Shared)(k:St→Prop)(Q:Unit→Shared→Prop):Prop:=
 ∀st' ρ' s',k st'→HI C ρ' st' s'→FI C env sc ρ' st'.m s'→Ext C (own env sc) ρ s ρ' s'→Q () s'
noncomputable abbrev KF(C:Ctx)(env:Env)(sc:Sc)(ρ:Rho)(s:Shared)(k:KS)(Q:Flow→Shared→Prop):Prop:=
 ∀f fl st' ρ' s',k f st'→HI C ρ' st' s'→FI C env sc ρ' st'.m s'→Ext C (own env sc) ρ s ρ' s'→FlR ρ' s'.heap f fl→Q fl s'
noncomputable def Jd:List Expr→Option (List Str)
 | []=>some []
 |e::r=>(Zam e).bind fun x=>(Jd r).map (x:: ·)
theorem YL{e:Expr}{x:Str}(h:Zam e=some x):∃p,e= .Name x p:=by
 cases e with
 |Name y p=>exact Option.some.inj h▸⟨p,rfl⟩
 |_=>exact nnO h
theorem Zcm{b:Bool}(h:(!b)=true):b=false:=by
 cases b with
 |false=>rfl
 |true=>exact ftB h
theorem J4{e:Expr}{es:List Expr}{env:Env}(h:Zfq e=false):starEach (e::es) env=(false,eval e env)::starEach es env:=by
 cases e with
 |Starred=>exact ftB h.symm
 |_=>rfl
theorem Jl{e:Expr}{es:List Expr}{env:Env}(h:Zfq e=false):assignEach (e::es) env=(false,assign e env)::assignEach es env:=by
 cases e with
 |Starred=>exact ftB h.symm
 |_=>rfl
theorem Zk2{vs:List V}{n:Nat}{k:V→List V→Prop}(h:argHd vs n k):∃v r,vs=v::r∧k v r:=by
 cases vs with
 |nil=>exact noB h
 |cons v r=>exact⟨v,r,rfl,h⟩
noncomputable def ZaP:List Str→List V→List (Str×V)→List (Str×V)
 |x::xs,v::vs,m=>ZaP xs vs (updS x v m)
 |_,_,m=>m
noncomputable def isLCN(sc:Sc)(x:Str):Prop:=lookS x sc=some .local∨lookS x sc=some .cell
theorem Zgz{sc:Sc}{x:Str}{v:V}{st:St}{k:St→Prop}(h:bindA sc x v st k):isLCN sc x∧k {st with m:=updS x v st.m}:=by
 obtain⟨hk,h⟩:=gd_of h;obtain⟨kd,e,hk⟩:=Zih hk;refine⟨?_,h⟩;cases kd with
 |«local»=>exact .inl e
 |cell=>exact .inr e
 |_=>exact ftB hk
theorem ZfN{sc:Sc}{x:Str}{v:V}{st:St}{k:St→Prop}(h:isLCN sc x)(hk:k {st with m:=updS x v st.m}):bindA sc x v st k:=by
 delta bindA
 rcases h with h|h<;>rw[h]<;>exact hk
theorem Zbp{sc:Sc}{es:List Expr}:∀{vs:List V} {st:St} {k:St→Prop},Zi2 sc es vs st k→
  ∃ns,Jd es=some ns∧ns.length=vs.length∧(∀x∈ns,isLCN sc x)∧k {st with m:=ZaP ns vs st.m}:=by
 induction es with
 |nil=>
  intro vs st k h;have h:=YV h;rw[h.1];exact⟨[],rfl,rfl,fun μ h=>(List.not_mem_nil h).elim,h.2⟩
 |cons e es ih=>
  intro vs st k h;refine(Zd h).elim fun x h=>exE2 (Zk2 h.2) fun v vs e=>?_;have b:=Zgz e.2;refine(ih b.2).elim fun ns i=>?_;rw[e.1];exact⟨x::ns,Option.bind_eq_some_iff.mpr ⟨x,h.1,Option.map_eq_some_iff.mpr ⟨ns,i.1,rfl⟩⟩,congrArg Nat.succ i.2.1,fun y hy=>(List.mem_cons.mp hy).elim (fun q=>q▸b.1) (i.2.2.1 y),i.2.2.2⟩
theorem FI.m'{C:Ctx}{env:Env}{sc:Sc}{ρ:Rho}{m m':List (Str×V)}{s:Shared}(F:FI C env sc ρ m s)(h:∀x v,lookS x m'=some v→lookS x m=some v):FI C env sc ρ m' s:=
 {F with vars:=fun x v e=>F.vars x v (h x v e)}
noncomputable def ZnE(M:Model)(env:Env)(x:Str)(t:Value→Sem Unit):Prop:=∀(A:Around) (Q:Unit→Shared→Prop) (E:VP) (s:Shared) (v:Value),wpAny M A (storeName env x v) Q E s→wpAny M A (t v) Q E s
inductive StoresOf(M:Model)(env:Env):List Str→List (Value→Sem Unit)→Prop
 |nil:StoresOf M env [] []
 |cons (x:Str) (t:Value→Sem Unit) (xs:List Str) (ts:List (Value→Sem Unit)):ZnE M env x t→StoresOf M env xs ts→StoresOf M env (x::xs) (t::ts)
section
variable{C:Ctx}{A:Around}{env:Env}{sc:Sc}{ρ:Rho}{st:St}{s:Shared}{E:VP}
theorem Zdk{ns:List Str}{ts:List (Value→Sem Unit)}(w:StoresOf (model C.prog C.w) env ns ts):∀{vs:List V} {xs:List Value} {st:St} {s:Shared} {Q:Unit→Shared→Prop},VRs ρ s.heap vs xs→ns.length=vs.length→(∀x∈ns,isLCN sc x)→
  HI C ρ st s→FI C env sc ρ st.m s→(∀s',HI C ρ {st with m:=ZaP ns vs st.m} s'→FI C env sc ρ (ZaP ns vs st.m) s'→Ext C (own env sc) ρ s ρ s'→Q () s')→wpAny (model C.prog C.w) A (assignInOrder ts xs) Q E s:=by
 induction w with
 |nil=>
  intro vs xs st s Q r hl μ H F K;cases vs with
  |nil=>rw[ZM r];exact wpAny_assignInOrder_none (K s H F (.refl _ _ _ _))
  |cons=>exact absurd hl.symm (Nat.succ_ne_zero _)
 |cons x t ns ts ht _ ih=>
  intro vs xs st s Q r hl hn H F K;cases vs with
  |nil=>exact absurd hl (Nat.succ_ne_zero _)
  |cons v vs=>
   refine exE2 (Zq r) fun y ys e=>?_;rw[e.1];refine wpAny_assignInOrder_more (ht _ _ _ _ _ ?_);refine Z5 (k:=fun st'=>st'={st with m:=updS x v st.m}) (ZfN (hn x (.head _)) rfl) H F e.2.1 fun st' s' es H' F' e1=>?_;rw[es]at H' F';exact ih (e.2.2.mono e1.main e1.tup) (Nat.succ.inj hl) (fun z hz=>hn z (.tail _ hz)) H' F' fun s'' H'' F'' e2=>K s'' H'' F'' (e1.trans e2)
theorem JL{es:List Expr}:∀{ns:List Str},Jd es=some ns→StoresOf (model C.prog C.w) env ns ((assignEach es env).map (·.2))∧(assignEach es env).findIdx? (·.1)=none∧(assignEach es env).length=es.length∧ns.length=es.length:=by
 induction es with
 |nil=>intro ns h;exact Option.some.inj h▸⟨.nil,rfl,rfl,rfl⟩
 |cons e r ih=>
  intro ns h;refine(Option.bind_eq_some_iff.mp h).elim fun x h=>(YL h.1).elim fun p e=>(Option.map_eq_some_iff.mp h.2).elim fun l h=>?_;have i:=ih h.1;rw[e,←h.2,Jl rfl];refine⟨.cons _ _ _ _ (fun A Q E s v h=>wpAny_assign_Name h) i.1,?_,congrArg Nat.succ i.2.2.1,congrArg Nat.succ i.2.2.2⟩;rw[List.findIdx?_cons,i.2.1];rfl
theorem ZdV{prog:Program}{w:World}{it l:Addr}{items:Array Value}(hne:l≠it):∀(n i:Nat) (s:Shared) (Q:List Value→Shared→Prop),s.heap.IsListIter it l i→s.heap.IsList l items→i+n≤items.size→
  (∀h',h'.IsListIter it l (i+n)→Heap.SameBut it s.heap h'→Q ((items.toList.drop i).take n) {s with heap:=h'})→wpAny (model prog w) A (draw (.ref it) n) Q E s
 |0,i,s,Q,hit,_,_,hQ=>by
  show wpAny _ _ (pure []) Q E s;exact Wp (by simpa using hQ s.heap hit (Heap.SameBut.refl ..))
 |n+1,i,s,Q,hit,ht,hle,hQ=>by
  have hlt:i<items.size:=by lia
  show wpAny _ _ (pyNext (.ref it) >>= _) Q E s;refine Wb (wpAny_pyNext_list_item hit ht (x:=items[i]) (by simp[hlt]) fun h₁ hit₁ hs₁=>?_)
  refine Wb (wpAny_holding (ZdV hne n (i+1) _ _ hit₁ (ht.extBut hs₁.extBut hne) (by lia) fun h₂ hit₂ hs₂=>Wp ?_))
  have hd:items.toList.drop i=items[i]::items.toList.drop (i+1):=by simp[List.drop_eq_getElem_cons,hlt]
  have:=hQ h₂ (by rw[show i+(n+1)=i+1+n by lia];exact hit₂) (hs₁.trans hs₂)
  rw[hd,List.take_succ_cons]at this;exact this
theorem Zaz{prog:Program}{w:World}{t:Addr}{items:Array Value}{Q:List Value→Shared→Prop}(hh:A.handled=none)(ht:s.heap.IsList t items)
  (hQ:∀h',Heap.ExtBut s.heap.objs.size s.heap h'→Q items.toList {s with heap:=h'}):wpAny (model prog w) A (unpackItems (.ref t) items.size none) Q E s:=by
 have hlt:t≠s.heap.objs.size:=by obtain⟨o,ho,_⟩:=ht;exact Nat.ne_of_lt (Heap.lt_size ho)
 unfold unpackItems;refine Wb ?_
 ·unfold notIterableAtAll;refine Wb (wpAny_specialOf ht.typeIs slot_list_iter.lookup ?_);refine Wp ?_
  dsimp only[Bool.false_eq_true,if_false]
  refine Wb (wpAny_holding (wpAny_pyIter_list ht ?_));refine Wb (wpAny_holding (ZdV hlt items.size 0 _ _ ⟨_,Heap.get?_push_size _ rfl,rfl,rfl⟩ (ht.push _) (by lia) fun h₁ hit₁ hs₁=>?_))
  have hall:List.take items.size (List.drop 0 items.toList)=items.toList:=by
   rw[List.drop_zero];exact List.take_of_length_le (by simp)
  rw[hall];rw[if_neg (by simp)]
  have ht₁:h₁.IsList t items:=(ht.push _).extBut hs₁.extBut hlt;refine Wb (wpAny_holding (wpAny_pyNext_list_end hh hit₁ ht₁ (by simp) fun h₂ he₂=>?_))
  dsimp only[Option.isSome_none,Bool.false_eq_true,if_false]
  refine Wp (hQ h₂ fun b o hb e=>he₂ b o hb (hs₁.extBut b o hb (Heap.get?_push_of_some _ e)))
theorem ZlF{S:Addr→Prop}{h':Heap}(he:Heap.ExtBut s.heap.objs.size s.heap h'):Plain S s {s with heap:=h'}:=
 ⟨fun a o e μ=>he a o (Nat.ne_of_lt (Heap.lt_size e)) e,rfl,rfl⟩
set_option tactic.hygienic true in
theorem Jb{v:V}{x:Value}{n:Nat}{vs:List V}{Q:List Value→Shared→Prop}(hb:ZgV v n st=some vs)(H:HI C ρ st s)(r:VR ρ s.heap v x)(hh:A.handled=none)
  (K:∀xs s',Plain nox s s'→VRs ρ s.heap vs xs→Q xs s'):wpAny (model C.prog C.w) A (unpackItems x n none) Q E s∧vs.length=n:=by
 refine(Option.bind_eq_some_iff.mp hb).elim fun ws h=>?_;have g:=Y9 h.2;have hn:=Nat.eq_of_beq_eq_true g.1;rw[←Option.some.inj g.2];refine⟨?_,hn⟩;have hsz:∀{xs:List Value},VRs ρ s.heap ws xs→xs.toArray.size=n:=fun r=>by rw[List.size_toArray,←r.len];exact hn
 have K:=fun xs s' P r=>K xs s' P (Option.some.inj g.2▸r);cases v with
 |tup ws'=>
  cases r with|tup _ a xs hl rs=>
  have rs:VRs ρ s.heap ws xs:=Option.some.inj h.1▸rs;rw[←hsz rs];exact wpAny_unpackItems_tuple hh ⟨_,hl,rfl,0,rfl⟩ fun h' he=>K xs _ (ZlF he) rs
 |ref i=>
  refine(Z9 r).elim fun a e=>exE2 (H.list h.1 e.2) fun n' xs hl=>?_;rw[e.1,←hsz hl.2.1];exact Zaz hh (Zl hl.1) fun h' he=>K xs _ (ZlF he) hl.2.1
 |_=>exact nnO h.1
theorem Zc7{prog:Program}{w:World}{l:Addr}{items:List Value}{n:Nat}{k:Int}{t:Tok}{v:Value}{Q:Unit→Shared→Prop}(ho:s.heap.get? l=some (Zb items n))
  (h0:0≤k)(hfit:k<2 ^ 63)(hn:k<items.length)(hQ:∀h' n',h'.get? l=some (Zb (items.set k.toNat v) n')→Heap.SameBut l s.heap h'→Q () {s with heap:=h'}):
  wpAny (model prog w) A (setItem (.ref l) (.int k t) v) Q E s:=by
 have hl:s.heap.IsList l items.toArray:=Zl ho;have hob:∀j:Nat,∃n',Obj.mapSeq (·.setIfInBounds j v) (Zb items n)=Zb (items.set j v) n':=fun j=>by
  simp[Obj.mapSeq,Zb]
 have hfr:∀j:Nat,(Obj.mapSeq (·.setIfInBounds j v) (Zb items n)).isFreed=false:=fun j=>by
  obtain⟨n',e⟩:=hob j;rw[e];rfl
 have hd:(Zb items n).data= .seq items.toArray n:=rfl;generalize Zb items n=o at*;unfold setItem
 try with_reducible refine wpAny_holding ?_
 first|refine Wb (Wp ?_)|skip
 refine Wb (wpAny_sequenceKey hl.typeIs (by decide) ?_)
 refine Wb (wpAny_callSpecial?_slot (name:=Str.ofString "__setitem__") hl.typeIs slot_list_setitem
  (wpAny_call_entry slot_list_setitem hl.typeIs entry_list_setitem ?_ (args_list_setitem _ _ _)))
 show wpAny _ _ (Builtin.List.listSubscript? (.int k t) >>= _) _ _ s;refine Wb (wpAny_listSubscript_int (fitsIndex_of h0 hfit) ?_)
 clear hfit
 obtain⟨j,rfl⟩:=Int.eq_ofNat_of_zero_le h0;have hj:j<items.toArray.size:=by rw[List.size_toArray];lia
 have hx':items.toArray[j]? =some items.toArray[j]:=Array.getElem?_eq_getElem hj;show wpAny _ _ ((seqItemAt l j >>= fun r=>pure (r.map (j, ·))) >>= _) _ _ s;refine Wb (Wb (wpAny_seqItemAt ho hd (Wp ?_)));rw[hx'];show wpAny _ _ (setSeqItemAt l j v >>= _) _ _ s;obtain⟨n2,hob⟩:=hob j;have hfin:(s.heap.update l (Obj.mapSeq (·.setIfInBounds j v))).get? l=some (Zb (items.set j v) n2):=by
  rw[←hob];exact Heap.get?_update_self _ ho (hfr j)
 refine Wb (wpAny_setSeqItemAt ho hd ?_)
 first
  |exact Wb (Wp (Wp ⟨.none,rfl,Wp (hQ _ _ hfin (Heap.SameBut.update ..))⟩))
  |exact Wp ⟨.none,rfl,Wp (hQ _ _ hfin (Heap.SameBut.update ..))⟩
set_option tactic.hygienic true in
theorem Zhm{o i v:V}{ov iv x:Value}{k:St→Prop}{Q:Unit→Shared→Prop}(hb:setA o i v st k)(H:HI C ρ st s)(ro:VR ρ s.heap o ov)(ri:VR ρ s.heap i iv)(r:VR ρ s.heap v x)
  (K:∀st' s',k st'→HI C ρ st' s'→(∀X,Ext C X ρ s ρ s')→st'.m=st.m→Q () s'):wpAny (model C.prog C.w) A (setItem ov iv x) Q E s:=by
 refine exE2 (Yo hb ro) fun i a e=>exE3 (Zh e.2.2 ri) fun j μ t e2=>(Zd e2.2.2).elim fun n h=>(Zd h.2).elim fun ws h2=>?_;have g:=gd_of h2.2;have hlid:=Bool.and_eq_true_iff.mp g.1;have h1:n<ws.length:=Nat.le_of_ble_eq_true hlid.1;have h2':n<4096:=Nat.le_of_ble_eq_true hlid.2;refine exE2 (H.list h2.1 e.2.1) fun n' xs hl=>?_;rw[e.1,e2.1,ZhV h.1];refine Zc7 hl.1 (Int.natCast_nonneg n) (Int.lt_of_lt_of_le (Int.ofNat_lt.mpr h2') (by decide)) (Int.ofNat_lt.mpr (hl.2.1.len▸h1)) fun h' n2 hl' hs=>?_
 have P:Plain (· =a) s {s with heap:=h'}:=Plain.but hs _;have ht:Ze s.heap h':=fun b ys e=>P.keep b _ e fun h=>by
  cases h;rw[hl.1]at e;exact absurd (congrArg Obj.cls (Option.some.inj e)) (by simp)
 have H':=(H.setList (Ye h2.1) hl.2.2 hl.1 P hl' ((hl.2.1.set n r).mono (.refl _) ht)).2;exact K _ _ g.2 H' (fun X=>Ext.setList hl.2.2 P ⟨_,hl'⟩ ht) rfl
end
structure Apart(C:Ctx)(env:Env)(ρ:Rho)(a:Addr):Prop where
 lo:C.base.objs.size≤a
 out:a∉foot ρ
 loc:a≠env.locals
 cel:∀x c,env.cells.lookup x=some c→c≠a
noncomputable def ItR(ρ:Rho)(h:Heap)(a:Addr):It→Prop
 | .list r i=>∃l,Zi ρ r=some l∧h.IsListIter a l i
 | .range c n d=>IsRangeIter h a c n d
 | .chars cs b=>∃x t i T,(T="str_ascii_iterator"∨T="str_iterator")∧h.IsStrIter a T x t i∧x.cps.toList.drop i=cs∧cs.length≤b
noncomputable abbrev XI(env:Env)(sc:Sc)(a:Addr):Addr→Prop:=fun b=>own env sc b∨b=a
structure Snd(C:Ctx)(rec:Rec)(n:Nat):Prop where
 fu:rec.fu≤n
 ex:∀{sc:Sc} {e:Expr} {st:St} {k:KE} {A:Around} {env:Env} {ρ:Rho} {s:Shared} {Q E:VP},
  rec.ex sc e st k→HI C ρ st s→FI C env sc ρ st.m s→okSc sc=true→Room n A→KX C ρ s st.m k Q→wpAny (model C.prog C.w) A (eval e env) Q E s
 ts:∀{sc:Sc} {e:Expr} {st:St} {k:Bool→St→Prop} {A:Around} {env:Env} {ρ:Rho} {s:Shared} {Q:Bool→Shared→Prop} {E:VP},
  rec.ts sc e st k→HI C ρ st s→FI C env sc ρ st.m s→okSc sc=true→Room n A→KB C ρ s st.m k Q→wpAny (model C.prog C.w) A (isTrue e env (eval e env)) Q E s
 ss:∀{sc:Sc} {b:List Stmt} {st:St} {k:KS} {A:Around} {env:Env} {ρ:Rho} {s:Shared} {Q:Flow→Shared→Prop} {E:VP},
  rec.ss sc b st k→HI C ρ st s→FI C env sc ρ st.m s→okSc sc=true→Room n A→KF C env sc ρ s k Q→wpAny (model C.prog C.w) A (execs b env) Q E s
 wl:∀{sc:Sc} {t:Expr} {b o:List Stmt} {st:St} {k:KS} {A:Around} {env:Env} {ρ:Rho} {s:Shared} {R:Result→Shared→Prop},
  rec.wl sc t b o st k→HI C ρ st s→FI C env sc ρ st.m s→okSc sc=true→Room n A→KF C env sc ρ s k (fun f s'=>R (.ok f) s')→codeAny (model C.prog C.w) A (.whileLoop t b o env) R s
 fl:∀{sc:Sc} {t:Expr} {b o:List Stmt} {it:It} {a:Addr} {st:St} {k:KS} {A:Around} {env:Env} {ρ:Rho} {s:Shared} {R:Result→Shared→Prop},
  rec.fl sc t b o it st k→HI C ρ st s→FI C env sc ρ st.m s→okSc sc=true→Room n A→Apart C env ρ a→ItR ρ s.heap a it→
  (∀f fl st' ρ' s',k f st'→HI C ρ' st' s'→FI C env sc ρ' st'.m s'→Ext C (XI env sc a) ρ s ρ' s'→FlR ρ' s'.heap f fl→R (.ok fl) s')→codeAny (model C.prog C.w) A (.forLoop t (.ref a) b o env) R s
 cl:∀{sc:Sc} {elt target iter:Expr} {ifs:List Expr} {scope:Scope} {pos:Pos} {it:It} {a accA:Addr} {acc:Nat} {st:St} {k:St→Prop} {A:Around} {env:Env} {ρ:Rho} {s:Shared} {R:Result→Shared→Prop},
  rec.cl sc elt target ifs it acc st k→HI C ρ st s→FI C env sc ρ st.m s→okSc sc=true→Room n A→Apart C env ρ a→ItR ρ s.heap a it→Zi ρ acc=some accA→
  (∀st' ρ' s',k st'→HI C ρ' st' s'→FI C env sc ρ' st'.m s'→Ext C (XI env sc a) ρ s ρ' s'→Zi ρ' acc=some accA→R (.ok .next) s')→
  codeAny (model C.prog C.w) A (.compLoop (.ListComp elt [⟨target,iter,ifs,0⟩] scope pos) 0 (.ref a) (.ref accA) env) R s
 us:∀{sc:Sc} {elt:Expr} {gens:List Comprehension} {scope:Scope} {pos:Pos} {st:St} {k:KE} {kk:St→Prop} {A:Around} {env:Env} {ρ:Rho} {s:Shared} {u:Value→Sem Unit} {Q:Shared→Prop} {E:VP},
  rec.ex sc (.ListComp elt gens scope pos) st k→HI C ρ st s→FI C env sc ρ st.m s→okSc sc=true→Room n A→
  (∀v st' ρ' s' x,k v st'→HI C ρ' st' s'→FI C env sc ρ' st'.m s'→Ext C nox ρ s ρ' s'→VR ρ' s'.heap v x→
   wpAny (model C.prog C.w) A (u x) (fun μ s''=>∃st'' ρ'',kk st''∧HI C ρ'' st'' s''∧FI C env sc ρ'' st''.m s''∧Ext C (own env sc) ρ' s' ρ'' s'') E s')→
  (∀st' ρ' s',kk st'→HI C ρ' st' s'→FI C env sc ρ' st'.m s'→Ext C (own env sc) ρ s ρ' s'→Q s')→
  wpAny (model C.prog C.w) A (evalThenUse (.ListComp elt gens scope pos) env u) (fun μ s'=>Q s') E s
theorem ZmJ{ρ:Rho}{h:Heap}{v v':V}{x:Value}(hl:v.like v')(r:VR ρ h v x):VR ρ h v' x:=by
 cases v with
 |int i b=>
  cases v' with
  |int j c=>exact(ZB r).elim fun t p=>p.1▸hl.1▸ .int _ _ _ hl.2
  |_=>exact noB hl
 |bool b=>
  cases v' with
  |bool c=>exact(show b=c from hl)▸r
  |_=>exact noB hl
 |str i b=>
  cases v' with
  |str j c=>exact(Z4 r).elim fun t p=>p.1▸hl.1▸ .str _ _ _ hl.2
  |_=>exact noB hl
 |_=>exact noB hl
section
variable{C:Ctx}{A:Around}{env:Env}{sc:Sc}{ρ:Rho}{st:St}{s:Shared}{k:KE}{Q E:VP}{rec:Rec}{n:Nat}{g:G}
theorem KX.cut{m:List (Str×V)}{p:Pos}(K:KX C ρ s m k Q):KX C ρ s m (cutK g p k) Q:=by
 intro v st' ρ' s' x hk H e r hm;cases q:g.cut p with
 |none=>simp only[cutK,q]at hk;exact K v st' ρ' s' x hk H e r hm
 |some w=>simp only[cutK,q]at hk;exact K _ st' ρ' s' x hk.2 H e (ZmJ hk.1 r) hm
theorem FI.after{ρ':Rho}{s':Shared}{m m':List (Str×V)}(F:FI C env sc ρ m s)(e:Ext C nox ρ s ρ' s')(hm:m'=m):FI C env sc ρ' m' s':=hm▸F.ext e
theorem VR.after{ρ':Rho}{s':Shared}{X:Addr→Prop}{v:V}{x:Value}(r:VR ρ s.heap v x)(e:Ext C X ρ s ρ' s'):VR ρ' s'.heap v x:=r.mono e.main e.tup
theorem VRs.after{ρ':Rho}{s':Shared}{X:Addr→Prop}{v:List V}{x:List Value}(r:VRs ρ s.heap v x)(e:Ext C X ρ s ρ' s'):VRs ρ' s'.heap v x:=r.mono e.main e.tup
theorem ZcJ(S:Snd C rec n){pos:Pos}{es:List Expr}:∀{st:St} {ρ:Rho} {s:Shared} {k:List V→St→Prop} {Q:List Value→Shared→Prop},evs rec sc es st k→HI C ρ st s→FI C env sc ρ st.m s→okSc sc=true→Room n A→
  (∀vs st' ρ' s' xs,k vs st'→HI C ρ' st' s'→Ext C nox ρ s ρ' s'→VRs ρ' s'.heap vs xs→st'.m=st.m→Q xs s')→
  wpAny (model C.prog C.w) A (spliced (backTo pos (starEach es env))) Q E s:=by
 induction es with
 |nil=>intro st ρ s k Q hb H F hs hA K;exact Calls.spliced_nil (K [] st ρ s [] hb H (.refl _ _ _ _) .nil rfl)
 |cons e es ih=>
  intro st ρ s k Q hb H F hs hA K;refine(JR hb).elim (fun h=>noB h.2) fun h=>?_;rw[J4 h.1];refine Calls.spliced_cons ?_;refine S.ex h.2 H F hs hA fun v st1 ρ1 s1 x h1 H1 e1 r1 m1=>?_;exact ih h1 H1 (F.after e1 m1) hs hA fun vs st2 ρ2 s2 xs h2 H2 e2 r2 m2=>K (v::vs) st2 ρ2 s2 (x::xs) h2 H2 (e1.trans e2) (.cons _ _ _ _ (r1.after e2) r2) (m2.trans m1)
theorem KX.tup{m:List (Str×V)}(K:KX C ρ s m k Q)(H:HI C ρ st s)(hm:st.m=m){vs:List V}{xs:List Value}(hk:k (.tup vs) st)(r:VRs ρ s.heap vs xs):
  Q (.ref s.heap.objs.size) {s with heap:=s.heap.push (YE xs)}:=by
 have P:Plain nox s {s with heap:=s.heap.push (YE xs)}:=Plain.push' _ s _;exact K _ st ρ _ _ hk (H.plain0 P) (.plain0 P) (.tup _ _ _ (Heap.get?_push_size _ rfl) (r.mono (.refl _) P.tup0)) hm
set_option backward.match.sparseCases true in
theorem JG{pos:Pos}{op:BoolOp}{x y:Sem Value}{r:List (Sem Value)}:boolOp pos op (x::y::r)=(do
  let v←x
  standAt pos
  let t←holding [v] (truthy v)
  match op,t with
  | .And,false| .Or,true=>pure v
  |_,_=>boolOp pos op (y::r)):=rfl
theorem Zd2(S:Snd C rec n){pos:Pos}{op:BoolOp}:∀{es:List Expr} {st:St} {ρ:Rho} {s:Shared} {Q:VP},boolE rec sc op es st k→HI C ρ st s→FI C env sc ρ st.m s→okSc sc=true→Room n A→KX C ρ s st.m k Q→
  wpAny (model C.prog C.w) A (boolOp pos op (evalEach es env)) Q E s
 | [],_,_,_,_,hb,_,_,_,_,_=>by delta boolE at hb;exact noB hb
 | [e],st,ρ,s,Q,hb,H,F,hs,hA,K=>S.ex hb H F hs hA K
 |e::f::es,st,ρ,s,Q,hb,H,F,hs,hA,K=>by
  show wpAny _ _ (boolOp pos op (eval e env::eval f env::evalEach es env)) _ _ _;rw[JG];refine Wb (S.ex hb H F hs hA fun v st1 ρ1 s1 x h1 H1 e1 r1 m1=>?_);refine Wb (wpAny_standAt (Wb (wpAny_holding (Zc1 h1 r1 fun c hc=>?_))));have rest:boolE rec sc op (f::es) st1 k→wpAny (model C.prog C.w) A (boolOp pos op (eval f env::evalEach es env)) Q E s1:=fun h=>
   Zd2 S (es:=f::es) h H1 (F.after e1 m1) hs hA (m1▸K.after e1)
  have stop:k v st1→wpAny (model C.prog C.w) A (pure x:Sem Value) Q E s1:=fun h=>Wp (K v st1 ρ1 s1 x h H1 e1 r1 m1);cases op<;>cases c
  ·exact stop hc
  ·exact rest hc
  ·exact rest hc
  ·exact stop hc
theorem KB.after{kb:Bool→St→Prop}{Q:Bool→Shared→Prop}{ρ':Rho}{s':Shared}{m:List (Str×V)}(K:KB C ρ s m kb Q)(x:Ext C nox ρ s ρ' s'):KB C ρ' s' m kb Q:=fun v st' ρ₂ s₂ hk H e hm=>K v st' ρ₂ s₂ hk H (x.trans e) hm
theorem KB.cut{m:List (Str×V)}{p:Pos}{kb:Bool→St→Prop}{Q:Bool→Shared→Prop}(K:KB C ρ s m kb Q):KB C ρ s m (cutB g p kb) Q:=by
 intro v st' ρ' s' hk H e hm;cases q:g.cut p with
 |none=>simp only[cutB,q]at hk;exact K v st' ρ' s' hk H e hm
 |some w=>
  cases w with
  |bool b=>simp only[cutB,q]at hk;obtain⟨rfl,hk⟩:=hk;exact K _ st' ρ' s' hk H e hm
  |_=>simp only[cutB,q]at hk;exact K v st' ρ' s' hk H e hm
theorem Zbo(S:Snd C rec n){op:BoolOp}{k:Bool→St→Prop}:∀{es:List Expr} {st:St} {ρ:Rho} {s:Shared} {Q:Bool→Shared→Prop},Zi1 rec sc op es st k→HI C ρ st s→FI C env sc ρ st.m s→okSc sc=true→Room n A→KB C ρ s st.m k Q→
  wpAny (model C.prog C.w) A (allTrue op es env) Q E s
 | [],st,ρ,s,Q,hb,H,F,hs,hA,K=>by
  rw[arm_allTrue_nil];cases op<;>exact Wp (K _ st ρ s hb H (.refl _ _ _ _) rfl)
 |e::es,st,ρ,s,Q,hb,H,F,hs,hA,K=>by
  rw[arm_allTrue_cons];refine Wb (S.ts hb H F hs hA fun b st1 ρ1 s1 h1 H1 e1 m1=>?_);cases op<;>cases b
  ·exact Wp (K _ st1 ρ1 s1 h1 H1 e1 m1)
  ·exact Zbo S h1 H1 (F.after e1 m1) hs hA (m1▸K.after e1)
  ·exact Zbo S h1 H1 (F.after e1 m1) hs hA (m1▸K.after e1)
  ·exact Wp (K _ st1 ρ1 s1 h1 H1 e1 m1)
end
section
variable{C:Ctx}{A:Around}{env:Env}{sc:Sc}{ρ ρ':Rho}{st:St}{s s':Shared}{m:List (Str×V)}{E:VP}{rec:Rec}{n:Nat}{a:Addr}{it:It}
theorem Zdj(Ap:Apart C env ρ a):¬own env sc a:=by
 rintro(h|⟨x,_,h⟩)
 ·exact Ap.loc h
 ·exact Ap.cel x a h rfl
theorem Apart.ext(Ap:Apart C env ρ a)(hl:Live s.heap a)(e:Ext C (own env sc) ρ s ρ' s'):Apart C env ρ' a where
 lo:=Ap.lo
 out:=fun h=>by
  rcases e.fresh a h with h|h|h
  ·exact Ap.out h
  ·obtain⟨o,ho⟩:=hl;rw[h]at ho;exact nnO ho
  ·exact Zdj Ap h
 loc:=Ap.loc
 cel:=Ap.cel
theorem Apart.keep(Ap:Apart C env ρ a)(e:Ext C (own env sc) ρ s ρ' s'){o:Obj}(ho:s.heap.get? a=some o):s'.heap.get? a=some o:=e.kept a o ho Ap.lo Ap.out (Zdj Ap)
theorem ItR.obj{h:Heap}(I:ItR ρ h a it):∃o,h.get? a=some o∧∀xs,o≠YE xs:=by
 cases it with
 |list r i=>obtain⟨l,_,o,ho,hc,_⟩:=I;exact⟨o,ho,fun xs e=>by rw[e]at hc;simp at hc⟩
 |range c n d=>exact⟨_,I,fun xs e=>by have:=congrArg Obj.cls e;simp at this⟩
 |chars cs b=>
  obtain⟨x,t,i,T,hT,⟨o,ho,hc,_⟩,_⟩:=I;exact⟨o,ho,fun xs e=>by rw[e]at hc;rcases hT with rfl|rfl<;>simp at hc⟩
theorem ItR.live{h:Heap}(I:ItR ρ h a it):Live h a:=let ⟨o,ho,_⟩:=I.obj;⟨o,ho⟩
theorem ItR.mono{h h':Heap}(I:ItR ρ h a it)(hm:ZF ρ ρ')(hk:∀o,h.get? a=some o→h'.get? a=some o):ItR ρ' h' a it:=by
 cases it with
 |list r i=>obtain⟨l,hl,o,ho,r⟩:=I;exact⟨l,hm _ _ hl,o,hk _ ho,r⟩
 |range c n d=>exact hk _ I
 |chars cs b=>obtain⟨x,t,i,T,hT,⟨o,ho,r⟩,q⟩:=I;exact⟨x,t,i,T,hT,⟨o,hk _ ho,r⟩,q⟩
theorem ItR.ext(I:ItR ρ s.heap a it)(Ap:Apart C env ρ a)(e:Ext C (own env sc) ρ s ρ' s'):ItR ρ' s'.heap a it:=I.mono e.main fun μ ho=>Ap.keep e ho
theorem Ze.at{P:Plain (· =a) s s'}(I:ItR ρ s.heap a it):Ze s.heap s'.heap:=fun b xs e=>P.keep b _ e fun q=>by
 subst q;obtain⟨o,ho,hn⟩:=I.obj;rw[e]at ho;exact hn xs (Option.some.inj ho).symm
theorem FI.at(F:FI C env sc ρ m s)(P:Plain (· =a) s s')(Ap:Apart C env ρ a)(ht:Ze s.heap s'.heap):FI C env sc ρ m s':=by
 have kL:∀o,s.heap.get? env.locals=some o→s'.heap.get? env.locals=some o:=fun o e=>P.keep _ _ e (Ne.symm Ap.loc);have kc:∀y c,env.cells.lookup y=some c→∀o,s.heap.get? c=some o→s'.heap.get? c=some o:=fun y c hc o e=>P.keep _ _ e (Ap.cel y c hc);refine⟨F.ok,F.lo,?_,F.out,?_,F.apart,F.has,?_⟩
 ·obtain⟨mm,h⟩:=F.ns;exact⟨mm,ns_at h kL⟩
 ·intro y c hc;obtain⟨h1,h2,h3,v,h4⟩:=F.cell y c hc;exact⟨h1,h2,h3,v,Yr h4 (kc y c hc)⟩
 ·intro y v hv;obtain⟨val,hva,r⟩:=F.vars y v hv;refine⟨val,?_,r.mono (.refl _) ht⟩;rcases hva with⟨hk,mm,hn,he⟩|⟨hk,c,hc,hi⟩
  ·exact .inl ⟨hk,mm,ns_at hn kL,he⟩
  ·exact .inr ⟨hk,c,hc,Yr hi (kc y c hc)⟩
set_option backward.match.sparseCases true in
theorem noTup{prog:Program}{w:World}{o:Obj}{vs:Array Value}{T:String}(hT:["enumerate","zip","dict_itemiterator","dict_reverseitemiterator","odict_iterator","itertools.zip_longest","itertools.pairwise"].contains T=false)(hc:o.cls= .type T)(hd:o.data= .fields vs){s₁:Shared}(ho:s₁.heap.get? a=some o)(y:Value)(target:Expr)(E:VP)(A':Around)(Q':Unit→Shared→Prop)(h:Q' () s₁):
  wpAny (model prog w) A' (letOwnedTupleGo target (.ref a) y) Q' E s₁:=by
 have core:wpAny (model prog w) A' (do
   let (.ref r, .ref b):=(Value.ref a,y)|return
   let o←load r
   match o.cls,o.data with
   | .type n, .fields vs=>
    if ["enumerate","zip","dict_itemiterator","dict_reverseitemiterator","odict_iterator","itertools.zip_longest","itertools.pairwise"].contains n&&vs[0]? ==some (rawInt b)then
     rule "for.unpacks-the-owned-tuple"
     updateField r 0 .none
   |_,_=>pure ()) Q' E s₁:=by
  cases y with
  |ref b=>
   refine Wb (wpAny_load ho ?_);rw[hc,hd];show wpAny _ _ (if(["enumerate","zip","dict_itemiterator","dict_reverseitemiterator","odict_iterator","itertools.zip_longest","itertools.pairwise"].contains T&&vs[0]? ==some (rawInt b))=true then _ else _) _ _ _
   rw[hT,Bool.false_and];exact Wp h
  |_=>exact Wp h
 cases target<;>first|exact core|exact Wp h
theorem Jr{r:Option (V×It)}{Q:Option Value→Shared→Prop}(hb:nextA it st=some r)(H:HI C ρ st s)(I:ItR ρ s.heap a it)(Ap:Apart C env ρ a)(hh:A.handled=none)
  (K:∀x s',Plain (· =a) s s'→(match r with|none=>x=none|some (v,it')=>∃y,x=some y∧VR ρ s.heap v y∧ItR ρ s'.heap a it'∧(∀(target:Expr) (E:VP) (A':Around) (Q':Unit→Shared→Prop),Q' () s'→wpAny (model C.prog C.w) A' (letOwnedTupleGo target (.ref a) y) Q' E s'))→Q x s'):
  wpAny (model C.prog C.w) A (pyNext (.ref a)) Q E s:=by
 cases it with
 |list r i=>
  simp only[nextA]at hb;obtain⟨l,hl,hit⟩:=I;split at hb
  ·rename_i xs e1;obtain⟨n',us,hll,r1,_⟩:=H.list e1 hl;split at hb
   ·rename_i v hv;have e:=Option.some.inj hb;subst e;obtain⟨y,hy,ry⟩:=r1.get hv;refine wpAny_pyNext_list_item hit (Zl hll) (x:=y) (by simpa using hy) fun h' hit' hs'=>?_
    obtain⟨o,ho,hc,hd⟩:=id hit';exact K _ _ (Plain.but hs' _) ⟨y,rfl,ry,⟨l,hl,hit'⟩,noTup (T:="list_iterator") (by decide) hc hd ho y⟩
   ·rename_i hv;have e:=Option.some.inj hb;subst e;refine wpAny_pyNext_list_end hh hit (Zl hll) (by simpa using r1.get_none hv) fun h' he'=>?_
    exact K _ _ (Plain.ext he' _) rfl
  ·exact nnO hb
 |range c n d=>
  cases n with
  |zero=>
   have e:=Option.some.inj hb;subst e;exact wpAny_pyNext_range_end hh I (by decide) fun h' he'=>K _ _ (Plain.ext he' _) rfl
  |succ n=>
   have e:=Option.some.inj hb;subst e;refine wpAny_pyNext_range_item I (by simp) fun h' hit' hs'=>?_
   have hit2:IsRangeIter h' a (c+d) n d:=by have:=hit';rwa[show((n+1:Nat):Int)-1=(n:Int) by lia]at this
   exact K _ _ (Plain.but hs' _) ⟨_,rfl, .int _ _ _ (fun μ=>Nat.lt_succ_self _),hit2,noTup (T:="range_iterator") (by decide) rfl rfl hit' _⟩
 |chars cs b=>
  obtain⟨x,t,i,T,hT,hit,hx,hlb⟩:=I;cases cs with
  |nil=>
   have e:=Option.some.inj hb;subst e;have hnone:x.cps[i]? =none:=by
    have:=congrArg List.length hx;rw[List.length_drop]at this;simp at this ⊢;lia
   rcases hT with rfl|rfl
   ·exact wpAny_pyNext_ascii_end hh hit hnone fun h' he'=>K _ _ (Plain.ext he' _) rfl
   ·exact wpAny_pyNext_wide_end hh hit hnone fun h' he'=>K _ _ (Plain.ext he' _) rfl
  |cons c r=>
   have e:=Option.some.inj hb;subst e;have hget:x.cps.toList[i]? =some c:=by
    have:=congrArg List.head? hx;rw[List.head?_drop]at this;exact this
   have hdrop:x.cps.toList.drop (i+1)=r:=by
    have:=congrArg List.tail hx;rw[List.tail_drop]at this;exact this
   rcases hT with rfl|rfl
   ·refine wpAny_pyNext_ascii_item hit (by simpa using hget) fun h' hit' hs'=>?_
    obtain⟨o,ho,hc,hd⟩:=id hit';exact K _ _ (Plain.but hs' _) ⟨_,rfl, .str _ _ _ (Nat.le_refl _),⟨x,t,i+1,_, .inl rfl,hit',hdrop,Nat.le_of_succ_le hlb⟩,noTup (T:="str_ascii_iterator") (by decide) hc hd ho _⟩
   ·refine wpAny_pyNext_wide_item hit (by simpa using hget) fun h' hit' hs'=>?_
    obtain⟨o,ho,hc,hd⟩:=id hit';exact K _ _ (Plain.but hs' _) ⟨_,rfl, .str _ _ _ (Nat.le_refl _),⟨x,t,i+1,_, .inr rfl,hit',hdrop,Nat.le_of_succ_le hlb⟩,noTup (T:="str_iterator") (by decide) hc hd ho _⟩
set_option tactic.hygienic true in
theorem Zag(S:Snd C rec n){t:Expr}{v:V}{x:Value}{k:St→Prop}{Q:Unit→Shared→Prop}(hb:asgA rec sc t v st k)(H:HI C ρ st s)(F:FI C env sc ρ st.m s)(hs:okSc sc=true)(hA:Room n A)(r:VR ρ s.heap v x)(K:KU C env sc ρ s k Q):
  wpAny (model C.prog C.w) A (assign t env x) Q E s:=by
 cases t with
 |Name y p=>exact wpAny_assign_Name (Z5 hb H F r fun st' s' hk H' F' e=>K st' ρ s' hk H' F' e)
 |Tuple es kk p=>
  refine(Zd hb).elim fun vs hu=>(Zbp hu.2).elim fun ns e=>?_;have q:=JL (C:=C) (env:=env) e.1;rw[arm_assign_Tuple];refine Wb (wpAny_standAt ?_);unfold unpack;rw[q.2.1,q.2.2.1];refine Wb (wpAny_holding (Jb (A:=A) (E:=E) hu.1 H r hA.2.2 fun xs s' P rs=>?_).1);exact Zdk q.1 (rs.mono (.refl _) P.tup0) e.2.1 e.2.2.1 (H.plain0 P) (F.ext (Ext.plain0 P)) fun s'' H'' F'' e''=>K _ ρ s'' e.2.2.2 H'' F'' ((Ext.plain0 P).trans e'')
 |Subscript o i p=>
  refine(JR hb).elim (fun h=>noB h.2) fun hb=>?_;have hi:=hb.1;rw[arm_assign_Subscript];refine Wb (wpAny_holding (S.ex hb.2 H F hs hA fun ov st1 ρ1 s1 o' h1 H1 e1 r1 m1=>?_));refine Wb (wpAny_holding (S.ex h1 H1 (F.after e1 m1) hs hA fun iv st2 ρ2 s2 i' h2 H2 e2 r2 m2=>?_));refine Wb (wpAny_standAt (Wb (wpAny_holding ?_)));refine Zhm h2 H2 (r1.after e2) r2 ((r.after e1).after e2) fun st3 s3 h3 H3 e3 m3=>?_;have e12:Ext C nox ρ s ρ2 s3:=(e1.trans e2).trans (e3 nox);exact wpAny_release (K st3 ρ2 s3 h3 H3 (F.after e12 (m3.trans (m2.trans m1))) (e12.weaken fun μ h=>h.elim))
 |_=>exact noB hb
theorem ZfS(S:Snd C rec n){v:V}{x:Value}{k:St→Prop}{ts:List Expr}:∀{st:St} {ρ:Rho} {s:Shared} {Q:Unit→Shared→Prop},asgsA rec sc ts v st k→HI C ρ st s→FI C env sc ρ st.m s→okSc sc=true→Room n A→VR ρ s.heap v x→KU C env sc ρ s k Q→
  Z3 ts=true→wpAny (model C.prog C.w) A (assignAll x ((assignEach ts env).map (·.2))) Q E s:=by
 induction ts with
 |nil=>intro st ρ s Q hb H F hs hA r K μ;exact Wp (K st ρ s hb H F (.refl _ _ _ _))
 |cons t ts ih=>
  intro st ρ s Q hb H F hs hA r K hall;have hall:=Bool.and_eq_true_iff.mp hall;rw[Jl (Zcm hall.1)];cases ts with
  |nil=>exact Zag S hb H F hs hA r K
  |cons t' ts=>
   rw[Jl (Zcm (Bool.and_eq_true_iff.mp hall.2).1)]at ih ⊢;exact Wb (wpAny_holding (Zag S hb H F hs hA r fun st1 ρ1 s1 h1 H1 F1 e1=>ih h1 H1 F1 hs hA (r.after e1) (fun st2 ρ2 s2 h2 H2 F2 e2=>K st2 ρ2 s2 h2 H2 F2 (e1.trans e2)) hall.2))
end
section
variable{prog:Program}{w:World}{A:Around}{R:Result→Shared→Prop}{s:Shared}
theorem Yy{target:Expr}{it:Value}{body orelse:List Stmt}{env:Env}
  (h:wpAny (model prog w) A (pyNext it) (fun r s₁=>match r with
   |none=>wpAny (model prog w) A (execs orelse env) (fun f s₃=>R (.ok f) s₃) (notedBy (model prog w) A env fun e s'=>R (.error e) s') s₁
   |some v=>wpAny (model prog w) A (letOwnedTupleGo target it v) (fun μ s₁'=>
     wpAny (model prog w) A (assign target env v) (fun μ s₂=>wpAny (model prog w) A (execs body env) (fun f s₃=>match f with
      | .next| .cont=>codeAny (model prog w) A (.forLoop target it body orelse env) R s₃
      | .brk=>R (.ok .next) s₃
      | .ret v=>R (.ok (.ret v)) s₃) (notedBy (model prog w) A env fun e s'=>R (.error e) s') s₂) (notedBy (model prog w) A env fun e s'=>R (.error e) s') s₁') (notedBy (model prog w) A env fun e s'=>R (.error e) s') s₁) (notedBy (model prog w) A env fun e s'=>R (.error e) s') s):
  codeAny (model prog w) A (.forLoop target it body orelse env) R s:=by
 refine codeAny_of_tree ?_;show wpAny _ A ((forTurn target it body orelse env).onRaise (fun x=>do noteFrame x env;theTreesLotGoes x)) _ _ s
 refine wpAny_noted ?_
 skip
 refine Wb (wpAny_standAt (Wb (wpAny_onRaise (wpAny_mono h (fun r s₁ h₁=>?_) fun μ μ h'=>wpAny_standAt h'))));cases r with
 |none=>exact Wp ⟨rfl,codeAny_block h₁⟩
 |some v=>
  refine Wb (wpAny_mono h₁ (fun μ s₁' h₁'=>?_) fun μ μ h'=>h');refine Wb (wpAny_mono h₁' (fun μ s₂ h₂=>Wb (wpAny_mono h₂ (fun f s₃ h₃=>?_) fun μ μ h'=>h')) fun μ μ h'=>h');cases f with
  |next=>exact Wp ⟨rfl,h₃⟩
  |cont=>exact Wp ⟨rfl,h₃⟩
  |brk=>exact Wp h₃
  |ret v=>exact Wp h₃
theorem Zby{test:Expr}{body orelse:List Stmt}{env:Env}
  (h:wpAny (model prog w) A (isTrue test env (eval test env)) (fun b s₂=>
    if b then wpAny (model prog w) A (execs body env) (fun f s₃=>match f with
      | .next| .cont=>codeAny (model prog w) A (.whileLoop test body orelse env) R s₃
      | .brk=>R (.ok .next) s₃
      | .ret v=>R (.ok (.ret v)) s₃) (notedBy (model prog w) A env fun e s'=>R (.error e) s') s₂
    else wpAny (model prog w) A (execs orelse env) (fun f s₃=>R (.ok f) s₃) (notedBy (model prog w) A env fun e s'=>R (.error e) s') s₂)
    (notedBy (model prog w) A env fun e s'=>R (.error e) s') s):codeAny (model prog w) A (.whileLoop test body orelse env) R s:=by
 refine codeAny_of_tree ?_;show wpAny _ A ((whileTurn test body orelse env).onRaise (fun x=>do noteFrame x env;theTreesLotGoes x)) _ _ s
 refine wpAny_noted ?_
 skip
 refine Wb (wpAny_mono h (fun b s₂ h₂=>?_) fun μ μ h'=>h');cases b with
 |false=>
  simp only[Bool.false_eq_true,if_false]at h₂ ⊢;exact Wb (wpAny_mono h₂ (fun f s₃ h₃=>Wp h₃) fun μ μ h'=>h')
 |true=>
  simp only[if_true]at h₂ ⊢;refine Wb (wpAny_mono h₂ (fun f s₃ h₃=>?_) fun μ μ h'=>h');cases f with
  |next=>exact Wp ⟨rfl,h₃⟩
  |cont=>exact Wp ⟨rfl,h₃⟩
  |brk=>exact Wp h₃
  |ret v=>exact Wp h₃
end
section
variable{C:Ctx}{A:Around}{env:Env}{sc:Sc}{ρ:Rho}{st:St}{s:Shared}{rec:Rec}{n:Nat}{R:Result→Shared→Prop}
theorem ZnJ(S:Snd C rec n){t:Expr}{b o:List Stmt}{k:KS}(hb:ZgL rec sc t b o st k)(H:HI C ρ st s)(F:FI C env sc ρ st.m s)(hs:okSc sc=true)(hA:Room n A)(K:KF C env sc ρ s k (fun f s'=>R (.ok f) s')):
  codeAny (model C.prog C.w) A (.whileLoop t b o env) R s:=by
 refine Zby ?_;unfold ZgL at hb;refine S.ts hb H F hs hA fun c st1 ρ1 s1 h1 H1 e1 m1=>?_;have F1:=F.after e1 m1;have e1':Ext C (own env sc) ρ s ρ1 s1:=e1.weaken fun μ h=>h.elim;cases c with
 |false=>
  skip
  exact S.ss h1 H1 F1 hs hA fun f fl st2 ρ2 s2 h2 H2 F2 e2 r2=>K f fl st2 ρ2 s2 h2 H2 F2 (e1'.trans e2) r2
 |true=>
  skip
  refine S.ss h1 H1 F1 hs hA fun f fl st2 ρ2 s2 h2 H2 F2 e2 r2=>?_;cases r2 with
  |nxt=>exact S.wl h2 H2 F2 hs hA fun f fl st3 ρ3 s3 h3 H3 F3 e3 r3=>K f fl st3 ρ3 s3 h3 H3 F3 ((e1'.trans e2).trans e3) r3
  |cnt=>exact S.wl h2 H2 F2 hs hA fun f fl st3 ρ3 s3 h3 H3 F3 e3 r3=>K f fl st3 ρ3 s3 h3 H3 F3 ((e1'.trans e2).trans e3) r3
  |brk=>exact K _ _ st2 ρ2 s2 h2 H2 F2 (e1'.trans e2) .nxt
  |ret v x r=>exact K _ _ st2 ρ2 s2 h2 H2 F2 (e1'.trans e2) (.ret v x r)
set_option tactic.hygienic true in
theorem ZlE(S:Snd C rec n){t:Expr}{b o:List Stmt}{it:It}{a:Addr}{k:KS}(hb:ZdQ rec sc t b o it st k)(H:HI C ρ st s)(F:FI C env sc ρ st.m s)(hs:okSc sc=true)(hA:Room n A)(Ap:Apart C env ρ a)(I:ItR ρ s.heap a it)
  (K:∀f fl st' ρ' s',k f st'→HI C ρ' st' s'→FI C env sc ρ' st'.m s'→Ext C (XI env sc a) ρ s ρ' s'→FlR ρ' s'.heap f fl→R (.ok fl) s'):codeAny (model C.prog C.w) A (.forLoop t (.ref a) b o env) R s:=by
 refine Yy ?_;unfold ZdQ at hb;have wk:∀{ρ ρ':Rho} {s s':Shared},Ext C (own env sc) ρ s ρ' s'→Ext C (XI env sc a) ρ s ρ' s':=fun e=>e.weaken fun μ h=> .inl h;split at hb
 ·exact noB hb
 ·rename_i hn;refine Jr hn H I Ap hA.2.2 fun x s1 P hx=>?_;subst hx;have ht:=Ze.at (P:=P) I;have e1:Ext C (XI env sc a) ρ s ρ s1:=Ext.plain P (fun μ h=> .inr (.inr h)) ht;exact S.ss hb (H.plain P (fun b h=>h▸⟨Ap.lo,Ap.out⟩) ht) (F.at P Ap ht) hs hA fun f fl st2 ρ2 s2 h2 H2 F2 e2 r2=>K f fl st2 ρ2 s2 h2 H2 F2 (e1.trans (wk e2)) r2
 ·rename_i v it' hn;refine Jr hn H I Ap hA.2.2 fun x s1 P hx=>?_;obtain⟨y,rfl,ry,I1,go⟩:=hx;have ht:=Ze.at (P:=P) I;have e1:Ext C (XI env sc a) ρ s ρ s1:=Ext.plain P (fun μ h=> .inr (.inr h)) ht;have H1:=H.plain P (fun b h=>h▸⟨Ap.lo,Ap.out⟩) ht;have F1:=F.at P Ap ht;refine go _ _ _ _ ?_;refine Zag S hb H1 F1 hs hA (ry.mono (.refl _) ht) fun st2 ρ2 s2 h2 H2 F2 e2=>?_;refine S.ss h2 H2 F2 hs hA fun f fl st3 ρ3 s3 h3 H3 F3 e3 r3=>?_;have e23:=e2.trans e3;have Ap3:=Ap.ext I1.live e23;have I3:=I1.ext Ap e23;cases r3 with
  |nxt=>exact S.fl h3 H3 F3 hs hA Ap3 I3 fun f fl st4 ρ4 s4 h4 H4 F4 e4 r4=>K f fl st4 ρ4 s4 h4 H4 F4 ((e1.trans (wk e23)).trans e4) r4
  |cnt=>exact S.fl h3 H3 F3 hs hA Ap3 I3 fun f fl st4 ρ4 s4 h4 H4 F4 e4 r4=>K f fl st4 ρ4 s4 h4 H4 F4 ((e1.trans (wk e23)).trans e4) r4
  |brk=>exact K _ _ st3 ρ3 s3 h3 H3 F3 (e1.trans (wk e23)) .nxt
  |ret v x r=>exact K _ _ st3 ρ3 s3 h3 H3 F3 (e1.trans (wk e23)) (.ret v x r)
end
section
variable{C:Ctx}{ρ ρ':Rho}{s s':Shared}{X:Addr→Prop}
theorem Ext.forget(x:Ext C X ρ s ρ' s')(hX:∀a,X a→s.heap.get? a=none):Ext C nox ρ s ρ' s' where
 main:=x.main
 fresh:=fun a h=>by
  rcases x.fresh a h with h|h|h
  ·exact .inl h
  ·exact .inr (.inl h)
  ·exact .inr (.inl (hX a h))
 kept:=fun a o e hb hf μ=>x.kept a o e hb hf fun q=>by rw[hX a q]at e;cases e
 tup:=x.tup
 live:=fun a o e μ=>x.live a o e fun q=>by rw[hX a q]at e;cases e
 gfresh:=x.gfresh
 gkept:=x.gkept
 gsize:=x.gsize
end
theorem Jw{x:Str}{r:List Str}(h:Yq (x::r)=true):x∉r∧Yq r=true:=by
 have h:=Bool.and_eq_true_iff.mp h;refine⟨fun hx=>?_,h.2⟩;have:=List.all_eq_true.mp h.1 x hx;rw[J3]at this;exact ftB this
theorem Je{x:Str}{ns:List Str}{vs:List Value}(h:x∉ns):(ns.zip vs).lookup x=none:=by
 induction ns generalizing vs with
 |nil=>rfl
 |cons y r ih=>
  cases vs with
  |nil=>rfl
  |cons v vs=>
   rw[List.mem_cons,not_or]at h;rw[List.zip_cons_cons,List.lookup_cons];have:(x==y)=false:=by simpa using h.1
   refine(this).symm▸?_;exact ih h.2
theorem Zbq{K:Str→Option NameKind}{x:Str}:∀{ns:List Str} {vs:List Value} {m:Str→Option Value},Yq ns=true→K x=some .local→bindL K (ns.zip vs) m x=((ns.zip vs).lookup x).or (m x)
 | [],_,_,_,_=>rfl
 |_::_,[],_,_,_=>rfl
 |n::ns,v::vs,m,h,hx=>by
  obtain⟨h1,h2⟩:=Jw h;show bindL K ((n,v)::ns.zip vs) m x=(List.lookup x ((n,v)::ns.zip vs)).or (m x);unfold bindL;rw[Zbq h2 hx,List.lookup_cons];by_cases e:x=n
  ·subst e;rw[Je h1,if_pos hx];simp
  ·have:(x==n)=false:=by simpa using e
   refine(this).symm▸?_;split
   ·simp[e]
   ·rfl
theorem Zd3{K:Str→Option NameKind}{x:Str}:∀{ns:List Str} {vs:List Value} {m:Str→Option Value},Yq ns=true→K x≠some .local→bindC K (ns.zip vs) m x=((ns.zip vs).lookup x).or (m x)
 | [],_,_,_,_=>rfl
 |_::_,[],_,_,_=>rfl
 |n::ns,v::vs,m,h,hx=>by
  obtain⟨h1,h2⟩:=Jw h;show bindC K ((n,v)::ns.zip vs) m x=(List.lookup x ((n,v)::ns.zip vs)).or (m x);unfold bindC;rw[Zd3 h2 hx,List.lookup_cons];by_cases e:x=n
  ·subst e;rw[Je h1,if_neg hx];simp
  ·have:(x==n)=false:=by simpa using e
   refine(this).symm▸?_;split
   ·rfl
   ·simp[e]
theorem ZlV{ρ:Rho}{h:Heap}{ns:List Str}:∀{vs:List V} {m:List (Str×V)} {xs:List Value},zipS ns vs=some m→VRs ρ h vs xs→ns.length=vs.length∧∀x v,lookS x m=some v→∃val,(ns.zip xs).lookup x=some val∧VR ρ h v val:=by
 induction ns with
 |nil=>
  intro vs m xs e r;cases vs with
  |nil=>exact⟨rfl,fun x v h=>by rw[←Option.some.inj e]at h;exact nnO h⟩
  |cons=>exact nnO e
 |cons n ns ih=>
  intro vs m xs e r;cases vs with
  |nil=>exact nnO e
  |cons v vs=>
   refine(Option.map_eq_some_iff.mp e).elim fun l q=>exE2 (Zq r) fun y ys p=>?_;refine⟨congrArg Nat.succ (ih q.1 p.2.2).1,fun x w hw=>?_⟩;rw[←q.2,ZE]at hw;rw[p.1];show∃val,List.lookup x ((n,y)::ns.zip ys)=some val∧_;rw[List.lookup_cons];cases t:strEq n x with
   |true=>
    rw[t]at hw;rw[Za.mp t,beq_self_eq_true];exact⟨y,rfl,Option.some.inj hw▸p.2.1⟩
   |false=>
    rw[t]at hw;rw[beq_eq_false_iff_ne.mpr fun e=>Yn.mp t e.symm];exact(ih q.1 p.2.2).2 x w hw
theorem Zr:∀{names:List (Str×NameKind)} {n:Nat} {acc:List (Str×Addr)} {x:Str},(names.lookup x=some .cell∨(acc.lookup x).isSome=true)→((cellsFrom n names acc).lookup x).isSome=true
 | [],n,acc,x,h=>by
  rcases h with h|h
  ·cases h
  ·exact h
 |(y,k)::r,n,acc,x,h=>by
  unfold cellsFrom;by_cases e:x=y
  ·subst e;split
   ·exact Zr (.inr (by simp[List.lookup_cons]))
   ·rename_i hk;refine Zr (h.imp (fun h=>?_) id);rw[List.lookup_cons,beq_self_eq_true]at h;cases h;simp at hk
  ·have hxy:(x==y)=false:=by simpa using e
   rw[List.lookup_cons,hxy]at h;split
   ·exact Zr (h.imp id fun h=>by rw[List.lookup_cons,hxy];exact h)
   ·exact Zr h
set_option tactic.hygienic true in
theorem JB:∀{sc:Sc} {x:Str},Zdo sc=true→lookS x sc≠some .free
 | [],_,_,h=>by cases h
 |(y,k)::r,x,hn,h=>by
  rw[ZE]at h;have hr:Zdo r=true∧k≠ .free:=by
   have h:=(Bool.and_eq_true _ _).mp hn;exact⟨h.2,fun e=>by rw[e]at h;exact ftB h.1⟩
  split at h
  ·rename_i v e1;exact hr.2 (Option.some.inj h)
  ·exact JB hr.1 h
structure FnAt(C:Ctx)(f:Str)(d:FnDef)(a:Addr)(fd:FuncData):Prop where
 glob:C.mg f=some (.ref a)
 obj:∀h,OldK C.base h→C.inv h→∃o,h.get? a=some o∧o.data= .func fd
 body:fd.body= .stmts d.body
 scope:fd.scope=d.scope
 clo:fd.closure=[]
 gl:fd.globals=mainGlobals
 bl:fd.builtins=builtinsNs
 crec:∀h,OldK C.base h→C.inv h→h.CodeRec fd.code fd.qualname
 bind:∀vals:List Value,vals.length=(Zc d.params).length→bindArgs fd ⟨vals,[]⟩=pure ((Zc d.params).zip vals)
section
variable{C:Ctx}{A:Around}{env:Env}{sc:Sc}{ρ ρ':Rho}{st:St}{s s':Shared}{rec:Rec}{n:Nat}{k:KE}{Q E:VP}
theorem Zdn{d:FnDef}(h:okFn d=true):Zdo d.scope.names=true∧Yq (Zc d.params)=true∧d.scope.kind= .function∧okSc d.scope.names=true∧d.scope.isGenerator=false∧d.scope.isCoroutine=false∧
  (∀x∈Zc d.params,lookS x d.scope.names=some .local∨lookS x d.scope.names=some .cell):=by
 have a:=Bool.and_eq_true_iff.mp h;have b:=Bool.and_eq_true_iff.mp a.1;have c:=Bool.and_eq_true_iff.mp b.1;have d:=Bool.and_eq_true_iff.mp c.1;have e:=Bool.and_eq_true_iff.mp d.1;have f:=Bool.and_eq_true_iff.mp e.1;have g:=Bool.and_eq_true_iff.mp (Bool.and_eq_true_iff.mp e.2).1;exact⟨f.1,f.2,of_decide_eq_true g.1,g.2,Eq.mp (Bool.not_eq_true' _) d.2,Eq.mp (Bool.not_eq_true' _) c.2,fun x hx=>ZmY (List.all_eq_true.mp a.2 x hx)⟩
theorem Room.deeper(h:Room (n+1) A)(env:Env):Room n (A.deeper env):=
 ⟨by have:=h.1;show A.depth+1+n+20<_;lia,by have:=h.2.1;show A.units+3+4*n+800<_;lia,h.2.2⟩
theorem YP{x:Str×Value}:∀{ns:List Str} {vs:List Value},x∈ns.zip vs→x.1∈ns
 | [],_,h=>by cases h
 |_::_,[],h=>by cases h
 |n::ns,v::vs,h=>by
  rcases List.mem_cons.mp h with rfl|h
  ·exact List.mem_cons_self
  ·exact List.mem_cons_of_mem _ (YP h)
theorem Zca(S:Snd C rec n){f:Str}{d:FnDef}{a:Addr}{fd:FuncData}(T:FnAt C f d a fd){vs:List V}{xs:List Value}{m:List (Str×V)}(hz:zipS (Zc d.params) vs=some m)(hok:okFn d=true)
  (hb:rec.ss d.scope.names d.body {st with m:=m} fun fl st'=>Zk (outOf fl) 61 fun v=>k v {st' with m:=st.m})
  (H:HI C ρ st s)(r:VRs ρ s.heap vs xs)(hA:Room (n+1) A)(K:KX C ρ s st.m k Q):wpAny (model C.prog C.w) A (call (.ref a) xs) Q E s:=by
 obtain⟨k1,k2,k3,k4,k5,k6,k7⟩:=Zdn hok;obtain⟨o,ho,hd⟩:=T.obj s.heap H.old H.inv;obtain⟨z1,z2⟩:=ZlV hz r;have hlen:xs.length=(Zc d.params).length:=by rw[z1,r.len]
 have kind:∀x∈(Zc d.params).zip xs,fd.scope.names.lookup x.1=some .local∨(fd.scope.names.lookup x.1=some .cell∧((cellsFrom (s.heap.objs.size+1) fd.scope.names []).lookup x.1).isSome=true):=by
  intro x hx;rw[T.scope,←Zv];rcases k7 x.1 (YP hx)with h|h
  ·exact .inl h
  ·exact .inr ⟨h,Zr (.inl (by rw[←Zv];exact h))⟩
 refine wpAny_call (codeAny_call_cells (by have:=hA.1;lia) ho hd (C.lim _ H.inv) (T.crec _ H.old H.inv) T.body (T.bind xs hlen) T.clo kind (fun s₁ I=>?_) (by refine(T.scope).symm▸?_;exact k6) (by refine(T.scope).symm▸?_;exact k5) (by refine(T.scope).symm▸?_;exact k3))
 obtain⟨h1,t1,e1⟩:=I.toInCall.same;have P:Plain nox s s₁:=by
  subst e1;exact⟨fun b o e μ=>I.toInCall.keep b o e,rfl,rfl⟩
 have hLsz:(callEnvC fd s.heap.objs.size a).locals=s.heap.objs.size:=rfl;have hnames:(callEnvC fd s.heap.objs.size a).scope.names=d.scope.names:=by refine(T.scope)▸?_;rfl
 have kindOf:∀x,(callEnvC fd s.heap.objs.size a).kindOf x=lookS x d.scope.names:=fun x=>by
  unfold Env.kindOf;rw[hnames,Zv]
 have hfresh:∀b,s.heap.objs.size≤b→s.heap.get? b=none:=fun b hb=>ZH hb;have hI:HI C ρ {st with m:=m} s₁:=(H.plain0 P).m m;have F1:FI C (callEnvC fd s.heap.objs.size a) d.scope.names ρ m s₁:=by
  refine⟨⟨by show fd.scope.kind=_;refine(T.scope).symm▸?_;exact k3,T.gl,T.bl,fun x h=>by rw[kindOf];exact h,fun x h=>by rw[kindOf];exact h,fun x h=>by rw[kindOf];exact .inr h,fun x h=>by rw[kindOf];exact h⟩,
   H.freshLo (Nat.le_refl _),⟨_,I.toInCall.ns⟩,H.freshOut (hfresh _ (Nat.le_refl _)),?_,?_,?_,?_⟩
  ·intro x c hc;have hlt:=I.above x c (mem_of_lookup hc);rw[hLsz]at hlt;exact⟨H.freshLo (Nat.le_of_lt hlt),H.freshOut (hfresh _ (Nat.le_of_lt hlt)),by refine(hLsz).symm▸?_;exact Nat.ne_of_gt hlt,_,I.cell x c hc⟩
  ·intro x y c hx hy;exact name_of_addr I.apart (mem_of_lookup hx) (mem_of_lookup hy)
  ·intro x hx;rcases hx with hx|hx
   ·refine Zr (.inl ?_);rw[T.scope,←Zv];exact hx
   ·exact absurd hx (JB k1)
  ·intro x v hv;obtain⟨val,hz,rv⟩:=z2 x v hv;refine⟨val,?_,rv.mono (.refl _) P.tup0⟩;have hxn:x∈Zc d.params:=YP (mem_of_lookup hz);rcases k7 x hxn with h|h
   ·refine .inl ⟨by rw[kindOf];exact h,_,I.toInCall.ns,?_⟩
    rw[Zbq k2 (by rw[kindOf];exact h),hz];rfl
   ·have hx2:(callEnvC fd s.heap.objs.size a).kindOf x=some .cell:=by rw[kindOf];exact h
    have hsome:((callEnvC fd s.heap.objs.size a).cells.lookup x).isSome=true:=Zr (.inl (by rw[T.scope,←Zv];exact h))
    obtain⟨c,hc⟩:=Option.isSome_iff_exists.mp hsome;refine .inr ⟨.inl hx2,c,hc,?_⟩;have:=I.cell x c hc;rw[Zd3 k2 (by rw[hx2];simp),hz]at this
    exact this
 refine S.ss hb hI F1 k4 (hA.deeper _) fun fl fw st2 ρ2 s2 h2 H2 F2 e2 r2=>?_;have ee:Ext C nox ρ s ρ2 s2:=((Ext.plain0 P:Ext C (own (callEnvC fd s.heap.objs.size a) d.scope.names) ρ s ρ s₁).trans e2).forget fun b hb=>by
  refine hfresh b ?_;rcases hb with rfl|⟨x,_,hc⟩
  ·exact Nat.le_refl _
  ·exact Nat.le_of_lt (I.above x b (mem_of_lookup hc))
 cases r2 with
 |nxt=>exact K _ {st2 with m:=st.m} ρ2 s2 _ h2 (H2.m _) ee .none rfl
 |brk=>exact noB h2
 |cnt=>exact noB h2
 |ret v x r=>exact K _ {st2 with m:=st.m} ρ2 s2 _ h2 (H2.m _) ee r rfl
theorem Zf{M:Model}{pos:Pos}{f:Value}{first:List Value}{args:List (Bool×Sem Value)}{Q:VP}(hplain:args.any (·.1)=false)
  (h:wpAny M A (spliced args) (fun vs s₁=>(∀Q':Keeper→Shared→Prop,(∀k,Q' k s₁)→wpAny M A (keeperOf f) Q' E s₁)∧wpAny M A (call f (first++vs)) Q E s₁) E s):wpAny M A (callWith pos f first args []) Q E s:=by
 unfold callWith;have ha:wpAny M A (evalArgs f true args []) (fun x s₁=>x.kw=[]∧(∀Q':Keeper→Shared→Prop,(∀k,Q' k s₁)→wpAny M A (keeperOf f) Q' E s₁)∧wpAny M A (call f (first++x.pos)) Q E s₁) E s:=by
  match args,hplain with
  | [],_=>
   unfold evalArgs;show wpAny M A (spliced [] >>= _) _ E s;refine Wb (wpAny_mono h (fun vs s' h'=>?_) fun μ μ x=>x);refine Wb (Wp (wpAny_holding ?_));exact Wb (Wp (Wb (Wp (Wp ⟨rfl,h'⟩))))
  | [(false,x)],_=>
   unfold evalArgs;show wpAny M A (spliced [(false,x)] >>= _) _ E s;refine Wb (wpAny_mono h (fun vs s' h'=>?_) fun μ μ x=>x);refine wpAny_holding ?_;exact Wb (Wp (Wb (Wp (Wp ⟨rfl,h'⟩))))
  |(true,x)::r,hp=>simp at hp
  |(false,x)::y::r,_=>
   unfold evalArgs;show wpAny M A (spliced ((false,x)::y::r) >>= _) _ E s;refine Wb (wpAny_mono h (fun vs s' h'=>?_) fun μ μ x=>x);refine wpAny_holding ?_;exact Wb (Wp (Wb (Wp (Wp ⟨rfl,h'⟩))))
 refine Wb (wpAny_holding (wpAny_mono ha (fun x s₁ h₁=>Wb (wpAny_standAt ?_)) fun μ μ x=>x));obtain⟨hkw,hkeep,hcall⟩:=h₁;refine(hkw).symm▸?_;simp only[hplain,List.any_nil,Bool.or_false];have tail:∀{t:Sem Value},wpAny M A t Q E s₁→wpAny M A (t >>= fun r=>holding [r] point >>= fun μ=>pure r) Q E s₁:=
  fun ht=>Wb (wpAny_mono ht (fun r s₂ hr=>Wb (wpAny_holding (wpAny_point (Wp hr)))) fun μ μ x=>x)
 refine Wb (m:=keeperOf f) (hkeep _ fun kp=>?_);have mk:∀{q:Value},wpAny M A (callMarked q f (first++x.pos) []) Q E s₁:=Calls.wpAny_keep hcall
 cases kp
 ·exact wpAny_ite_split (fun μ=>tail hcall) fun μ=>tail mk
 ·exact wpAny_ite_split (fun μ=>tail hcall) fun μ=>tail mk
 ·exact tail hcall
 ·exact tail (wpAny_operating hcall)
end
theorem YS{h₀ h:Heap}(K:OldK h₀ h){a:Addr}{m:Str→Option Value}(hn:h₀.Ns a m)(ha:a≠cStatics):h.Ns a m:=by
 obtain⟨o,es,ep,ho,hd,r⟩:=hn;refine⟨o,es,ep,?_,hd,r⟩;rcases K.old a o ho with x|⟨_,_,vs,_,hv,_⟩|⟨rfl,_⟩
 ·exact x
 ·rw[hv]at hd;cases hd
 ·exact absurd rfl ha
noncomputable def ZP:List (String×Value):=[("range", .type "range"),("len", .builtin "len"),("sum", .builtin "sum"),("min", .builtin "min"),("max", .builtin "max"),("abs", .builtin "abs"),("int", .type "int"),("next", .builtin "next")]
theorem Zcb:∀p∈ZP,bootBuiltins p.1=some p.2∧(p.1:Str)≠"__name__":=by
 intro p hp;simp only[ZP,List.mem_cons,List.not_mem_nil,or_false]at hp;rcases hp with rfl|rfl|rfl|rfl|rfl|rfl|rfl|rfl<;>exact⟨by kernel_rfl,by decide⟩
section
variable{C:Ctx}{A:Around}{env:Env}{sc:Sc}{ρ ρ':Rho}{st:St}{s s':Shared}{rec:Rec}{n:Nat}{k:KE}{Q E:VP}{m:List (Str×V)}
theorem Zbc{f:Str}(h:Jh sc f=true):lookS f sc=some .globalImplicit:=eq_of_beq h
theorem Ju{M:Model}{f:Str}{p:Pos}{v:Value}(h:Jh sc f=true)(H:HI C ρ st s)(F:FI C env sc ρ m s)(hs:okSc sc=true)(hv:C.mg f=some v∨(C.mg f=none∧bootBuiltins f=some v∧f≠"__name__"))(hQ:Q v s):
  wpAny M A (eval (.Name f p) env) Q E s:=by
 have hk:=F.ok.glo f (Zbc h);have hd:(f==("__debug__":Str))=false:=ZaD hs (by refine(Zbc h).symm▸?_;rfl)
 have hg:s.heap.Ns env.globals C.mg:=by refine(F.ok.glob).symm▸?_;exact YS H.old C.g (by decide)
 have hb:s.heap.Ns env.builtins C.mb:=by refine(F.ok.blt).symm▸?_;exact YS H.old C.b (by decide)
 refine Calls.Name_function_global F.ok.kind hk ?_ hd;rcases hv with hv|⟨h0,h1,h2⟩
 ·exact Calls.loadGlobal_global hg hv hQ
 ·exact Calls.loadGlobal_builtin hg h0 hb (by refine(C.bi f h2).symm▸?_;exact h1) hQ
theorem Zg{M:Model}{id:String}{s:Shared}:∀Q':Keeper→Shared→Prop,(∀k,Q' k s)→wpAny M A (keeperOf (.builtin id)) Q' E s:=fun μ h=>Wp (h _)
theorem YY{M:Model}{id:String}{s:Shared}:∀Q':Keeper→Shared→Prop,(∀k,Q' k s)→wpAny M A (keeperOf (.type id)) Q' E s:=fun μ h=>Wp (h _)
theorem ZZ{M:Model}{a:Addr}{o:Obj}{fd:FuncData}{s:Shared}(ho:s.heap.get? a=some o)(hd:o.data= .func fd):∀Q':Keeper→Shared→Prop,(∀k,Q' k s)→wpAny M A (keeperOf (.ref a)) Q' E s:=fun μ h=>by
 skip
 refine Wb (wpAny_load ho ?_);refine(hd).symm▸?_;exact Wp (h _)
theorem ZC{pos:Pos}{es:List Expr}:Z3 es=true→(backTo pos (starEach es env)).any (·.1)=false:=by
 induction es with
 |nil=>exact fun μ=>rfl
 |cons e es ih=>
  intro h;have h:=Bool.and_eq_true_iff.mp h;rw[J4 (Zcm h.1)];exact ih h.2
theorem YA(S:Snd C rec n){f:Str}{p pos:Pos}{args:List Expr}{v:Value}{kk:List V→St→Prop}(h:Jh sc f=true)(hall:Z3 args=true)
  (hv:C.mg f=some v∨(C.mg f=none∧bootBuiltins f=some v∧f≠"__name__"))
  (hkeep:∀s',OldK C.base s'.heap→C.inv s'.heap→∀Q':Keeper→Shared→Prop,(∀k,Q' k s')→wpAny (model C.prog C.w) A (keeperOf v) Q' E s')
  (hb:evs rec sc args st kk)(H:HI C ρ st s)(F:FI C env sc ρ st.m s)(hs:okSc sc=true)(hA:Room n A)
  (K:∀vs st' ρ' s' xs,kk vs st'→HI C ρ' st' s'→Ext C nox ρ s ρ' s'→VRs ρ' s'.heap vs xs→st'.m=st.m→wpAny (model C.prog C.w) A (call v xs) Q E s'):
  wpAny (model C.prog C.w) A (eval (.Call (.Name f p) args [] pos) env) Q E s:=by
 refine Call_Name rfl (Ju h H F hs hv ?_);refine Zf (ZC hall) (ZcJ S hb H F hs hA fun vs st1 ρ1 s1 xs h1 H1 e1 r1 m1=>?_);exact⟨hkeep _ H1.old H1.inv,K vs st1 ρ1 s1 xs h1 H1 e1 r1 m1⟩
theorem Apart.fresh{h':Heap}{o:Obj}(H:HI C ρ st s)(F:FI C env sc ρ m s):Apart C env ρ s.heap.objs.size where
 lo:=H.freshLo (Nat.le_refl _)
 out:=H.freshOut (Zw _)
 loc:=fun h=>by
  obtain⟨mm,o,_,_,ho,_⟩:=F.ns;rw[←h,Zw]at ho;exact nnO ho
 cel:=fun x c hc h=>by
  obtain⟨_,_,_,v,o,ho,_⟩:=F.cell x c hc;rw[h,Zw]at ho;exact nnO ho
noncomputable abbrev KI(C:Ctx)(env:Env)(sc:Sc)(ρ:Rho)(s:Shared)(m:List (Str×V))(k:It→St→Prop)(Q:VP):Prop:=
 ∀it st' ρ' s' a,k it st'→HI C ρ' st' s'→FI C env sc ρ' st'.m s'→Ext C nox ρ s ρ' s'→st'.m=m→Apart C env ρ' a→ItR ρ' s'.heap a it→s.heap.get? a=none→Q (.ref a) s'
theorem Zfj{o:Obj}{it:It}{k:It→St→Prop}(hk:k it st)(H:HI C ρ st s)(F:FI C env sc ρ st.m s)(K:KI C env sc ρ s st.m k Q)(I:ItR ρ (s.heap.push o) s.heap.objs.size it):
  Q (.ref s.heap.objs.size) {s with heap:=s.heap.push o}:=by
 have P:Plain nox s {s with heap:=s.heap.push o}:=Plain.push' _ s _;have e:Ext C nox ρ s ρ {s with heap:=s.heap.push o}:= .plain0 P;exact K it st ρ _ _ hk (H.plain0 P) (F.ext e) e rfl (Apart.fresh (h':=s.heap) (o:=o) H F) I (Zw _)
theorem KI.after{k:It→St→Prop}(K:KI C env sc ρ s m k Q)(e:Ext C nox ρ s ρ' s')(hl:∀a,s'.heap.get? a=none→s.heap.get? a=none):KI C env sc ρ' s' m k Q:=
 fun it st' ρ₂ s₂ a hk H F e' hm Ap I hn=>K it st' ρ₂ s₂ a hk H F (e.trans e') hm Ap I (hl a hn)
theorem Ext.none_back(e:Ext C nox ρ s ρ' s'){a:Addr}(h:s'.heap.get? a=none):s.heap.get? a=none:=by
 cases q:s.heap.get? a with
 |none=>rfl
 |some o=>
  obtain⟨o',ho'⟩:=e.live a o q fun h=>h;rw[h]at ho';cases ho'
theorem Zew(a b:Int):Builtin.Range.rangeSize a b 1=((ZhW a b:Nat):Int):=by
 rw[rangeSize_one];unfold ZhW;split<;>lia
theorem Zkp{v:V}{x:Value}{k:It→St→Prop}(h:itOf v st k)(H:HI C ρ st s)(F:FI C env sc ρ st.m s)(r:VR ρ s.heap v x)(K:KI C env sc ρ s st.m k Q):wpAny (model C.prog C.w) A (pyIter x) Q E s:=by
 cases v with
 |ref i=>
  refine(Z9 r).elim fun a e=>(Zd h).elim fun xs h=>?_;obtain⟨n',us,hl,r2,_⟩:=H.list h.1 e.2;rw[e.1];exact wpAny_pyIter_list (Zl hl) (Zfj h.2 H F K ⟨a,e.2,_,Heap.get?_push_size _ rfl,rfl,rfl⟩)
 |str i b=>
  refine(Z4 r).elim fun t e=>?_;rw[e.1];refine wpAny_pyIter_strU (Zfj h H F K ⟨i,t,0,strIterType i,?_,⟨_,Heap.get?_push_size _ rfl,rfl,rfl⟩,by rfl,e.2⟩)
  unfold strIterType;split
  ·exact .inl rfl
  ·exact .inr rfl
 |_=>exact noB h
set_option tactic.hygienic true in
theorem Zcv(S:Snd C rec n){e:Expr}{k:It→St→Prop}(hb:rec.ex sc e st fun v st=>itOf v st k)(H:HI C ρ st s)(F:FI C env sc ρ st.m s)(hs:okSc sc=true)(hA:Room n A)(K:KI C env sc ρ s st.m k Q):
  wpAny (model C.prog C.w) A (eval e env) (fun x s₁=>wpAny (model C.prog C.w) A (pyIter x) Q E s₁) E s:=
 S.ex hb H F hs hA fun v st1 ρ1 s1 x h1 H1 e1 r1 m1=>Zkp h1 H1 (F.after e1 m1) r1 (m1▸K.after e1 fun a h=>e1.none_back h)
end
section
variable{C:Ctx}{A:Around}{env:Env}{sc:Sc}{ρ ρ':Rho}{st:St}{s s':Shared}{rec:Rec}{n:Nat}{k:KE}{Q E:VP}{m:List (Str×V)}
theorem bget{f:Str}{T:String}(hf:strEq f T=true)(hno:∀p∈ZP,C.mg p.1=none){v:Value}(hm:(T,v)∈ZP):C.mg f=some v∨(C.mg f=none∧bootBuiltins f=some v∧f≠"__name__"):=by
 have e:=Za.mp hf;subst e;exact .inr ⟨hno _ hm,(Zcb _ hm).1,(Zcb _ hm).2⟩
theorem Zev{e:Expr}{q:Str×List Expr}(h:Zfi e=some q):∃p pos,e= .Call (.Name q.1 p) q.2 [] pos:=by
 cases e with
 |Call f args kws pos=>
  cases kws with
  |cons _ _=>exact nnO h
  |nil=>
   refine(Option.map_eq_some_iff.mp h).elim fun x h=>(YL h.1).elim fun p e=>?_;rw[e,←h.2];exact⟨p,pos,rfl⟩
 |_=>exact nnO h
theorem ZjJ{v:V}{x:Value}{k:It→St→Prop}(h:rng1 v st k)(H:HI C ρ st s)(F:FI C env sc ρ st.m s)(r:VR ρ s.heap v x)(K:KI C env sc ρ s st.m k Q):wpAny (model C.prog C.w) A (call (.type "range") [x]) (fun x s₁=>wpAny (model C.prog C.w) A (pyIter x) Q E s₁) E s:=by
 refine exE2 (Yf h) fun b q h=>?_;have hq:=ZU (gd_of h.2).1;rw[h.1]at r;refine(ZB r).elim fun t e=>?_;have hx:=e.2 hq.1;have hq:=hq.2;rw[e.1];refine call_range_1 ?_;have P:Plain nox s {s with heap:=s.heap.push {cls:= .type "range",data:= .fields #[.int 0 s.toks, .int b t, .int 1 (s.toks+1)]},toks:=s.toks+1+1}:=Plain.push _ _ _ _
 refine wpAny_pyIter_range (IsRange.new _ _ _ _ _ _ _) (small_one (by decide) (by decide) (by lia) (by lia)) ?_
 have e2:Ext C nox ρ s ρ _:=Ext.plain0 P;refine Zfj (gd_of h.2).2 (H.plain0 P) (F.ext e2) (K.after e2 fun a h=>e2.none_back h) ?_;have hn:Builtin.Range.rangeSize 0 b 1=((b.toNat:Nat):Int):=by rw[rangeSize_one];split<;>lia
 rw[hn];exact Heap.get?_push_size _ rfl
theorem ZjI{v w:V}{x y:Value}{k:It→St→Prop}(h:rng2 v w st k)(H:HI C ρ st s)(F:FI C env sc ρ st.m s)(r:VR ρ s.heap v x)(r':VR ρ s.heap w y)(K:KI C env sc ρ s st.m k Q):wpAny (model C.prog C.w) A (call (.type "range") [x,y]) (fun x s₁=>wpAny (model C.prog C.w) A (pyIter x) Q E s₁) E s:=by
 refine exE2 (Yf h) fun a p h=>exE2 (Yf h.2) fun b q h'=>?_;have hc:=Bool.and_eq_true_iff.mp (gd_of h'.2).1;have hp:=ZU hc.1;have hq:=ZU hc.2;rw[h.1]at r;rw[h'.1]at r';refine(ZB r).elim fun t e=>(ZB r').elim fun u e'=>?_;have hx:=e.2 hp.1;have hy:=e'.2 hq.1;have hp:=hp.2;have hq:=hq.2;rw[e.1,e'.1];refine call_range_2 ?_;have P:Plain nox s {s with heap:=s.heap.push {cls:= .type "range",data:= .fields #[.int a t, .int b u, .int 1 s.toks]},toks:=s.toks+1}:=Plain.push _ _ _ _
 refine wpAny_pyIter_range (IsRange.new _ _ _ _ _ _ _) (small_one (by lia) (by lia) (by lia) (by lia)) ?_
 have e2:Ext C nox ρ s ρ _:=Ext.plain0 P;refine Zfj (gd_of h'.2).2 (H.plain0 P) (F.ext e2) (K.after e2 fun a h=>e2.none_back h) ?_;rw[Zew];exact Heap.get?_push_size _ rfl
theorem ZjH{vs:List V}{xs:List Value}{k:It→St→Prop}(h:rngA vs st k)(H:HI C ρ st s)(F:FI C env sc ρ st.m s)(r:VRs ρ s.heap vs xs)(K:KI C env sc ρ s st.m k Q):wpAny (model C.prog C.w) A (call (.type "range") xs) (fun x s₁=>wpAny (model C.prog C.w) A (pyIter x) Q E s₁) E s:=by
 cases vs with
 |nil=>exact noB h
 |cons v vs=>
  refine exE2 (Zq r) fun x ys e=>?_;rw[e.1];cases vs with
  |nil=>rw[ZM e.2.2];exact ZjJ h H F e.2.1 K
  |cons w t=>
   have h:=YV h;refine exE2 (Zq e.2.2) fun y zs e'=>?_;rw[h.1]at e';rw[e'.1,ZM e'.2.2];exact ZjI h.2 H F e.2.1 e'.2.1 K
theorem Zkz{e:Expr}(h:Zlz e=false)(x:Value):foldedSetIterable e env x=pure x:=by
 cases e with
 |Set=>exact tfB h
 |_=>rfl
set_option tactic.hygienic true in
theorem ZcH(S:Snd C rec n)(hno:∀p∈ZP,C.mg p.1=none){e:Expr}{k:It→St→Prop}(hb:iterA rec sc e st k)(H:HI C ρ st s)(F:FI C env sc ρ st.m s)(hs:okSc sc=true)(hA:Room n A)(K:KI C env sc ρ s st.m k Q):
  wpAny (model C.prog C.w) A (eval e env) (fun x s₁=>wpAny (model C.prog C.w) A (pyIter x) Q E s₁) E s∧∀x,foldedSetIterable e env x=pure x:=by
 rcases JR hb with h|⟨h,hb⟩
 ·exact noB h.2
 refine⟨?_,Zkz h⟩;rcases Zmu hb with⟨args,h,hb⟩|hb
 ·refine(Option.bind_eq_some_iff.mp h).elim fun q h=>exE2 (Zev h.1) fun p pos e=>?_;have hq:=Y9 h.2;have hc:=Bool.and_eq_true_iff.mp hq.1;have hc2:=Bool.and_eq_true_iff.mp hc.2;rw[←Option.some.inj hq.2]at hb;rw[e];exact YA S hc.1 hc2.2 (bget hc2.1 hno (v:= .type "range") (by simp[ZP])) (fun μ μ μ=>YY) hb H F hs hA fun vs st1 ρ1 s1 xs h1 H1 e1 r1 m1=>ZjH h1 H1 (F.after e1 m1) r1 (m1▸K.after e1 fun a h=>e1.none_back h)
 ·exact Zcv S hb H F hs hA K
theorem ZnC{p q:Nat}(h:addB p q≠0):p≠0∧q≠0∧addB p q=p+q-1:=by
 unfold addB at h ⊢;cases e:(Nat.beq p 0 || Nat.beq q 0)with
 |true=>rw[e]at h;exact absurd rfl h
 |false=>
  rw[Bool.or_eq_false_iff]at e;exact⟨Nat.ne_of_beq_eq_false e.1,Nat.ne_of_beq_eq_false e.2,rfl⟩
theorem ZnB{a j b d:Nat}(h:a<b)(h':j<d):a+j<b+d-1:=by lia
theorem Zf1{ρ:Rho}{h:Heap}{vs:List V}:∀{us:List Value} {a:Int} {b:Nat} {i:Int} {c:Nat},sumV vs a b=some (i,c)→VRs ρ h vs us→a.natAbs<b→
  i.natAbs<c∧∃xs:List (Int×Tok),us=xs.map (fun p=> .int p.1 p.2)∧i=a+(xs.map (·.1)).sum:=by
 induction vs with
 |nil=>
  intro us a b i c e r hab;have e:=Prod.mk.inj (Option.some.inj e);rw[ZM r,←e.1,←e.2];exact⟨hab,[],rfl,(Int.add_zero a).symm⟩
 |cons v vs ih=>
  intro us a b i c e r hab;refine exE2 (Zft (show intOO v _=_ from e)) fun j d h=>exE2 (Zq r) fun x ys q=>?_;have hd:=Y9 h.2;rw[h.1]at q;refine(ZB q.2.1).elim fun t y=>?_;have hj:=y.2 (Nat.ne_of_beq_eq_false (by rw[←Bool.not_eq_true'];exact hd.1))
  have g:=ih hd.2 q.2.2 (Nat.lt_of_le_of_lt (Int.natAbs_add_le a j) (ZnB hab hj));refine⟨g.1,g.2.elim fun xs w=>⟨(j,t)::xs,?_,?_⟩⟩
  ·rw[q.1,y.1,w.1];rfl
  ·rw[w.2,List.map_cons,List.sum_cons,Int.add_assoc]
theorem KX.keeps(K:KX C ρ s st.m k Q)(H:HI C ρ st s){v:V}{x:Value}(hk:k v st){h':Heap}{tk:Nat}(hh:∀b o,s.heap.get? b=some o→h'.get? b=some o)(r:VR ρ s.heap v x):Q x {s with heap:=h',toks:=tk}:=by
 have P:Plain nox s {s with heap:=h',toks:=tk}:=Plain.keeps hh _;exact K v st ρ _ x hk (H.plain0 P) (.plain0 P) (r.mono (.refl _) P.tup0) rfl
structure ConOK(C:Ctx)(f:Str)(m:Nat)(c:Con)(v:Value):Prop where
 glob:C.mg f=some v
 keep:∀{A:Around} {E:VP} (s:Shared),OldK C.base s.heap→C.inv s.heap→∀Q':Keeper→Shared→Prop,(∀k,Q' k s)→wpAny (model C.prog C.w) A (keeperOf v) Q' E s
 call:∀{A:Around} {ρ:Rho} {st:St} {s:Shared} {vs:List V} {xs:List Value} {k:KE} {Q E:VP},c vs st k→HI C ρ st s→VRs ρ s.heap vs xs→Room m A→KX C ρ s st.m k Q→wpAny (model C.prog C.w) A (call v xs) Q E s
structure MethOK(C:Ctx)(f:Str)(fa:Addr):Prop where
 get:∀{A:Around} {ρ:Rho} {st:St} {s:Shared} {r:Nat} {p:Page} {a:Addr} {pl:Sem Bool} {Q:Value×List Value→Shared→Prop} {E:VP},HI C ρ st s→st.obj r=some (.page p)→Zi ρ r=some a→Q (.ref fa,[.ref a]) s→wpAny (model C.prog C.w) A (getMethod (.ref a) f pl) Q E s
 func:∀h,OldK C.base h→C.inv h→∃o fd,h.get? fa=some o∧o.data= .func fd
 call:∀{A:Around} {ρ:Rho} {st:St} {s:Shared} {r:Nat} {a:Addr} {vs:List V} {xs:List Value} {k:KE} {Q E:VP},methP r f vs st k→HI C ρ st s→Zi ρ r=some a→VRs ρ s.heap vs xs→Room 0 A→KX C ρ s st.m k Q→wpAny (model C.prog C.w) A (call (.ref fa) (.ref a::xs)) Q E s
structure GOK(C:Ctx)(g:G):Prop where
 fn:∀f d,g.con f=none→g.fn f=some d→∃a fd,FnAt C f d a fd
 con:∀f c,g.con f=some c→∃v,ConOK C f (g.need f) c v
 meth:∀f,Zbb f=true→∃fa,MethOK C f fa
 nob:∀p∈ZP,C.mg p.1=none
 nxt:∀{A:Around} {ρ:Rho} {st:St} {s:Shared} {v:V} {x:Value} {k:KE} {Q E:VP},ZaE v st k→HI C ρ st s→VR ρ s.heap v x→Room 0 A→KX C ρ s st.m k Q→wpAny (model C.prog C.w) A (call (.builtin "next") [x]) Q E s
end
section
variable{prog:Program}{w:World}{A:Around}{R:Result→Shared→Prop}{s:Shared}
theorem Y1{elt target iter:Expr}{ifs:List Expr}{scope:Scope}{pos:Pos}{it acc:Value}{env:Env}
  (h:wpAny (model prog w) A (pyNext it) (fun r s₁=>match r with
   |none=>R (.ok .next) s₁
   |some v=>wpAny (model prog w) A (letOwnedTupleGo target it v) (fun μ s₁'=>wpAny (model prog w) A (assign target env v) (fun μ s₂=>
     wpAny (model prog w) A (forIn ifs true fun c r=>if r=true then do let ok←isTrue c env (eval c env);pure (ForInStep.yield ok)else pure (ForInStep.yield r)) (fun ok s₃=>
      if ok=true then wpAny (model prog w) A (eval elt env) (fun x s₄=>
       wpAny (model prog w) A (call (.builtin "list.append") [acc,x]) (fun μ s₅=>codeAny (model prog w) A (.compLoop (.ListComp elt [⟨target,iter,ifs,0⟩] scope pos) 0 it acc env) R s₅) (notedBy (model prog w) A env fun e s'=>R (.error e) s') s₄) (notedBy (model prog w) A env fun e s'=>R (.error e) s') s₃
      else codeAny (model prog w) A (.compLoop (.ListComp elt [⟨target,iter,ifs,0⟩] scope pos) 0 it acc env) R s₃) (notedBy (model prog w) A env fun e s'=>R (.error e) s') s₂) (notedBy (model prog w) A env fun e s'=>R (.error e) s') s₁') (notedBy (model prog w) A env fun e s'=>R (.error e) s') s₁) (notedBy (model prog w) A env fun e s'=>R (.error e) s') s):
  codeAny (model prog w) A (.compLoop (.ListComp elt [⟨target,iter,ifs,0⟩] scope pos) 0 it acc env) R s:=by
 refine codeAny_of_tree ?_;show wpAny _ A ((compTurn (.ListComp elt [⟨target,iter,ifs,0⟩] scope pos) 0 it acc env).onRaise (fun x=>do noteFrame x env;theTreesLotGoes x)) _ _ s
 refine wpAny_noted ?_;rw[compTurn_list];refine Wb (wpAny_standAt (Wb (wpAny_mono h (fun r s₁ h₁=>?_) fun μ μ h'=>h')));cases r with
 |none=>exact Wp h₁
 |some v=>
  refine Wb (wpAny_mono h₁ (fun μ s₁' h₁=>?_) fun μ μ h'=>h');refine Wb (wpAny_mono h₁ (fun μ s₂ h₂=>Wb (wpAny_mono h₂ (fun ok s₃ h₃=>?_) fun μ μ h'=>h')) fun μ μ h'=>h');cases ok with
  |false=>exact Wp ⟨rfl,h₃⟩
  |true=>
   exact Wb (Wb (wpAny_mono h₃ (fun x s₄ h₄=>Wb (wpAny_mono h₄ (fun μ s₅ h₅=>Wp (Wp ⟨rfl,h₅⟩)) fun μ μ h'=>h')) fun μ μ h'=>h'))
theorem Zbh{env:Env}:∀ifs:List Expr,(forIn ifs false fun c r=>if r=true then do let ok←isTrue c env (eval c env);pure (ForInStep.yield ok)else pure (ForInStep.yield r):Sem Bool)=pure false
 | []=>rfl
 |c::r=>by
  rw[List.forIn_cons]
  skip
  exact Zbh r
end
section
variable{C:Ctx}{A:Around}{env:Env}{sc:Sc}{ρ ρ':Rho}{st:St}{s s':Shared}{rec:Rec}{n:Nat}
theorem Zio(S:Snd C rec n){k:Bool→St→Prop}{E:VP}:∀{es:List Expr} {st:St} {ρ:Rho} {s:Shared} {Q:Bool→Shared→Prop},Zg5 rec sc es st k→HI C ρ st s→FI C env sc ρ st.m s→okSc sc=true→Room n A→KB C ρ s st.m k Q→
  wpAny (model C.prog C.w) A (forIn es true fun c r=>if r=true then do let ok←isTrue c env (eval c env);pure (ForInStep.yield ok)else pure (ForInStep.yield r)) Q E s
 | [],st,ρ,s,Q,hb,H,F,hs,hA,K=>Wp (K _ st ρ s hb H (.refl _ _ _ _) rfl)
 |e::es,st,ρ,s,Q,hb,H,F,hs,hA,K=>by
  rw[List.forIn_cons]
  skip
  refine Wb (Wb (S.ts hb H F hs hA fun b st1 ρ1 s1 h1 H1 e1 m1=>Wp ?_));cases b with
  |true=>exact Zio S h1 H1 (F.after e1 m1) hs hA (m1▸K.after e1)
  |false=>
   show wpAny _ _ (forIn es false _) _ _ _;rw[Zbh];exact Wp (K _ st1 ρ1 s1 h1 H1 e1 m1)
theorem Zcf{v:V}{x:Value}{i:Nat}{a:Addr}{xs:List V}{Q E:VP}(e1:st.items i=some xs)(hlen:xs.length≤4096)(H:HI C ρ st s)(ha:Zi ρ i=some a)(r:VR ρ s.heap v x)
  (K:∀s',HI C ρ (st.put i (.list (xs++[v]))) s'→(∀X,Ext C X ρ s ρ s')→Q .none s'):wpAny (model C.prog C.w) A (call (.builtin "list.append") [.ref a,x]) Q E s:=by
 obtain⟨n',us,hl,rs,hen⟩:=H.list e1 ha;have hsz:us.toArray.size≤sizeLine:=by rw[List.size_toArray,←rs.len];exact Nat.le_trans hlen (by decide)
 refine wpAny_list_append_plain (items:=us.toArray) ⟨n',hl⟩ (fun h' hp hs=>?_) hsz;obtain⟨n2,hp⟩:=hp;have P:Plain (· =a) s {s with heap:=h'}:=Plain.but hs _;have hp':({s with heap:=h'}:Shared).heap.get? a=some (Zb (us++[x]) n2):=by simpa[Zb]using hp
 have ht:Ze s.heap h':=fun b ys e=>P.keep b _ e fun h=>by
  cases h;rw[hl]at e;exact absurd (congrArg Obj.cls (Option.some.inj e)) (by simp)
 obtain⟨_,H'⟩:=H.setList (Ye e1) hen hl P hp' ((rs.mono (.refl _) ht).append (.one (r.mono (.refl _) ht)));exact K _ H' fun X=>Ext.setList hen P ⟨_,hp'⟩ ht
set_option tactic.hygienic true in
theorem Zo7(S:Snd C rec n){elt target iter:Expr}{ifs:List Expr}{scope:Scope}{pos:Pos}{it:It}{a accA:Addr}{acc:Nat}{k:St→Prop}{R:Result→Shared→Prop}
  (hb:ZiU rec sc elt target ifs it acc st k)(H:HI C ρ st s)(F:FI C env sc ρ st.m s)(hs:okSc sc=true)(hA:Room n A)(Ap:Apart C env ρ a)(I:ItR ρ s.heap a it)(hacc:Zi ρ acc=some accA)
  (K:∀st' ρ' s',k st'→HI C ρ' st' s'→FI C env sc ρ' st'.m s'→Ext C (XI env sc a) ρ s ρ' s'→Zi ρ' acc=some accA→R (.ok .next) s'):
  codeAny (model C.prog C.w) A (.compLoop (.ListComp elt [⟨target,iter,ifs,0⟩] scope pos) 0 (.ref a) (.ref accA) env) R s:=by
 refine Y1 ?_;unfold ZiU at hb;have wk:∀{ρ ρ':Rho} {s s':Shared},Ext C (own env sc) ρ s ρ' s'→Ext C (XI env sc a) ρ s ρ' s':=fun e=>e.weaken fun μ h=> .inl h;split at hb
 ·exact noB hb
 ·rename_i hn;refine Jr hn H I Ap hA.2.2 fun x s1 P hx=>?_;subst hx;have ht:=Ze.at (P:=P) I;exact K _ _ _ hb (H.plain P (fun b h=>h▸⟨Ap.lo,Ap.out⟩) ht) (F.at P Ap ht) (Ext.plain P (fun μ h=> .inr (.inr h)) ht) hacc
 ·rename_i v it' hn;refine Jr hn H I Ap hA.2.2 fun x s1 P hx=>?_;obtain⟨y,rfl,ry,I1,go⟩:=hx;have ht:=Ze.at (P:=P) I;have e1:Ext C (XI env sc a) ρ s ρ s1:=Ext.plain P (fun μ h=> .inr (.inr h)) ht;refine go _ _ _ _ ?_;refine Zag S hb (H.plain P (fun b h=>h▸⟨Ap.lo,Ap.out⟩) ht) (F.at P Ap ht) hs hA (ry.mono (.refl _) ht) fun st2 ρ2 s2 h2 H2 F2 e2=>?_;refine Zio S h2 H2 F2 hs hA fun c st3 ρ3 s3 h3 H3 e3 m3=>?_;have e23:Ext C (own env sc) ρ s1 ρ3 s3:=e2.trans (e3.weaken fun μ h=>h.elim);have F3:=F2.after e3 m3;cases c with
  |false=>
   skip
   exact S.cl h3 H3 F3 hs hA (Ap.ext I1.live e23) (I1.ext Ap e23) (e23.main _ _ hacc) fun st4 ρ4 s4 h4 H4 F4 e4 a4=>K st4 ρ4 s4 h4 H4 F4 ((e1.trans (wk e23)).trans e4) a4
  |true=>
   skip
   refine S.ex h3 H3 F3 hs hA fun xv st4 ρ4 s4 x h4 H4 e4 r4 m4=>?_;split at h4
   ·rename_i xs hxs;split at h4
    ·rename_i hlen;have e24:Ext C (own env sc) ρ s1 ρ4 s4:=e23.trans (e4.weaken fun μ h=>h.elim);have a4:=e24.main _ _ hacc;refine Zcf hxs (Nat.le_of_ble_eq_true hlen) H4 a4 r4 fun s5 H5 e5=>?_;have e25:Ext C (own env sc) ρ s1 ρ4 s5:=e24.trans (e5 _);have F5:FI C env sc ρ4 (st4.put acc (.list (xs++[xv]))).m s5:=(F3.after e4 m4).ext (e5 _);exact S.cl h4 H5 F5 hs hA (Ap.ext I1.live e25) (I1.ext Ap e25) a4 fun st6 ρ6 s6 h6 H6 F6 e6 a6=>K st6 ρ6 s6 h6 H6 F6 ((e1.trans (wk e25)).trans e6) a6
    ·exact noB h4
   ·exact noB h4
end
theorem Y4:∀(names:List (Str×NameKind)) (n:Nat) (acc acc':List (Str×Addr)),cellsFrom n names (acc++acc')=cellsFrom n names acc++acc'
 | [],_,_,_=>rfl
 |(x,k)::r,n,acc,acc'=>by
  unfold cellsFrom;split
  ·exact Y4 r (n+1) ((x,n)::acc) acc'
  ·exact Y4 r n acc acc'
theorem ZcR(names:List (Str×NameKind))(n:Nat)(acc:List (Str×Addr)):cellsFrom n names acc=cellsFrom n names []++acc:=Y4 names n [] acc
theorem Y3:∀{names:List (Str×NameKind)} {n:Nat} {acc:List (Str×Addr)} {x:Str} {c:Addr},(x,c)∈cellsFrom n names acc→(x,NameKind.cell)∈names∨(x,c)∈acc
 | [],_,_,_,_,h=> .inr h
 |(y,k)::r,n,acc,x,c,h=>by
  unfold cellsFrom at h;split at h
  ·rename_i hk;rcases Y3 h with h|h
   ·exact .inl (List.mem_cons_of_mem _ h)
   ·rcases List.mem_cons.mp h with h|h
    ·have hk:k=NameKind.cell:=by simpa using hk
     obtain⟨rfl,_⟩:=Prod.mk.inj h;exact .inl (by refine(hk).symm▸?_;exact List.mem_cons_self)
    ·exact .inr h
  ·rcases Y3 h with h|h
   ·exact .inl (List.mem_cons_of_mem _ h)
   ·exact .inr h
theorem YU:∀{sc:Sc} {x:Str} {k:NameKind},Zcy sc=true→(x,k)∈sc→lookS x sc=some k
 |(y,j)::r,x,k,h,hm=>by
  have h:=Bool.and_eq_true_iff.mp h;rw[ZE];rcases List.mem_cons.mp hm with e|hm
  ·obtain⟨rfl,rfl⟩:=Prod.mk.inj e;rw[J3]
  ·have:=YU h.2 hm;cases q:strEq y x with
   |false=>exact this
   |true=>
    rw[Za.mp q,this]at h;exact ftB h.1
theorem YM{β:Type}:∀{l:List (Str×β)} {x:Str} {b:β},lookS x l=some b→(x,b)∈l
 |(y,j)::r,x,b,h=>by
  rw[ZE]at h;split at h
  ·rename_i q;cases h;rw[Za.mp q];exact List.mem_cons_self
  ·exact List.mem_cons_of_mem _ (YM h)
noncomputable def clo1(env:Env)(p:Str×NameKind)(acc:List (Str×Addr)):List (Str×Addr):=cond (notFr p.2) acc ((p.1,(env.cells.lookup p.1).getD 0)::acc)
noncomputable def Yz(env:Env):List (Str×NameKind)→List (Str×Addr)→List (Str×Addr)
 | [],acc=>acc
 |p::r,acc=>Yz env r (clo1 env p acc)
theorem ZcP{env:Env}{sc:Sc}{names:List (Str×NameKind)}(f:Str×NameKind→List (Str×Addr)→Sem (ForInStep (List (Str×Addr))))
  (hf:∀name kind cells,f (name,kind) cells=if(kind==NameKind.free)=true then do let c←cellOf env name;pure (ForInStep.yield ((name,c)::cells))else pure (ForInStep.yield cells))
  (hF:∀x,(lookS x sc=some .cell∨lookS x sc=some .free)→(env.cells.lookup x).isSome=true):
  ∀acc:List (Str×Addr),Zar sc names=true→(forIn names acc f:Sem (List (Str×Addr)))=pure (Yz env names acc):=by
 induction names with
 |nil=>exact fun μ μ=>rfl
 |cons p r ih=>
  intro acc h;obtain⟨x,k⟩:=p;have h:=Bool.and_eq_true_iff.mp h;rw[List.forIn_cons,hf];show _=pure (Yz env r (clo1 env (x,k) acc))
  delta clo1
  cases b:notFr k with
  |false=>
   have h1:=h.1;rw[b]at h1;refine(Option.isSome_iff_exists.mp (hF x (Zin h1))).elim fun c hc=>?_;have e1:cellOf env x=pure c:=by unfold cellOf;rw[hc]
   rw[if_pos (by rw[Zff b];rfl),e1,hc]
   exact ih _ h.2
  |true=>
   rw[if_neg fun e=>Zfg b (eq_of_beq e)];exact ih _ h.2
theorem ZcQ{env:Env}{x:Str}{names:List (Str×NameKind)}:∀{acc:List (Str×Addr)} {c:Addr},(Yz env names acc).lookup x=some c→
  ((x,NameKind.free)∈names∧c=(env.cells.lookup x).getD 0)∨acc.lookup x=some c:=by
 induction names with
 |nil=>exact fun h=> .inr h
 |cons p r ih=>
  intro acc c h;rcases ih (show(Yz env r (clo1 env p acc)).lookup x=some c from h)with h|h
  ·exact .inl ⟨.tail _ h.1,h.2⟩
  ·delta clo1 at h
   cases b:notFr p.2 with
   |true=>rw[b]at h;exact .inr h
   |false=>
    rw[b,cond_false,List.lookup_cons]at h;cases e:x==p.1 with
    |true=>
     rw[e]at h;have e:=eq_of_beq e;exact .inl ⟨List.mem_cons.mpr (.inl (by rw[e,←Zff b])),e▸(Option.some.inj h).symm⟩
    |false=>rw[e]at h;exact .inr h
theorem Zb7{env:Env}{x:Str}{names:List (Str×NameKind)}:∀{acc:List (Str×Addr)},((x,NameKind.free)∈names∨(acc.lookup x).isSome=true)→((Yz env names acc).lookup x).isSome=true:=by
 induction names with
 |nil=>exact fun h=>h.elim (fun h=>nomatch h) id
 |cons p r ih=>
  intro acc h;refine ih (acc:=clo1 env p acc) ?_
  delta clo1
  cases b:notFr p.2 with
  |true=>exact h.imp (fun h=>(List.mem_cons.mp h).elim (fun e=>absurd (e▸rfl) (Zfg b)) id) id
  |false=>
   rw[cond_false,List.lookup_cons];cases e:x==p.1 with
   |true=>exact .inr rfl
   |false=>exact h.imp (fun h=>(List.mem_cons.mp h).elim (fun g=>by rw[←g]at e;exact tfB ((beq_self_eq_true x).symm.trans e)) id) id
theorem Zaa{sc:Sc}{x:Str}{names:Sc}:Zar sc names=true→(x,NameKind.free)∈names→lookS x sc=some .cell∨lookS x sc=some .free:=by
 induction names with
 |nil=>exact fun μ h=>nomatch h
 |cons p r ih=>
  intro h hm;have h:=Bool.and_eq_true_iff.mp h;rcases List.mem_cons.mp hm with e|hm
  ·have h1:=h.1;rw[←e]at h1;exact Zin h1
  ·exact ih h.2 hm
theorem Zaj{q:Str→NameKind→Bool}{x:Str}:∀{l:List (Str×NameKind)},(l.map fun(n,k)=>if q n k=true then(n,NameKind.cell)else(n,k)).lookup x=(l.lookup x).map fun k=>if q x k=true then .cell else k
 | []=>rfl
 |(y,k)::r=>by
  have ih:=@Zaj q x r;show List.lookup x ((if q y k=true then(y,NameKind.cell)else(y,k))::_)=_
  by_cases hx:x=y
  ·subst hx;by_cases hq:q x k=true
   ·rw[if_pos hq];simp[List.lookup_cons,hq]
   ·rw[if_neg hq];simp[List.lookup_cons,hq]
  ·have hb:(x==y)=false:=by simpa using hx
   by_cases hq:q y k=true
   ·rw[if_pos hq,List.lookup_cons,hb,List.lookup_cons,hb];exact ih
   ·rw[if_neg hq,List.lookup_cons,hb,List.lookup_cons,hb];exact ih
theorem Zde{scope:Scope}{env cenv:Env}(h:cenv.scope=relabel scope env)(x:Str):
  cenv.kindOf x=(lookS x scope.names).map fun k=>if(k== .free&&env.scope.kind== .function&&env.kindOf x==some .cell)=true then .cell else k:=by
 unfold Env.kindOf;rw[h,Zv];exact Zaj (q:=fun n k=>k== .free&&env.scope.kind== .function&&env.kindOf n==some .cell)
theorem J6{β:Type}(x y:Str)(u:β)(r:List (Str×β)):lookS x ((y,u)::r)=match strEq y x with|true=>some u|false=>lookS x r:=ZE x y u r
set_option tactic.hygienic true in
theorem Zdt{sc:Sc}{x:Str}{v:V}{m:List (Str×V)}:lookS x (Yx sc m)=some v→lookS x sc=some .free∧lookS x m=some v:=by
 induction m with
 |nil=>exact fun h=>nnO h
 |cons p r ih=>
  obtain⟨y,u⟩:=p;intro h;have h:lookS x (cond (isFr (lookS y sc)) ((y,u)::Yx sc r) (Yx sc r))=some v:=h;rw[ZE];cases b:isFr (lookS y sc)with
  |true=>
   rw[b,cond_true,ZE]at h;cases q:strEq y x with
   |true=>rw[q]at h;exact⟨Za.mp q▸ZmZ b,h⟩
   |false=>rw[q]at h;exact ih h
  |false=>
   rw[b,cond_false]at h;have i:=ih h;cases q:strEq y x with
   |true=>rw[Za.mp q,i.1]at b;exact tfB b
   |false=>exact i
section
variable{C:Ctx}{A:Around}{env:Env}{sc:Sc}{ρ ρ':Rho}{st:St}{s s':Shared}{rec:Rec}{n:Nat}{m:List (Str×V)}{E:VP}
theorem Yu{sco:Scope}(h:YT sco=true):sco.kind= .function∧okSc sco.names=true∧Zcy sco.names=true:=by
 unfold YT at h;simp only[Bool.and_eq_true,decide_eq_true_eq]at h;exact⟨h.1.1,h.1.2,h.2⟩
theorem Zgd{M:Model}{scope:Scope}{clos:List (Str×Addr)}{globals builtins:Addr}{qual:Str}{Q:Env→Shared→Prop}
  (h:Q (newEnv scope s.heap.objs.size globals (cellsFrom (s.heap.objs.size+1) scope.names clos) qual none .none (some env) builtins) {s with heap:=pushCells (s.heap.push {cls:= .type "dict",data:= .dict #[]}) scope.names}):
  wpAny M A (newFunctionEnv scope globals clos [] qual none .none (some env) builtins) Q E s:=by
 simp only[newFunctionEnv,Option.isSome_some,if_true];refine Wb (wpAny_alloc ?_);refine Wb (wpAny_layCells _ (fun name kind cells=>by cases hkc:kind==NameKind.cell<;>simp[hkc]) _ _ _ _ ?_)
 rw[show({s with heap:=s.heap.push {cls:= .type "dict",data:= .dict #[]}}:Shared).heap.objs.size=s.heap.objs.size+1 from Heap.size_push ..]
 simp only[List.forIn_nil];exact Wb (Wp (Wp h))
theorem Zdg{h:Heap}(names:List (Str×NameKind)):(pushCells (h.push {cls:= .type "dict",data:= .dict #[]}) names).Ns h.objs.size (fun μ=>none):=
 (Heap.Ns.new h (.type "dict")).keeps (pushCells_keeps _ _)
theorem Zb6{scope:Scope}(H:HI C ρ st s)(F:FI C env sc ρ st.m s)(hok:YT scope=true)(hfree:Zar sc scope.names=true){a:Addr}(Ap:Apart C env ρ a)(hl:Live s.heap a):
  Plain nox s {s with heap:=pushCells (s.heap.push {cls:= .type "dict",data:= .dict #[]}) scope.names}∧
  FI C (compEnvC scope (cellsFrom (s.heap.objs.size+1) scope.names (Yz env scope.names [])) s.heap.objs.size env) scope.names ρ (Yx scope.names st.m) {s with heap:=pushCells (s.heap.push {cls:= .type "dict",data:= .dict #[]}) scope.names}∧
  Apart C (compEnvC scope (cellsFrom (s.heap.objs.size+1) scope.names (Yz env scope.names [])) s.heap.objs.size env) ρ a∧
  (∀b,own (compEnvC scope (cellsFrom (s.heap.objs.size+1) scope.names (Yz env scope.names [])) s.heap.objs.size env) scope.names b→s.heap.get? b=none):=by
 obtain⟨k1,k2,k3⟩:=Yu hok;have keep:∀b o,s.heap.get? b=some o→(pushCells (s.heap.push {cls:= .type "dict",data:= .dict #[]}) scope.names).get? b=some o:=fun b o e=>pushCells_keeps _ _ b o (Heap.get?_push_of_some _ e)
 have P:Plain nox s {s with heap:=pushCells (s.heap.push {cls:= .type "dict",data:= .dict #[]}) scope.names}:=⟨fun b o e μ=>keep b o e,rfl,rfl⟩
 have ok:=cellsFrom_ok scope.names (s.heap.push {cls:= .type "dict",data:= .dict #[]}) (s.heap.objs.size+1) [] ⟨fun μ μ hm=>(nomatch hm),List.Pairwise.nil⟩ (by rw[Heap.size_push];exact Nat.le_refl _)
 rw[Heap.size_push]at ok;have look:∀x c,(cellsFrom (s.heap.objs.size+1) scope.names (Yz env scope.names [])).lookup x=some c→
   ((x,c)∈cellsFrom (s.heap.objs.size+1) scope.names []∧lookS x scope.names=some .cell)∨(lookS x scope.names=some .free∧env.cells.lookup x=some c):=by
  intro x c h;rw[ZcR,List.lookup_append]at h;cases q:List.lookup x (cellsFrom (s.heap.objs.size+1) scope.names [])with
  |some d=>
   rw[q]at h;have e:d=c:=by simpa using h
   subst e;have hm:=mem_of_lookup q;rcases Y3 hm with h1|h1
   ·exact .inl ⟨hm,YU k3 h1⟩
   ·cases h1
  |none=>
   rw[q]at h;have h:List.lookup x (Yz env scope.names [])=some c:=by simpa using h
   rcases ZcQ h with⟨h1,h2⟩|h1
   ·refine .inr ⟨YU k3 h1,?_⟩;obtain⟨d,hd⟩:=Option.isSome_iff_exists.mp (F.has x (Zaa hfree h1));rw[hd]at h2 ⊢;rw[h2];rfl
   ·exact nnO h1
 have old:∀x c,env.cells.lookup x=some c→c<s.heap.objs.size:=fun x c h=>by
  obtain⟨_,_,_,v,o,ho,_⟩:=F.cell x c h;exact Heap.lt_size ho
 have hfresh:∀b,s.heap.objs.size≤b→s.heap.get? b=none:=fun b hb=>ZH hb;have ha:a<s.heap.objs.size:=by obtain⟨o,ho⟩:=hl;exact Heap.lt_size ho
 generalize hcells:cellsFrom (s.heap.objs.size+1) scope.names (Yz env scope.names [])=cells at*;have kinds:∀x,(compEnvC scope cells s.heap.objs.size env).kindOf x=(lookS x scope.names).map fun k=>if(k== .free&&env.scope.kind== .function&&env.kindOf x==some .cell)=true then .cell else k:=Zde rfl
 refine⟨P,⟨⟨k1,F.ok.glob,F.ok.blt,?_,?_,?_,?_⟩,H.freshLo (Nat.le_refl _),⟨_,Zdg _⟩,H.freshOut (Zw _),?_,?_,?_,?_⟩,⟨Ap.lo,Ap.out,?_,?_⟩,?_⟩
 ·intro x hx;rw[kinds,hx];rfl
 ·intro x hx;rw[kinds,hx];rfl
 ·intro x hx;rw[kinds,hx];show some _=_∨some _=_;by_cases hq:(NameKind.free== .free&&env.scope.kind== .function&&env.kindOf x==some .cell)=true
  ·exact .inl (congrArg some (if_pos hq))
  ·exact .inr (congrArg some (if_neg hq))
 ·intro x hx;rw[kinds,hx];rfl
 ·intro x c hc;rcases look x c hc with⟨hm,_⟩|⟨_,h2⟩
  ·obtain⟨h1,h2⟩:=ok.empty x c hm;exact⟨H.freshLo (Nat.le_of_succ_le ‹_›),H.freshOut (hfresh _ (Nat.le_of_succ_le ‹_›)),Nat.ne_of_gt h2,_,h1⟩
  ·obtain⟨h3,h4,h5,v,h6⟩:=F.cell x c h2;exact⟨h3,h4,Nat.ne_of_lt (old x c h2),v,h6.keeps keep⟩
 ·intro x y c hx hy;rcases look x c hx with⟨hm,_⟩|⟨_,h2⟩
  ·rcases look y c hy with⟨hm',_⟩|⟨_,h2'⟩
   ·exact name_of_addr ok.apart hm hm'
   ·exact absurd (old y c h2') (Nat.not_lt.mpr (Nat.le_of_succ_le (ok.empty x c hm).2))
  ·rcases look y c hy with⟨hm',_⟩|⟨_,h2'⟩
   ·exact absurd (old x c h2) (Nat.not_lt.mpr (Nat.le_of_succ_le (ok.empty y c hm').2))
   ·exact F.apart x y c h2 h2'
 ·intro x hx;show(cells.lookup x).isSome=true;refine(hcells)▸?_;rcases hx with hx|hx
  ·exact Zr (.inl (by rw[←Zv];exact hx))
  ·exact Zr (.inr (Zb7 (.inl (YM hx))))
 ·intro x v hv;obtain⟨h1,h2⟩:=Zdt hv;obtain⟨val,hva,r⟩:=F.vars x v h2;refine⟨val, .inr ⟨?_,?_⟩,r.mono (.refl _) P.tup0⟩
  ·rw[kinds,h1];show some _=_∨some _=_;by_cases hq:(NameKind.free== .free&&env.scope.kind== .function&&env.kindOf x==some .cell)=true
   ·exact .inl (congrArg some (if_pos hq))
   ·exact .inr (congrArg some (if_neg hq))
  ·have hcf:=Zaa hfree (YM h1);rcases hva with⟨hl,_⟩|⟨hk,c,hc,hi⟩
   ·exfalso;rcases hcf with h|h
    ·rw[F.ok.cel x h]at hl;cases hl
    ·rcases F.ok.fre x h with h|h<;>(rw[h]at hl;cases hl)
   ·refine⟨c,?_,hi.keeps keep⟩;show cells.lookup x=some c;obtain⟨d,hd⟩:=Option.isSome_iff_exists.mp (show(cells.lookup x).isSome=true by refine(hcells)▸?_;exact Zr (.inr (Zb7 (.inl (YM h1)))))
    rcases look x d hd with⟨_,h3⟩|⟨_,h3⟩
    ·rw[h1]at h3;cases h3
    ·rw[hd];rw[hc]at h3;exact h3.symm
 ·exact Nat.ne_of_lt ha
 ·intro x c hc;rcases look x c hc with⟨hm,_⟩|⟨_,h2⟩
  ·exact Nat.ne_of_gt (Nat.lt_of_lt_of_le ha (Nat.le_of_succ_le (ok.empty x c hm).2))
  ·exact Ap.cel x c h2
 ·rintro b (h|⟨x,hx,hc⟩)
  ·exact hfresh b (Nat.le_of_eq h.symm)
  ·rcases look x b hc with⟨hm,_⟩|⟨h1,_⟩
   ·exact hfresh b (by have:=(ok.empty x b hm).2;lia)
   ·rw[hx]at h1;cases h1
theorem Zkn{prog:Program}{w:World}{a:Addr}{it:It}{Q:VP}(I:ItR ρ s.heap a it)(h:Q (.ref a) s):wpAny (model prog w) A (pyIter (.ref a)) Q E s:=by
 cases it with
 |list r i=>obtain⟨l,_,hit⟩:=I;exact wpAny_pyIter_listiter hit h
 |range c n d=>exact wpAny_pyIter_rangeiter I h
 |chars cs b=>
  obtain⟨x,t,i,T,hT,hit,_⟩:=I;rcases hT with rfl|rfl
  ·exact wpAny_pyIter_striter_ascii hit h
  ·exact wpAny_pyIter_striter_wide hit h
theorem ZcO(S:Snd C rec n)(hno:∀p∈ZP,C.mg p.1=none){elt target iter:Expr}{ifs:List Expr}{scope:Scope}{pos p0:Pos}{use:Option (Value→Sem Unit)}{G:It→St→Prop}{Q:VP}
  (hb:iterA rec sc iter st G)(H:HI C ρ st s)(F:FI C env sc ρ st.m s)(hs:okSc sc=true)(hA:Room n A)(hok:YT scope=true)(hfree:Zar sc scope.names=true)
  (inner:∀it st2 ρ2 s2 s4 a accA cenv,G it st2→HI C ρ2 st2 s2→FI C env sc ρ2 st2.m s2→Ext C nox ρ s ρ2 s2→st2.m=st.m→ItR ρ2 s4.heap a it→s.heap.get? a=none→
   Plain nox s2 s4→s4.heap.get? accA=some (Zb [] 0)→s2.heap.get? accA=none→FI C cenv scope.names ρ2 (Yx scope.names st2.m) s4→Apart C cenv ρ2 a→Apart C cenv ρ2 accA→
   (∀b,own cenv scope.names b→s2.heap.get? b=none)→Live s2.heap a→Apart C env ρ2 accA→
   codeAny (model C.prog C.w) A (.compLoop (.ListComp elt [⟨target,iter,ifs,0⟩] scope pos) 0 (.ref a) (.ref accA) cenv) (compPost (model C.prog C.w) A E use Q (.ref accA) cenv.locals) s4):
  wpAny (model C.prog C.w) A (comprehension (.ListComp elt [⟨target,iter,ifs,0⟩] scope pos) scope env p0 (newList []) false (firstIter [⟨target,iter,ifs,0⟩] env) use) Q E s:=by
 obtain⟨k1,k2,k3⟩:=Yu hok;have hclos:closureFor scope env=pure (Yz env scope.names []):=by
  dsimp only[closureFor]
  rw[ZcP _ (fun μ μ μ=>rfl) F.has [] hfree]
  rfl
 obtain⟨_,hfold⟩:=ZcH (A:=A) (E:=E) (Q:=fun μ μ=>True) S hno hb H F hs hA fun μ μ μ μ μ μ μ μ μ μ μ μ μ=>trivial;refine wpAny_comprehension_free (g:=⟨target,iter,ifs,0⟩) (gs:=[]) rfl hfold hclos k1 (fun x hx hl=>by obtain⟨y,j⟩:=x;have hl:j= .local:=hl;subst hl;rw[←Zv];exact YU k3 hx) ?_
 refine(ZcH S hno hb H F hs hA fun it st2 ρ2 s2 a hG H2 F2 e2 m2 Ap I hn=>?_).1;have P3:Plain nox s2 {s2 with heap:=s2.heap.push (Zb [] 0)}:=Plain.push' _ s2 _;refine wpAny_newObj_type (Zgd ?_);have H3:=H2.plain0 P3;have e23:Ext C nox ρ2 s2 ρ2 {s2 with heap:=s2.heap.push (Zb [] 0)}:=Ext.plain0 P3;have F3:=F2.ext e23;have I3:ItR ρ2 (s2.heap.push (Zb [] 0)) a it:=I.mono (.refl _) fun o e=>Heap.get?_push_of_some _ e;obtain⟨P4,F4,A4,own4⟩:=Zb6 (scope:=scope) H3 F3 hok hfree Ap I3.live;have ApL:Apart C env ρ2 s2.heap.objs.size:=Apart.fresh (h':=s2.heap) (o:=Zb [] 0) H2 F2;obtain⟨_,_,AL4,_⟩:=Zb6 (scope:=scope) H3 F3 hok hfree ApL ⟨_,Heap.get?_push_size _ rfl⟩;have loop:codeAny (model C.prog C.w) A (.compLoop (.ListComp elt [⟨target,iter,ifs,0⟩] scope pos) 0 (.ref a) (.ref s2.heap.objs.size)
   (compEnvC scope (cellsFrom ((s2.heap.push (Zb [] 0)).objs.size+1) scope.names (Yz env scope.names [])) (s2.heap.push (Zb [] 0)).objs.size env))
   (compPost (model C.prog C.w) A E use Q (.ref s2.heap.objs.size) (s2.heap.push (Zb [] 0)).objs.size) {s2 with heap:=pushCells ((s2.heap.push (Zb [] 0)).push {cls:= .type "dict",data:= .dict #[]}) scope.names}:=by
  refine inner it st2 ρ2 s2 _ a s2.heap.objs.size _ hG H2 F2 e2 m2 ?_ hn (P3.trans P4) ?_ (Zw _) F4 A4 AL4 ?_ I.live ApL
  ·exact I3.mono (.refl _) fun o e=>P4.keep _ _ e fun h=>h
  ·exact P4.keep _ _ (Heap.get?_push_size _ rfl) fun h=>h
  ·intro b hb;have:=own4 b hb;cases q:s2.heap.get? b with
   |none=>rfl
   |some o=>
    have:=(Heap.get?_push_of_some (Zb [] 0) q).symm.trans this;cases this
 exact codeAny_compStart_list loop (Zkn (I3.mono (.refl _) fun o e=>P4.keep _ _ e fun h=>h) loop)
end
section
variable{C:Ctx}{A:Around}{env:Env}{sc:Sc}{ρ ρ':Rho}{st:St}{s s':Shared}{rec:Rec}{n:Nat}{m:List (Str×V)}{E:VP}
theorem FI.track{accA:Addr}(F:FI C env sc ρ m s)(hl:accA≠env.locals)(hc:∀x c,env.cells.lookup x=some c→c≠accA):FI C env sc (ρ++[⟨[accA],[]⟩]) m s:=by
 have hm:=ZS (ρ:=ρ) ⟨[accA],[]⟩;refine⟨F.ok,F.lo,F.ns,?_,?_,F.apart,F.has,?_⟩
 ·rw[Zs,List.mem_append]
  rintro(h|h)
  ·exact F.out h
  ·simp at h;exact hl h.symm
 ·intro x c h;obtain⟨h1,h2,h3,h4⟩:=F.cell x c h;refine⟨h1,?_,h3,h4⟩;rw[Zs,List.mem_append]
  rintro(h|h')
  ·exact h2 h
  ·simp at h';exact hc x c h h'
 ·intro x v h;obtain⟨val,h1,h2⟩:=F.vars x v h;exact⟨val,h1,h2.mono hm (.refl _)⟩
theorem Apart.track{accA a:Addr}(Ap:Apart C env ρ a)(h:a≠accA):Apart C env (ρ++[⟨[accA],[]⟩]) a:=
 ⟨Ap.lo,by rw[Zs,List.mem_append];exact fun q=>q.elim Ap.out fun q=>h (by simpa using q),Ap.loc,Ap.cel⟩
theorem ZbR(F:FI C env sc ρ m s){h':Heap}(hs:Heap.SameBut env.locals s.heap h'):Ze s.heap h':=fun b xs e=>by
 refine(hs.2 b ?_).trans e
 rintro rfl
 obtain⟨mm,o,_,_,ho,hd,_⟩:=F.ns;rw[ho]at e;cases e;cases hd
theorem Zd0(S:Snd C rec n){elt target iter:Expr}{ifs:List Expr}{scope:Scope}{pos:Pos}{k:KE}{R:Result→Shared→Prop}{it:It}{st2:St}{ρ2:Rho}{s2 s4:Shared}{a accA:Addr}{cenv:Env}
  (hG:rec.cl scope.names elt target ifs it st2.n {(st2.new (.list []))with m:=Yx scope.names st2.m} fun st'=>k (.ref st2.n) {st' with m:=st2.m})(hA:Room n A)(hok:YT scope=true)
  (H2:HI C ρ2 st2 s2)(e2:Ext C nox ρ s ρ2 s2)(I4:ItR ρ2 s4.heap a it)(hn:s.heap.get? a=none)(P4:Plain nox s2 s4)(hacc:s4.heap.get? accA=some (Zb [] 0))(hacn:s2.heap.get? accA=none)
  (F4:FI C cenv scope.names ρ2 (Yx scope.names st2.m) s4)(A4:Apart C cenv ρ2 a)(AL4:Apart C cenv ρ2 accA)(hown:∀b,own cenv scope.names b→s2.heap.get? b=none)(hla:Live s2.heap a)
  (K:∀st' ρ' s',k (.ref st2.n) {st' with m:=st2.m}→HI C ρ' st' s'→FI C cenv scope.names ρ' st'.m s'→Ext C nox ρ s ρ' s'→Zi ρ' st2.n=some accA→R (.ok .next) s'):
  codeAny (model C.prog C.w) A (.compLoop (.ListComp elt [⟨target,iter,ifs,0⟩] scope pos) 0 (.ref a) (.ref accA) cenv) R s4:=by
 obtain⟨k1,k2,k3⟩:=Yu hok;have hne:a≠accA:=by
  rintro rfl
  obtain⟨o,ho⟩:=hla;rw[hacn]at ho;exact nnO ho
 have Hn:=(H2.newList (vs:=[]) (xs:=[]) P4 hacn AL4.lo hacc .nil).m (Yx scope.names st2.m);have hmain:Zi (ρ2++[⟨[accA],[]⟩]) st2.n=some accA:=by refine(H2.len)▸?_;exact ZaF ρ2 accA [] []
 have e24:Ext C (XI cenv scope.names a) ρ2 s2 (ρ2++[⟨[accA],[]⟩]) s4:=Ext.newList P4 hacn;refine S.cl hG Hn (F4.track AL4.loc AL4.cel) k2 hA (A4.track hne) (I4.mono (ZS _) fun μ h=>h) hmain fun st' ρ' s' hk H' F' e' hm=>?_;have tot:Ext C (XI cenv scope.names a) ρ s ρ' s':=((e2.weaken fun μ h=>h.elim).trans e24).trans e';refine K st' ρ' s' hk H' F' (tot.forget fun b hb=>?_) hm;rcases hb with hb|rfl
 ·exact e2.none_back (hown b hb)
 ·exact hn
theorem ZiS(S:Snd C rec n)(hno:∀p∈ZP,C.mg p.1=none){elt target iter:Expr}{ifs:List Expr}{scope:Scope}{pos p0:Pos}{k:KE}{Q:VP}
  (hb:compA rec sc elt target iter ifs scope st k)(H:HI C ρ st s)(F:FI C env sc ρ st.m s)(hs:okSc sc=true)(hA:Room n A)(K:KX C ρ s st.m k Q):
  wpAny (model C.prog C.w) A (comprehension (.ListComp elt [⟨target,iter,ifs,0⟩] scope pos) scope env p0 (newList []) false (firstIter [⟨target,iter,ifs,0⟩] env)) Q E s:=by
 unfold compA at hb;split at hb
 ·rename_i hc;rw[Bool.and_eq_true]at hc;refine ZcO S hno hb H F hs hA hc.1 hc.2 fun it st2 ρ2 s2 s4 a accA cenv hG H2 F2 e2 m2 I4 hn P4 hacc hacn F4 A4 AL4 hown hla μ=>?_;refine Zd0 S (ρ:=ρ) (s:=s) hG hA hc.1 H2 e2 I4 hn P4 hacc hacn F4 A4 AL4 hown hla fun st' ρ' s' hk H' F' e' hm=>?_;obtain⟨mm,hns⟩:=F'.ns;refine⟨mm,hns,fun h' hs'=>?_⟩;have P5:Plain (· =cenv.locals) s' {s' with heap:=h'}:=Plain.but hs' _;have ht:=ZbR F' hs';have hf:s.heap.get? cenv.locals=none:=e2.none_back (hown _ (.inl rfl));have e5:Ext C (· =cenv.locals) ρ' s' ρ' {s' with heap:=h'}:=Ext.plain P5 (fun b h=> .inr h) ht;refine K _ {st' with m:=st2.m} ρ' _ _ hk ((H'.plain P5 (fun b h=>h▸⟨F'.lo,F'.out⟩) ht).m _) (((e'.weaken fun μ h=>h.elim).trans e5).forget fun b h=>h▸hf) (.ref _ _ hm) m2
 ·exact noB hb
theorem ZiR(S:Snd C rec n)(hno:∀p∈ZP,C.mg p.1=none){elt target iter:Expr}{ifs:List Expr}{scope:Scope}{pos p0:Pos}{k:KE}{kk:St→Prop}{u:Value→Sem Unit}{Q:Shared→Prop}
  (hb:compA rec sc elt target iter ifs scope st k)(H:HI C ρ st s)(F:FI C env sc ρ st.m s)(hs:okSc sc=true)(hA:Room n A)
  (KU:∀v st' ρ' s' x,k v st'→HI C ρ' st' s'→FI C env sc ρ' st'.m s'→Ext C nox ρ s ρ' s'→VR ρ' s'.heap v x→
   wpAny (model C.prog C.w) A (u x) (fun μ s''=>∃st'' ρ'',kk st''∧HI C ρ'' st'' s''∧FI C env sc ρ'' st''.m s''∧Ext C (own env sc) ρ' s' ρ'' s'') E s')
  (K:∀st' ρ' s',kk st'→HI C ρ' st' s'→FI C env sc ρ' st'.m s'→Ext C (own env sc) ρ s ρ' s'→Q s'):
  wpAny (model C.prog C.w) A (comprehension (.ListComp elt [⟨target,iter,ifs,0⟩] scope pos) scope env p0 (newList []) false (firstIter [⟨target,iter,ifs,0⟩] env) (some u)) (fun μ s'=>Q s') E s:=by
 unfold compA at hb;split at hb
 ·rename_i hc;rw[Bool.and_eq_true]at hc;refine ZcO S hno hb H F hs hA hc.1 hc.2 fun it st2 ρ2 s2 s4 a accA cenv hG H2 F2 e2 m2 I4 hn P4 hacc hacn F4 A4 AL4 hown hla μ=>?_;refine Zd0 S (ρ:=ρ) (s:=s) hG hA hc.1 H2 e2 I4 hn P4 hacc hacn F4 A4 AL4 hown hla fun st' ρ' s' hk H' F' e' hm=>?_;have hf2:s2.heap.get? cenv.locals=none:=hown _ (.inl rfl);have Fe:FI C env sc ρ' st2.m s':=F.after e' m2;have ne1:cenv.locals≠env.locals:=fun h=>by
   obtain⟨mm,o,_,_,ho,_⟩:=F2.ns;rw[←h,hf2]at ho;exact nnO ho
  have ne2:∀x c,env.cells.lookup x=some c→c≠cenv.locals:=fun x c hc h=>by
   obtain⟨_,_,_,v,o,ho,_⟩:=F2.cell x c hc;rw[h,hf2]at ho;exact nnO ho
  have ApL:Apart C env ρ' cenv.locals:=⟨F'.lo,F'.out,ne1,ne2⟩;obtain⟨mm,hns⟩:=F'.ns;have hlive:Live s'.heap cenv.locals:=by obtain⟨o,_,_,ho,_⟩:=hns;exact⟨o,ho⟩
  skip
  refine wpAny_mono (KU _ {st' with m:=st2.m} ρ' s' _ hk (H'.m _) Fe e' (.ref _ _ hm)) (fun μ s'' h=>?_) fun μ μ h=>h;obtain⟨st3,ρ3,h3,H3,F3,e3⟩:=h;refine⟨mm,ns_at hns fun o ho=>ApL.keep e3 ho,fun h' hs'=>?_⟩;have Ap3:=ApL.ext hlive e3;have hns3:s''.heap.Ns cenv.locals mm:=ns_at hns fun o ho=>ApL.keep e3 ho;have ht:Ze s''.heap h':=fun b xs e=>by
   refine(hs'.2 b ?_).trans e
   rintro rfl
   obtain⟨o,_,_,ho,hd,_⟩:=hns3;rw[ho]at e;cases e;cases hd
  have P5:Plain (· =cenv.locals) s'' {s'' with heap:=h'}:=Plain.but hs' _;have e5:Ext C (fun b=>own env sc b∨b=cenv.locals) ρ3 s'' ρ3 {s'' with heap:=h'}:=Ext.plain P5 (fun b h=> .inr (.inr h)) ht;have tot:Ext C (fun b=>own env sc b∨b=cenv.locals) ρ s ρ3 {s'' with heap:=h'}:=((e'.weaken fun μ h=>h.elim).trans (e3.weaken fun μ h=> .inl h)).trans e5;have hf:s.heap.get? cenv.locals=none:=e2.none_back hf2;refine K st3 ρ3 _ h3 (H3.plain P5 (fun b h=>h▸⟨Ap3.lo,Ap3.out⟩) ht) (F3.at P5 Ap3 ht) ?_;refine⟨tot.main,fun b h=>?_,fun b o h1 h2 h3 h4=>tot.kept b o h1 h2 h3 fun q=>?_,tot.tup,fun b o h1 h2=>tot.live b o h1 fun q=>?_,tot.gfresh,tot.gkept,tot.gsize⟩
  ·rcases tot.fresh b h with h|h|h|h
   ·exact .inl h
   ·exact .inr (.inl h)
   ·exact .inr (.inr h)
   ·exact .inr (.inl (h▸hf))
  ·rcases q with q|q
   ·exact h4 q
   ·rw[q,hf]at h1;exact nnO h1
  ·rcases q with q|q
   ·exact h2 q
   ·rw[q,hf]at h1;exact nnO h1
 ·exact noB hb
end
section
variable{C:Ctx}{A:Around}{env:Env}{sc:Sc}{ρ ρ':Rho}{st:St}{s s':Shared}{rec:Rec}{n:Nat}{m:List (Str×V)}{E:VP}{g:G}
theorem ZO{f x:Str}{α:Type}{a b:α}{r:Option α}(h:pickK f x a r=some b):(f=x∧a=b)∨r=some b:=by
 delta pickK at h
 cases e:strEq f x with
 |true=>rw[e]at h;exact .inl ⟨Za.mp e,Option.some.inj h⟩
 |false=>rw[e]at h;exact .inr h
structure BOK(C:Ctx)(f:Str)(v:Value):Prop where
 glob:C.mg f=some v∨(C.mg f=none∧bootBuiltins f=some v∧f≠"__name__")
 keep:∀{A:Around} {E:VP} (s:Shared),∀Q':Keeper→Shared→Prop,(∀k,Q' k s)→wpAny (model C.prog C.w) A (keeperOf v) Q' E s
 call:∀{A:Around} {ρ:Rho} {st:St} {s:Shared} {vs:List V} {xs:List Value} {k:KE} {Q E:VP},callB f vs st k→HI C ρ st s→VRs ρ s.heap vs xs→Room 0 A→KX C ρ s st.m k Q→wpAny (model C.prog C.w) A (call v xs) Q E s
theorem ZbS{ρ:Rho}(H:HI C ρ st s){i:Nat}{a:Addr}{xs:List V}(e:st.items i=some xs)(ha:Zi ρ i=some a):∃n us,s.heap.get? a=some (Zb us n)∧VRs ρ s.heap xs us∧us.length=xs.length:=by
 obtain⟨n,us,hl,r,_⟩:=H.list e ha;exact⟨n,us,hl,r,r.len.symm⟩
theorem Zd4{ρ:Rho}{h:Heap}{n:Nat}{vs:List V}{xs:List Value}{P:V→V→Prop}(e:Zaw vs n P)(r:VRs ρ h vs xs):∃v w x y,xs=[x,y]∧VR ρ h v x∧VR ρ h w y∧P v w:=by
 cases r with
 |nil=>exact noB e
 |cons v _ x _ p r=>
  obtain⟨w,y,rfl,q,e⟩:=ZJ e r;exact⟨v,w,x,y,rfl,p,q,e⟩
theorem ZdP{ρ:Rho}{h:Heap}{n:Nat}{v:V}{x:Value}{P:UInt64→Prop}(e:Zas v n P)(r:VR ρ h v x):∃i t,x= .float i t∧P i:=by
 cases v with
 |flt i=>exact⟨i,(Ys r).choose,(Ys r).choose_spec,e⟩
 |_=>exact noB e
noncomputable def KOK(C:Ctx)(kd:BK)(v:Value):Prop:=∀{A:Around} {ρ:Rho} {st:St} {s:Shared} {vs:List V} {xs:List Value} {k:KE} {Q E:VP},callK kd vs st k→HI C ρ st s→VRs ρ s.heap vs xs→Room 0 A→KX C ρ s st.m k Q→wpAny (model C.prog C.w) A (call v xs) Q E s
theorem ZmT:KOK C .len (.builtin "len"):=fun hb H r hA K=>by
 obtain⟨v,_,rfl,p,hb⟩:=ZJ hb r;cases v with
 |ref i=>
  obtain⟨a,rfl,ha⟩:=Z9 p;obtain⟨ys,e,hb⟩:=Zd hb;obtain⟨hlen,hb⟩:=gd_of hb;obtain⟨n,us,hl,r1,e1⟩:=ZbS H e ha;refine PySem.Calls.call_len_list (Zl hl) (by rw[List.size_toArray,e1];have:=Nat.le_of_ble_eq_true hlen;lia) ?_
  rw[List.size_toArray,e1];exact K.val H hb (.lit _ _) _
 |str i b=>
  obtain⟨t,rfl,hy⟩:=Z4 p;obtain⟨hlen,hb⟩:=gd_of hb;exact PyProof.Rows.len_str (by have:=Nat.le_of_ble_eq_true hlen;lia) (K.val H hb (.int _ _ _ fun μ=>Nat.lt_succ_of_le hy) _)
 |_=>exact noB hb
theorem ZmQ:KOK C .sum (.builtin "sum"):=fun hb H r hA K=>by
 obtain⟨_,_,rfl,p,hb⟩:=ZJ hb r;obtain⟨i,a,rfl,ha,hb⟩:=Yo hb p;obtain⟨ys,e,hb⟩:=Zd hb;obtain⟨⟨i,b⟩,hsum,hb⟩:=Zd hb;obtain⟨n,us,hl,r1,e1⟩:=ZbS H e ha;obtain⟨h1,ps,h2,h3⟩:=Zf1 hsum r1 (by decide)
 subst h2;refine sum_intListG (xs:=ps.toArray) hA.2.2 (by simpa[intItems]using Zl hl) fun h' tk t' hk=>?_
 have hi:preSum (numAt ps.toArray) ps.toArray.size=i:=by
  rw[preSum_eq,List.take_of_length_le (by simp),h3];simp
 refine(hi).symm▸?_;exact K.keeps H hb hk (.int _ _ _ fun μ=>h1)
theorem ZhG{a b:Int}{p q:Nat}{c:Prop}[Decidable c](hx:p≠0→a.natAbs<p)(hy:q≠0→b.natAbs<q)(hn:addB p q≠0):(if c then b else a).natAbs<addB p q:=by
 obtain⟨h1,h2,h3⟩:=ZnC hn;refine(h3).symm▸?_;have:=hx h1;have:=hy h2;split<;>omega
theorem ZmR:KOK C .min (.builtin "min"):=fun hb H r hA K=>by
 obtain⟨_,_,_,_,rfl,p1,p2,hb⟩:=Zd4 hb r;obtain⟨a,p,t,rfl,hx,hb⟩:=Zh hb p1;obtain⟨b,q,u,rfl,hy,hb⟩:=Zh hb p2;refine min_two_ints hA.2.2 fun h' tk hk=>K.keeps H hb hk ?_;have:=fun hn=>ZhG (c:=b<a) hx hy hn;by_cases hba:b<a
 ·rw[if_pos hba]at this ⊢;refine(if_pos hba).symm▸?_;exact .int _ _ _ this
 ·rw[if_neg hba]at this ⊢;refine(if_neg hba).symm▸?_;exact .int _ _ _ this
theorem ZmS:KOK C .max (.builtin "max"):=fun hb H r hA K=>by
 obtain⟨_,_,_,_,rfl,p1,p2,hb⟩:=Zd4 hb r;obtain⟨a,p,t,rfl,hx,hb⟩:=Zh hb p1;obtain⟨b,q,u,rfl,hy,hb⟩:=Zh hb p2;refine max_two_ints hA.2.2 fun h' tk hk=>K.keeps H hb hk ?_;have:=fun hn=>ZhG (c:=b > a) hx hy hn;by_cases hba:b > a
 ·rw[if_pos hba]at this ⊢;refine(if_pos hba).symm▸?_;exact .int _ _ _ this
 ·rw[if_neg hba]at this ⊢;refine(if_neg hba).symm▸?_;exact .int _ _ _ this
theorem ZmV:KOK C .abs (.builtin "abs"):=fun hb H r hA K=>by
 obtain⟨_,_,rfl,p,hb⟩:=ZJ hb r;obtain⟨_,_,rfl,hb⟩:=ZdP hb p;exact Flt.call_abs_float (K.val H hb (.flt _ _) _)
theorem ZmU:KOK C .int (.type "int"):=fun hb H r hA K=>by
 obtain⟨_,_,rfl,p,hb⟩:=ZJ hb r;obtain⟨x,_,rfl,hf,hb⟩:=ZdP hb p
 delta Float64.isFinite at hf
 delta JU at hb
 cases hd:Float64.decode x with
 |fin sg mm e=>rw[hd]at hb;exact call_int_float hd (K.val H hb (.lit _ _) _)
 |nan=>rw[hd]at hf;exact ftB hf
 |inf b=>rw[hd]at hf;exact ftB hf
theorem Zcc{f:Str}{T:String}{v:Value}{kd:BK}(hno:∀p∈ZP,C.mg p.1=none)(e:f=T)(hk:kindB f=some kd)(hm:(T,v)∈ZP)(O:KOK C kd v)(hv:∀{A:Around} {E:VP} (s:Shared),∀Q':Keeper→Shared→Prop,(∀k,Q' k s)→wpAny (model C.prog C.w) A (keeperOf v) Q' E s):∃v,BOK C f v:=
 ⟨v,bget (Za.mpr e) hno hm,hv,fun {A ρ st s vs xs k Q E} hb H r hA K=>by
  obtain⟨kd',e',hb⟩:=Zd hb;cases hk.symm.trans e';exact O hb H r hA K⟩
theorem ZkR(hno:∀p∈ZP,C.mg p.1=none){f:Str}(h:isB f=true):∃v,BOK C f v:=by
 obtain⟨kd,hk⟩:=Option.isSome_iff_exists.mp h;have hk0:=hk;rcases ZO hk with⟨e,rfl⟩|hk
 ·exact Zcc hno e hk0 (by simp[ZP]) ZmT fun μ=>Zg
 rcases ZO hk with⟨e,rfl⟩|hk
 ·exact Zcc hno e hk0 (by simp[ZP]) ZmQ fun μ=>Zg
 rcases ZO hk with⟨e,rfl⟩|hk
 ·exact Zcc hno e hk0 (by simp[ZP]) ZmR fun μ=>Zg
 rcases ZO hk with⟨e,rfl⟩|hk
 ·exact Zcc hno e hk0 (by simp[ZP]) ZmS fun μ=>Zg
 rcases ZO hk with⟨e,rfl⟩|hk
 ·exact Zcc hno e hk0 (by simp[ZP]) ZmV fun μ=>Zg
 rcases ZO hk with⟨e,rfl⟩|hk
 ·exact Zcc hno e hk0 (by simp[ZP]) ZmU fun μ=>YY
 exact nnO hk
theorem ZkS(S:Snd C rec n)(GK:GOK C g){f:Str}(hk:known g f=true):∃v,(C.mg f=some v∨(C.mg f=none∧bootBuiltins f=some v∧f≠"__name__"))∧
  (∀{A:Around} {E:VP} (s:Shared),OldK C.base s.heap→C.inv s.heap→∀Q':Keeper→Shared→Prop,(∀k,Q' k s)→wpAny (model C.prog C.w) A (keeperOf v) Q' E s)∧
  (∀{A:Around} {ρ:Rho} {st:St} {s:Shared} {vs:List V} {xs:List Value} {k:KE} {Q E:VP},callA g rec f vs st k→HI C ρ st s→VRs ρ s.heap vs xs→Room (n+1) A→KX C ρ s st.m k Q→wpAny (model C.prog C.w) A (call v xs) Q E s):=by
 cases hc:g.con f with
 |some c=>
  obtain⟨v,O⟩:=GK.con f c hc;refine⟨v, .inl O.glob,O.keep,fun {A ρ st s vs xs k Q E} hb H r hA K=>?_⟩;unfold callA at hb;rw[hc]at hb;obtain⟨hf,hb⟩:=gd_of hb;exact O.call hb H r (hA.less (Nat.le_trans (Nat.le_of_ble_eq_true hf) (Nat.le_trans S.fu (Nat.le_succ _)))) K
 |none=>
  cases hf:g.fn f with
  |some d=>
   obtain⟨a,fd,T⟩:=GK.fn f d hc hf;refine⟨.ref a, .inl T.glob,fun s hO hI=>?_,fun {A ρ st s vs xs k Q E} hb H r hA K=>?_⟩
   ·obtain⟨o,ho,hd⟩:=T.obj _ hO hI;exact ZZ ho hd
   ·unfold callA at hb;rw[hc,hf]at hb;obtain⟨m,hz,hb⟩:=Zd (show Zk _ _ _ from hb);obtain⟨hok,hb⟩:=gd_of hb;exact Zca S T hz hok hb H r hA K
  |none=>
   have hB:isB f=true:=by
    unfold known at hk;rw[hc,hf]at hk;simpa[isNo]using hk
   obtain⟨v,O⟩:=ZkR GK.nob hB;refine⟨v,O.glob,fun s μ μ=>O.keep s,fun {A ρ st s vs xs k Q E} hb H r hA K=>O.call ?_ H r (hA.less (Nat.zero_le _)) K⟩;unfold callA at hb;rw[hc,hf]at hb;exact hb
end
end Mine
end
noncomputable section
open PySem PyProof.Rows
open PySem.Builtin.Str (glued)
namespace Mine
set_option backward.match.sparseCases false
theorem Zmb{a b c d e:Nat}(h:a≤b)(i:c+d≤e):a+c+(d+1)≤b+e+1:=by lia
theorem Zed{ρ:Rho}{h:Heap}{vs:List V}:∀{us:List Value} {l:List Str} {n:Nat},Zg7 vs=some (l,n)→VRs ρ h vs us→
  ∃ps:List (Str×Tok),us=strValues ps∧ps.map (·.1)=l∧(l.map (·.length)).sum+l.length≤n:=by
 induction vs with
 |nil=>
  intro us l n e r;rw[ZM r,←(Prod.mk.inj (Option.some.inj e)).1];exact⟨[],rfl,rfl,Nat.zero_le _⟩
 |cons v vs ih=>
  intro us l n e r;refine exE2 (Zjw (show strOO v _=_ from e)) fun s b e=>(Option.map_eq_some_iff.mp e.2).elim fun q h=>exE2 (Zq r) fun x ys p=>?_;refine(ih (l:=q.1) (n:=q.2) h.1 p.2.2).elim fun ps i=>?_;have pr:=p.2.1;rw[e.1]at pr;refine(Z4 pr).elim fun t ht=>?_;rw[p.1,ht.1,←(Prod.mk.inj h.2).1,←(Prod.mk.inj h.2).2];refine⟨(s,t)::ps,by rw[i.1];rfl,congrArg (s:: ·) i.2.1,?_⟩
  rw[List.map_cons,List.sum_cons,List.length_cons];exact Zmb ht.2 i.2.2
theorem ZaG(sep:Str):∀l:List Str,(⟨(joinL sep.cps.toList l).toArray⟩:Str)=Txt.join sep l
 | []=>rfl
 | [x]=>by
  show(⟨x.cps.toList.toArray⟩:Str)=glued sep [x];rw[StrLaws.glued_eq_join];show _=x;simp
 |x::y::r=>by
  have ih:=ZaG sep (y::r);show(⟨(x.cps.toList++sep.cps.toList++joinL sep.cps.toList (y::r)).toArray⟩:Str)=glued sep (x::y::r);rw[StrLaws.glued_eq_join];show _=x++sep++Str.join sep (y::r);have ih2:Str.join sep (y::r)=⟨(joinL sep.cps.toList (y::r)).toArray⟩:=by
   rw[ih];show _=glued sep (y::r);rw[StrLaws.glued_eq_join]
  rw[ih2];obtain⟨xa⟩:=x;obtain⟨sa⟩:=sep;show _=(⟨(xa++sa)++_⟩:Str);congr 1;apply Array.toList_inj.mp;simp
theorem ZmX{sep:Str}{l:List Str}{n b:Nat}(h1:(l.map (·.length)).sum+l.length≤n)(h2:sep.length≤b)(h3:n*(b+1)≤4096):JoinOk sep l=true∧(Txt.join sep l).length≤n*(b+1):=by
 have hle:(l.map (·.length)).sum+l.length*sep.length≤n*(b+1):=by
  have:l.length*sep.length≤n*b:=Nat.mul_le_mul (by lia) h2
  rw[Nat.mul_add];lia
 constructor
 ·unfold JoinOk;rw[StrLaws.joinTotal,Bool.not_eq_true'];exact short24 (by lia)
 ·have:=StrLaws.join_length_le sep l;show(glued sep l).length≤_;rw[StrLaws.glued_eq_join];lia
section
variable{C:Ctx}{A:Around}{env:Env}{sc:Sc}{ρ ρ':Rho}{st:St}{s s':Shared}{rec:Rec}{n:Nat}{m:List (Str×V)}{E Q:VP}{g:G}{k:KE}
theorem ZfR{o:Expr}{name:Str}{M:Sem Value}(h:Zbd o=false):attributeBase o name env M=M:=by
 cases o<;>first|rfl|exact nomatch h
theorem ZK{o:Expr}{name:Str}{apos pos:Pos}{ov:Value}{args:List Expr}(hst:Z3 args=true)(hl:Nat.beq apos.endLine pos.line=true)(hn:Nat.blt args.length 20=true)
  (h:∀pl,wpAny (model C.prog C.w) A (getMethod ov name pl) (fun r s'=>wpAny (model C.prog C.w) A (callWith pos r.1 r.2 (backTo pos (starEach args env)) []) Q E s') E s):
  wpAny (model C.prog C.w) A (methodCall o name apos pos env ov (args.length+([]:List Keyword).length) (backTo pos (starEach args env)) (backToKw pos (keywordEach [] env))) Q E s:=by
 have hn:args.length<20:=Nat.le_of_ble_eq_true hn;have hall:(backTo pos (starEach args env)).all (!·.1)=true:=by
  have:=ZC (env:=env) (pos:=pos) hst;refine(List.all_eq_not_any_not).symm▸?_;simpa using this
 have hform:methodCallForm (args.length+([]:List Keyword).length) (backTo pos (starEach args env)) (backToKw pos (keywordEach [] env))=true:=by
  unfold methodCallForm;refine(hall).symm▸?_;have:args.length+([]:List Keyword).length+(if(backToKw pos (keywordEach [] env)).isEmpty=true then 0 else 1)<30:=by
   split<;>simp<;>lia
  rw[Bool.true_and,Bool.and_eq_true];exact⟨rfl,decide_eq_true this⟩
 have hpos:methodCallPos true o env apos pos=pure pos:=by
  unfold methodCallPos;have:apos.endLine=pos.line:=Nat.eq_of_beq_eq_true hl;simp[this]
 unfold methodCall;refine(hform).symm▸?_;refine Wb (wpAny_holding ?_);unfold calleeOf;refine(if_pos rfl).symm▸?_;refine wpAny_mono (h _) (fun r s' h'=>?_) fun μ μ x=>x;exact Wb (wpAny_of_eq hpos h')
structure BI(C:Ctx)(kd:RK)(f:Str)(T id:String):Prop where
 pa:PlainAttrs T
 slot:Slot T f id
 ty:typeOf (.builtin id)=pure (.type "method_descriptor")
 go:∀{A:Around} {ρ:Rho} {st:St} {s:Shared} {o:V} {x:Value} {vs:List V} {xs:List Value} {k:KE} {Q E:VP},methA kd o f vs st k→HI C ρ st s→VR ρ s.heap o x→VRs ρ s.heap vs xs→Room 0 A→KX C ρ s st.m k Q→wpAny (model C.prog C.w) A (call (.builtin id) (x::xs)) Q E s
theorem ZkV:BI C .upper "upper" "str" "str.upper":=⟨PySem.F.plainAttrs_str,PySem.F.slot_str_upper,PySem.F.type_str_upper,fun h H ro r μ K=>by
 obtain⟨_,_,t,rfl,ht,h⟩:=ZW h ro;obtain⟨rfl,h⟩:=ZcA h r;have hb:=Nat.le_trans ht (Nat.le_of_ble_eq_true (gd_of h).1);have h:=(gd_of h).2;rw[ZnQ]at h;exact call_gives PySem.F.slot_str_upper (typeIs_str _ _ _) PySem.F.entry_str_upper (PySem.F.args_str_upper_1 _) (gives_str_upper _ t (fit_upper (Nat.le_trans hb (by decide)))) ⟨fit_le (fit_upper (Nat.le_trans hb (by decide))),K.val H h (.str _ _ _ (Nat.le_refl _)) _⟩⟩
theorem ZkX:BI C .lower "lower" "str" "str.lower":=⟨PySem.F.plainAttrs_str,PySem.F.slot_str_lower,PySem.F.type_str_lower,fun h H ro r μ K=>by
 obtain⟨_,_,t,rfl,ht,h⟩:=ZW h ro;obtain⟨rfl,h⟩:=ZcA h r;have hb:=Nat.le_trans ht (Nat.le_of_ble_eq_true (gd_of h).1);have h:=(gd_of h).2;rw[ZoD]at h;exact call_gives PySem.F.slot_str_lower (typeIs_str _ _ _) PySem.F.entry_str_lower (PySem.F.args_str_lower_1 _) (gives_str_lower _ t (fit_lower (Nat.le_trans hb (by decide)))) ⟨fit_le (fit_lower (Nat.le_trans hb (by decide))),K.val H h (.str _ _ _ (Nat.le_refl _)) _⟩⟩
theorem Znv:BI C .find "find" "str" "str.find":=⟨PySem.F.plainAttrs_str,PySem.F.slot_str_find,PySem.F.type_str_find,fun h H ro r μ K=>by
 obtain⟨_,_,t,rfl,_,h⟩:=ZW h ro;obtain⟨_,_,rfl,p,h⟩:=ZJ h r;obtain⟨_,_,u,rfl,_,h⟩:=ZW h p;exact call_gives PySem.F.slot_str_find (typeIs_str _ _ _) PySem.F.entry_str_find (PySem.F.args_str_find_2 _ _) (gives_str_find _ _ t u) (K.val H h (.int _ _ _ fun μ=>Nat.lt_succ_self _) _)⟩
theorem ZkW:BI C .rfind "rfind" "str" "str.rfind":=⟨PySem.F.plainAttrs_str,PySem.F.slot_str_rfind,PySem.F.type_str_rfind,fun h H ro r μ K=>by
 obtain⟨_,_,t,rfl,_,h⟩:=ZW h ro;obtain⟨_,_,rfl,p,h⟩:=ZJ h r;obtain⟨_,_,u,rfl,_,h⟩:=ZW h p;exact call_gives PySem.F.slot_str_rfind (typeIs_str _ _ _) PySem.F.entry_str_rfind (PySem.F.args_str_rfind_2 _ _) (gives_str_rfind _ _ t u) (K.val H h (.int _ _ _ fun μ=>Nat.lt_succ_self _) _)⟩
theorem ZgA:BI C .startsw "startswith" "str" "str.startswith":=⟨PySem.F.plainAttrs_str,PySem.F.slot_str_startswith,PySem.F.type_str_startswith,fun h H ro r μ K=>by
 obtain⟨_,_,t,rfl,_,h⟩:=ZW h ro;obtain⟨_,_,rfl,p,h⟩:=ZJ h r;obtain⟨_,_,u,rfl,_,h⟩:=ZW h p;exact call_gives PySem.F.slot_str_startswith (typeIs_str _ _ _) PySem.F.entry_str_startswith (PySem.F.args_str_startswith_2 _ _) (gives_str_startswith _ _ t u) (K.same H h (.bool _))⟩
theorem Znu:BI C .join "join" "str" "str.join":=⟨PySem.F.plainAttrs_str,PySem.F.slot_str_join,PySem.F.type_str_join,fun h H ro r μ K=>by
 obtain⟨_,_,t,rfl,ht,h⟩:=ZW h ro;obtain⟨_,_,rfl,p,h⟩:=ZJ h r;obtain⟨_,za,rfl,hz,h⟩:=Yo h p;obtain⟨_,hw,h⟩:=Zd h;obtain⟨_,hl2,h⟩:=Zd h;obtain⟨hlid,h⟩:=gd_of h;obtain⟨n',us,hll,rs,_⟩:=H.list hw hz;obtain⟨ps,rfl,e,hsum⟩:=Zed hl2 rs;obtain⟨hok,hle⟩:=ZmX hsum ht (Nat.le_of_ble_eq_true hlid);rw[ZaG]at h;rw[←e]at h hok hle
 delta JoinOk at hok
 rw[Bool.not_eq_true']at hok;exact call_meets PySem.F.slot_str_join (typeIs_str _ _ _) PySem.F.entry_str_join (PySem.F.args_str_join_2 _ _) (meets_str_join_list _ t za ps hok) ⟨Zl hll,post_join ps ⟨joinFit_length hok,fun t' k'=>K.val H h (.str _ _ t' hle) k'⟩⟩⟩
theorem Zi4:BI C .append "append" "list" "list.append":=⟨PySem.F.plainAttrs_list,slot_list_append,type_list_append,fun h H ro r μ K=>by
 obtain⟨_,_,rfl,ha,h⟩:=Yo h ro;obtain⟨_,_,rfl,p,h⟩:=ZJ h r;obtain⟨_,hw,h⟩:=Zd h;obtain⟨hlen,h⟩:=gd_of h;exact Zcf hw (Nat.le_of_ble_eq_true hlen) H ha p fun s3 H3 e3=>K _ _ _ s3 _ h H3 (e3 nox) .none rfl⟩
theorem ZkY:BI C .index "index" "list" "list.index":=⟨PySem.F.plainAttrs_list,PySem.F.slot_list_index,PySem.F.type_list_index,fun {A ρ st s _ _ _ _ _ _ _} h H ro r hA K=>by
 obtain⟨_,a,rfl,ha,h⟩:=Yo h ro;obtain⟨v,y,rfl,q,h⟩:=ZJ h r;obtain⟨ws,hw,h⟩:=Zd h;obtain⟨j,hj,h⟩:=Zd h;obtain⟨hlen,h⟩:=gd_of h;have hlen:=Nat.le_of_ble_eq_true hlen;obtain⟨n2,us2,hl2,rs2,_⟩:=H.list hw ha;obtain⟨bs,hbs,hj⟩:=Option.bind_eq_some_iff.mp hj;obtain⟨i1,i2⟩:=ZdJ hj;obtain⟨ff,f1,f2⟩:=ZfC (A:=A.in1) H q (by have:=hA.2.1;show A.units+1<_;lia) hbs rs2
 have hjl:j<us2.length:=by
  have:j<bs.length:=(List.getElem?_eq_some_iff.mp i1).1;rw[←f2,List.length_map]at this;exact this
 have hul:us2.length=ws.length:=rs2.len.symm;have hat:∀(i:Nat) (hi:i<us2.length) (c:Bool),bs[i]? =some c→ff us2[i]=c:=fun i hi c hc=>by
  rw[←f2,List.getElem?_map,List.getElem?_eq_getElem hi]at hc;exact Option.some.inj hc
 exact call_meets PySem.F.slot_list_index ⟨_,hl2,rfl⟩ PySem.F.entry_list_index (PySem.F.args_list_index_2 _ _)
  (PySem.SeqAt.list_indexAt a us2.toArray n2 none #[] y ff j hjl (by lia) (hat j hjl true i1) fun i hi hlt=>hat i hi false (i2 i hlt)) ⟨hl2,fun z hz=>f1 z (by simpa using hz),K.val H h (.lit _ _) _⟩⟩
theorem ZjM{f:Str}{n:Nat}{kd:RK}(h:recvS f n=some kd):∃id,BI C kd f "str" id:=by
 cases n with
 |zero=>
  rcases ZO h with⟨rfl,rfl⟩|h
  ·exact⟨_,ZkV⟩
  rcases ZO h with⟨rfl,rfl⟩|h
  ·exact⟨_,ZkX⟩
  exact nnO h
 |succ n=>cases n with
  |succ n=>exact nnO h
  |zero=>
   rcases ZO h with⟨rfl,rfl⟩|h
   ·exact⟨_,Znv⟩
   rcases ZO h with⟨rfl,rfl⟩|h
   ·exact⟨_,ZkW⟩
   rcases ZO h with⟨rfl,rfl⟩|h
   ·exact⟨_,ZgA⟩
   rcases ZO h with⟨rfl,rfl⟩|h
   ·exact⟨_,Znu⟩
   exact nnO h
theorem ZjN{f:Str}{n:Nat}{kd:RK}(h:recvL f n=some kd):∃id,BI C kd f "list" id:=by
 cases n with
 |zero=>exact nnO h
 |succ n=>cases n with
  |succ n=>exact nnO h
  |zero=>
   rcases ZO h with⟨rfl,rfl⟩|h
   ·exact⟨_,Zi4⟩
   rcases ZO h with⟨rfl,rfl⟩|h
   ·exact⟨_,ZkY⟩
   exact nnO h
theorem ZlQ(S:Snd C rec n){kd:RK}{f:Str}{T id:String}{p:Pos}{args:List Expr}{ov:V}{x:Value}{pl:Sem Bool}(B:BI C kd f T id)(hT:s.TypeIs x T)(hd:∀a,x= .ref a→∃ob,s.heap.get? a=some ob∧ob.dict=none)(hst:Z3 args=true)
  (hb:evs rec sc args st fun vs st=>methA kd ov f vs st k)(H:HI C ρ st s)(F:FI C env sc ρ st.m s)(hs:okSc sc=true)(hA:Room n A)(r:VR ρ s.heap ov x)(K:KX C ρ s st.m k Q):
  wpAny (model C.prog C.w) A (getMethod x f pl) (fun r s'=>wpAny (model C.prog C.w) A (callWith p r.1 r.2 (backTo p (starEach args env)) []) Q E s') E s:=
 getMethod_builtin hT B.pa B.slot B.ty hd (Zf (ZC hst) (ZcJ S hb H F hs hA fun μ μ μ μ μ h2 H2 e2 r2 m2=>⟨Zg,B.go h2 H2 (r.after e2) r2 (hA.less (Nat.zero_le _)) (m2▸K.after e2)⟩))
theorem Zj5(S:Snd C rec n)(GK:GOK C g){o:Expr}{f:Str}{ap p:Pos}{args:List Expr}(hst:Z3 args=true)(hcall:Zbd o=false)(hl:Nat.beq ap.endLine p.line=true)(hn:Nat.blt args.length 20=true)
  (hb:rec.ex sc o st fun ov st=>Zk (Ze7 ov st f args.length) 228 fun kd=>evs rec sc args st fun vs st=>methA kd ov f vs st k)(H:HI C ρ st s)(F:FI C env sc ρ st.m s)(hs:okSc sc=true)(hA:Room n A)(K:KX C ρ s st.m k Q):
  wpAny (model C.prog C.w) A (eval (.Call (.Attribute o f ap) args [] p) env) Q E s:=by
 rw[arm_eval_Call,ZfR hcall];refine Wb (S.ex hb H F hs hA fun ov st1 ρ1 s1 x h1 H1 e1 r1 m1=>?_);have F1:=F.after e1 m1;have K1:=m1▸K.after e1;refine Wb (wpAny_standAt (ZK hst hl hn fun pl=>?_));obtain⟨kd,hk,h1⟩:=Zd h1;cases r1 with
 |str _ _ t ht=>
  obtain⟨_,B⟩:=ZjM (C:=C) hk;exact ZlQ S B (typeIs_str _ _ _) (fun μ e=>nomatch e) hst h1 H1 F1 hs hA (.str _ _ _ ht) K1
 |ref r a ha=>
  cases hobj:st1.obj r with
  |none=>delta Ze7 at hk;dsimp only at hk;rw[hobj]at hk;exact nnO hk
  |some ob=>
   delta Ze7 at hk;dsimp only at hk;rw[hobj]at hk
   cases ob with
   |list ys=>
    obtain⟨_,B⟩:=ZjN (C:=C) hk;have hit:st1.items r=some ys:=by delta St.items;rw[show st1.σ.get r=_ from hobj]
    obtain⟨_,_,hll,_,_⟩:=H1.list hit ha;exact ZlQ S B (Zl hll).typeIs (fun b e=>by cases e;exact⟨_,hll,rfl⟩) hst h1 H1 F1 hs hA (.ref _ _ ha) K1
   |page pg=>
    cases hpm:Zbb f with
    |false=>delta recvO at hk;dsimp only at hk;rw[hpm]at hk;exact nnO hk
    |true=>
     delta recvO at hk;dsimp only at hk;rw[hpm]at hk
     cases hk;obtain⟨fa,M⟩:=GK.meth f hpm;refine M.get H1 hobj ha (Zf (ZC hst) (ZcJ S h1 H1 F1 hs hA fun vs st2 ρ2 s2 xs h2 H2 e2 r2 m2=>⟨?_,M.call h2 H2 (e2.main _ _ ha) r2 (hA.less (Nat.zero_le _)) (m2▸K1.after e2)⟩));obtain⟨_,_,ho,hd⟩:=M.func _ H2.old H2.inv;exact ZZ ho hd
   |_=>exact nnO hk
 |_=>exact nnO hk
end
end Mine
end
noncomputable section
open PySem PyProof.Rows
namespace Mine
set_option backward.match.sparseCases false
theorem ZaC{α:Type}{l:List α}{a:α}(h:soleO l=some a):l=[a]:=by
 cases l with
 |nil=>exact nnO h
 |cons b r=>cases r<;>cases h;rfl
theorem Zm0{o:CmpOp}(h:ZlB o=true):o= .Eq:=by
 cases o with
 |Eq=>rfl
 |_=>exact ftB h
theorem ZiE{t:Expr}{q:Str×Str}(h:ZlL t=some q):∃p1 p2 p3,t= .Compare (.Name q.1 p1) [.Eq] [.Name q.2 p2] p3:=by
 cases t with
 |Compare l ops rs p=>
  refine(Option.bind_eq_some_iff.mp h).elim fun z h=>(YL h.1).elim fun p1 e1=>(Option.bind_eq_some_iff.mp h.2).elim fun o h=>?_;have e2:=ZaC h.1;refine(Option.bind_eq_some_iff.mp h.2).elim fun r h=>?_;have e3:=ZaC h.1;refine(Option.bind_eq_some_iff.mp h.2).elim fun c h=>(YL h.1).elim fun p2 e4=>?_;have hq:=Y9 h.2;rw[e1,e2,e3,e4,Zm0 hq.1,←Option.some.inj hq.2];exact⟨p1,p2,p,rfl⟩
 |_=>exact nnO h
theorem ZcL{a t:Expr}{x c:Str}{scp:Scope}(h:ZaJ a=some (t,x,c,scp)):
  ∃p1 p2 p3 p4 p5 p6,a= .ListComp (.Name x p1) [⟨.Name x p2,t,[.Compare (.Name x p3) [.Eq] [.Name c p4] p5],0⟩] scp p6:=by
 cases a with
 |ListComp elt gs sc p=>
  refine(Option.bind_eq_some_iff.mp h).elim fun y h=>(YL h.1).elim fun p1 e1=>(Option.bind_eq_some_iff.mp h.2).elim fun g h=>?_;have e2:=ZaC h.1;obtain⟨ta,it,ifs,ia⟩:=g;refine(Option.bind_eq_some_iff.mp h.2).elim fun z h=>(YL h.1).elim fun p2 e3=>(Option.bind_eq_some_iff.mp h.2).elim fun q h=>?_;have e4:=ZaC h.1;refine(Option.bind_eq_some_iff.mp h.2).elim fun w h=>exE3 (ZiE h.1) fun p3 p4 p5 e5=>?_;have hq:=Y9 h.2;have hc:=Bool.and_eq_true_iff.mp hq.1;have hc2:=Bool.and_eq_true_iff.mp hc.2;have e:=Prod.mk.inj (Option.some.inj hq.2);have e':=Prod.mk.inj e.2;have e'':=Prod.mk.inj e'.2;have e6:=Za.mp hc2.1;have e0:ia=0:=of_decide_eq_true hc.1;have e7:it=t:=e.1;have e8:z=w.1:=Za.mp hc2.2
  dsimp only at e3 e4
  rw[e1,e2,e3,e4,e5,e0,e7,←e8,←e6,e'.1,e''.1,e''.2];exact exI6 p1 p2 p3 p4 p5 p rfl
 |_=>exact nnO h
theorem Zdl{d:Str}{n:Nat}(h:Zeq d=some n):d=⟨#[n]⟩:=by
 obtain⟨⟨l⟩⟩:=d;cases l with
 |nil=>exact nnO h
 |cons c r=>cases r<;>cases h;rfl
theorem Zg8(c n:Nat):strEq ⟨#[c]⟩ ⟨#[n]⟩=Nat.beq c n:=by
 show Za6 [c] [n]=_;rw[Zdv];cases Nat.beq c n<;>rfl
theorem Zau(c n:Nat)(r:List Nat):Zm (c::r) n=(if Nat.beq c n=true then 1 else 0)+Zm r n:=by
 unfold Zm;rw[List.filter_cons];split
 ·rw[List.length_cons];lia
 ·lia
theorem Zb5(cs:List Nat)(n:Nat):Zm cs n≤cs.length:=List.length_filter_le _ _
theorem Zkq{sc:Sc}{x:Str}(h:isLoc sc x=true):lookS x sc=some .local:=eq_of_beq h
theorem Zil{sc:Sc}{x:Str}(h:Zim sc x=true):lookS x sc=some .free:=eq_of_beq h
theorem Zj0{sc:Sc}{x:Str}{st:St}{k:KE}(h:nameA sc x st k):∃v,lookS x st.m=some v∧k v st:=Zd (gd_of h).2
theorem Zbg{sc:Sc}{c:Str}(hc:lookS c sc=some .free):∀m:List (Str×V),lookS c (Yx sc m)=lookS c m
 | []=>rfl
 |(y,u)::r=>by
  unfold Yx;rw[J6];cases q:strEq y c with
  |true=>
   have e:=Za.mp q;subst e;rw[hc];show lookS y ((y,u)::_)=_;rw[J6,q]
  |false=>
   have ih:=Zbg hc r;cases lookS y sc with
   |none=>exact ih
   |some a=>cases a<;>first|exact ih|(show lookS c ((y,u)::_)=_;rw[J6,q];exact ih)
section
variable{C:Ctx}{A:Around}{env cenv:Env}{sc scn:Sc}{ρ ρ':Rho}{st:St}{s s':Shared}{rec:Rec}{n:Nat}{E Q:VP}{g:G}{k:KE}
theorem Zgv{t:Expr}{x c:Str}{p1 p2 p3 p4 p5 p6:Pos}{scp:Scope}{a accA:Addr}{d bd:Nat}{R:Result→Shared→Prop}(hx:lookS x scn=some .local)(hc:lookS c scn=some .free)(hs:okSc scn=true)(hA:Room (n+1) A)(hne:a≠accA):
  ∀(cs:List Nat) (b:Nat) (m:List (Str×V)) (s:Shared) (xs:List Value) (nn:Nat),HI C ρ st s→FI C cenv scn ρ m s→lookS c m=some (.str ⟨#[d]⟩ bd)→Apart C cenv ρ a→Apart C cenv ρ accA→ItR ρ s.heap a (.chars cs b)→
   s.heap.get? accA=some (Zb xs nn)→xs.length+cs.length≤4096→
   (∀s' xs' nn' m',HI C ρ st s'→FI C cenv scn ρ m' s'→Ext C (fun b=>own cenv scn b∨b=a∨b=accA) ρ s ρ s'→s'.heap.get? accA=some (Zb xs' nn')→xs'.length=xs.length+Zm cs d→R (.ok .next) s')→
   codeAny (model C.prog C.w) A (.compLoop (.ListComp (.Name x p1) [⟨.Name x p2,t,[.Compare (.Name x p3) [.Eq] [.Name c p4] p5],0⟩] scp p6) 0 (.ref a) (.ref accA) cenv) R s:=by
 have hcx:c≠x:=by rintro rfl;rw[hx]at hc;cases hc
 intro cs
 induction cs with
 |nil=>
  intro b m s xs nn H F hcm Ap AL I hacc hlen K;refine Y1 (Jr (r:=none) rfl H I Ap hA.2.2 fun x' s1 P hx'=>?_);cases hx';have ht:=Ze.at (P:=P) I;exact K s1 xs nn m (H.plain P (fun b h=>h▸⟨Ap.lo,Ap.out⟩) ht) (F.at P Ap ht) (Ext.plain P (fun μ h=> .inr (.inr (.inl h))) ht) (P.keep _ _ hacc fun h=>hne h.symm) (by simp[Zm])
 |cons c1 r ih=>
  intro b m s xs nn H F hcm Ap AL I hacc hlen K;refine Y1 (Jr (r:=some (.str ⟨#[c1]⟩ 1, .chars r b)) rfl H I Ap hA.2.2 fun x' s1 P hx'=>?_)
  obtain⟨y,rfl,ry,I1,go⟩:=hx';have ht:=Ze.at (P:=P) I;have e1:Ext C (fun b=>own cenv scn b∨b=a∨b=accA) ρ s ρ s1:=Ext.plain P (fun μ h=> .inr (.inr (.inl h))) ht;have H1:=H.plain P (fun b h=>h▸⟨Ap.lo,Ap.out⟩) ht;have F1:=F.at P Ap ht;have hacc1:s1.heap.get? accA=some (Zb xs nn):=P.keep _ _ hacc fun h=>hne h.symm;refine go _ _ _ _ (wpAny_assign_Name ?_);refine Z5 (st:={st with m:=m}) (k:=fun st'=>st'={st with m:=updS x (.str ⟨#[c1]⟩ 1) m}) (ZfN (.inl hx) rfl) (H1.m m) F1 (ry.mono (.refl _) ht) ?_
  rintro st' s2 rfl H2 F2 e2
  have I2:ItR ρ s2.heap a (.chars r b):=I1.ext Ap e2;have hacc2:s2.heap.get? accA=some (Zb xs nn):=AL.keep e2 hacc1;have lx:lookS x (updS x (.str ⟨#[c1]⟩ 1) m)=some (.str ⟨#[c1]⟩ 1):=by rw[ZX];simp
  have lc:lookS c (updS x (.str ⟨#[c1]⟩ 1) m)=some (.str ⟨#[d]⟩ bd):=by rw[ZX,if_neg hcx];exact hcm
  have hxs:(lookS x scn).isSome=true:=hx▸rfl;have hcs:(lookS c scn).isSome=true:=hc▸rfl;refine wpAny_tests_one (PySem.wpAny_isTrue_Compare1 ?_ rfl);refine Zeu F2 hs hxs lx fun v1 r1=>Zeu F2 hs hcs lc fun v2 r2=>?_;refine ZeL (ρ:=ρ) (st:={st with m:=updS x (.str ⟨#[c1]⟩ 1) m}) (k:=fun cc μ=>cc=Nat.beq c1 d) (op:= .Eq) (a:= .str ⟨#[c1]⟩ 1) (b:= .str ⟨#[d]⟩ bd) ?_ H2 r1 r2 ⟨by have:=hA.1;lia,by have:=hA.2.1;lia,hA.2.2⟩ ?_
  ·show strEq ⟨#[c1]⟩ ⟨#[d]⟩=_
   exact Zg8 c1 d
  ·rintro cc rfl
   refine PySem.wpAny_truthy_bool ?_;have F2':FI C cenv scn ρ (updS x (.str ⟨#[c1]⟩ 1) m) s2:=F2
   have e12:Ext C (fun b=>own cenv scn b∨b=a∨b=accA) ρ s ρ s2:=e1.trans (e2.weaken fun μ h=> .inl h);cases hq:Nat.beq c1 d with
   |false=>
    skip
    refine ih b _ s2 xs nn (H2.sst rfl rfl) F2' lc Ap AL I2 hacc2 (by simp at hlen;lia) fun s' xs' nn' m' h1 h2 h3 h4 h5=>K s' xs' nn' m' h1 h2 (e12.trans h3) h4 ?_
    rw[h5,Zau,hq];simp
   |true=>
    skip
    refine Zeu F2 hs hxs lx fun v3 r3=>?_;refine wpAny_list_append_plain (items:=xs.toArray) ⟨nn,hacc2⟩ (fun h' hp hs'=>?_) (by refine(List.size_toArray).symm▸?_;exact Nat.le_trans (Nat.le_trans (Nat.le_add_right _ _) hlen) (by decide))
    obtain⟨n3,hp⟩:=hp;have P3:Plain (· =accA) s2 {s2 with heap:=h'}:=Plain.but hs' _;have ht3:Ze s2.heap h':=fun b ys e=>P3.keep b _ e fun h=>by
     cases h;rw[hacc2]at e;exact absurd (congrArg Obj.cls (Option.some.inj e)) (by simp)
    have e3:Ext C (fun b=>own cenv scn b∨b=a∨b=accA) ρ s2 ρ {s2 with heap:=h'}:=Ext.plain P3 (fun μ h=> .inr (.inr (.inr h))) ht3;refine ih b _ _ (xs++[v3]) n3 ((H2.plain P3 (fun b h=>h▸⟨AL.lo,AL.out⟩) ht3).sst rfl rfl) (F2'.at P3 AL ht3) lc Ap AL (I2.mono (.refl _) fun o ho=>P3.keep _ _ ho hne) (by simpa[Zb]using hp) (by simp at hlen ⊢;lia)
     fun s' xs' nn' m' h1 h2 h3 h4 h5=>K s' xs' nn' m' h1 h2 ((e12.trans e3).trans h3) h4 ?_
    rw[h5,Zau,hq];simp;lia
theorem ZiL(S:Snd C rec n)(hno:∀p∈ZP,C.mg p.1=none){f:Str}{np pos:Pos}{a t:Expr}{x c:Str}{scp:Scope}(hg:Jh sc f=true)(hf:strEq f "len"=true)(hp:ZaJ a=some (t,x,c,scp))
  (hok:YT scp=true)(hfree:Zar sc scp.names=true)(hx:isLoc scp.names x=true)(hc:Zim scp.names c=true)
  (hb:iterA rec sc t st fun it st=>ZfI it 112 fun cs b=>gd (Nat.ble b 4096) 111 (nameA sc c st fun cv st=>Z0 cv 110 fun d μ=>Zk (Zeq d) 109 fun n=>k (.int (Zm cs n) (b+1)) st))(H:HI C ρ st s)(F:FI C env sc ρ st.m s)(hs:okSc sc=true)(hA:Room n A)(hA1:Room (n+1) A)(K:KX C ρ s st.m k Q):
  wpAny (model C.prog C.w) A (eval (.Call (.Name f np) [a] [] pos) env) Q E s:=by
 obtain⟨p1,p2,p3,p4,p5,p6,rfl⟩:=ZcL hp;have hx':=Zkq hx;have hc':=Zil hc;refine Call_Name rfl (Ju hg H F hs (bget hf hno (v:= .builtin "len") (by simp[ZP])) ?_)
 refine Zf rfl (Calls.spliced_cons ?_);rw[arm_eval_ListComp];refine ZcO S hno hb H F hs hA hok hfree fun it st2 ρ2 s2 s4 a accA cenv hG H2 F2 e2 m2 I4 hn P4 hacc hacn F4 A4 AL4 hown hla μ=>?_;cases it with
 |list r i=>exact noB hG
 |range c n d=>exact noB hG
 |chars cs b=>
 obtain⟨hlid,hG⟩:=gd_of hG;have hlid:=Nat.le_of_ble_eq_true hlid;obtain⟨_,_,_,_,_,_,_,hcb⟩:=id I4;have hcf:(lookS c sc=some .cell∨lookS c sc=some .free):=Zaa hfree (YM hc');obtain⟨cv,hcv,hK⟩:=Zj0 hG;cases cv with
 |str d bd=>
 obtain⟨dn,hd,hK⟩:=Zd hK;have hd:=Zdl hd;subst hd;have hne:a≠accA:=by
  rintro rfl
  obtain⟨o,ho⟩:=hla;rw[hacn]at ho;exact nnO ho
 have hfm:lookS c (Yx scp.names st2.m)=some (.str ⟨#[dn]⟩ bd):=by
  rw[Zbg hc'];exact hcv
 refine Zgv hx' hc' (Yu hok).2.1 hA1 hne cs b _ s4 [] 0 (H2.plain0 P4) F4 hfm A4 AL4 I4 hacc (by simp;omega) fun s' xs' nn' m' H' F' e' hacc' hlen'=>?_
 obtain⟨mm,hns⟩:=F'.ns;refine⟨mm,hns,fun h' hs'=>?_⟩;have P5:Plain (· =cenv.locals) s' {s' with heap:=h'}:=Plain.but hs' _;have ht:=ZbR F' hs';have hf0:s.heap.get? cenv.locals=none:=e2.none_back (hown _ (.inl rfl));have e5:Ext C (fun b=>own cenv scp.names b∨b=a∨b=accA) ρ2 s' ρ2 {s' with heap:=h'}:=Ext.plain P5 (fun b h=> .inr (.inl (.inl h))) ht;have tot:Ext C nox ρ s ρ2 {s' with heap:=h'}:=((((e2.weaken fun μ h=>h.elim).trans (Ext.plain0 P4)).trans e').trans e5).forget fun b hb=>by
  rcases hb with hb|rfl|rfl
  ·exact e2.none_back (hown b hb)
  ·exact hn
  ·exact e2.none_back hacn
 have hacc5:h'.get? accA=some (Zb xs' nn'):=P5.keep _ _ hacc' AL4.loc;have H5:HI C ρ2 st2 {s' with heap:=h'}:=H'.plain P5 (fun b h=>h▸⟨F'.lo,F'.out⟩) ht;refine Calls.spliced_nil ⟨Zg,?_⟩;refine PySem.Calls.call_len_list (items:=xs'.toArray) (Zl hacc5) ?_ ?_
 ·rw[List.size_toArray,hlen'];have:=Zb5 cs dn;simp;omega
 ·rw[List.size_toArray,hlen'];have e0:(([]:List Value).length+Zm cs dn)=Zm cs dn:=by simp
  refine(e0).symm▸?_;refine KX.val (m2▸K.after tot) H5 hK (.int _ _ _ fun μ=>?_) _;have:=Zb5 cs dn;omega
 |_=>exact noB hK
end
section
variable{C:Ctx}{A:Around}{env:Env}{sc:Sc}{ρ ρ':Rho}{st:St}{s s':Shared}{rec:Rec}{n:Nat}{E Q:VP}{g:G}{k:KE}
theorem Zfz(S:Snd C rec n){pos:Pos}{es:List Expr}:∀{st:St} {ρ:Rho} {s:Shared} {k:List V→St→Prop} {Q:List Value→Shared→Prop},evs rec sc es st k→HI C ρ st s→FI C env sc ρ st.m s→okSc sc=true→Room n A→
  (∀vs st' ρ' s' xs,k vs st'→HI C ρ' st' s'→Ext C nox ρ s ρ' s'→VRs ρ' s'.heap vs xs→st'.m=st.m→xs.length=es.length→Q xs s')→
  wpAny (model C.prog C.w) A (spliced (backTo pos (starEach es env))) Q E s:=by
 induction es with
 |nil=>intro st ρ s k Q hb H F hs hA K;exact Calls.spliced_nil (K [] st ρ s [] hb H (.refl _ _ _ _) .nil rfl rfl)
 |cons e es ih=>
  intro st ρ s k Q hb H F hs hA K;refine(JR hb).elim (fun h=>noB h.2) fun h=>?_;rw[J4 h.1];refine Calls.spliced_cons ?_;refine S.ex h.2 H F hs hA fun v st1 ρ1 s1 x h1 H1 e1 r1 m1=>?_;exact ih h1 H1 (F.after e1 m1) hs hA fun vs st2 ρ2 s2 xs h2 H2 e2 r2 m2 l2=>K (v::vs) st2 ρ2 s2 (x::xs) h2 H2 (e1.trans e2) (.cons _ _ _ _ (r1.after e2) r2) (m2.trans m1) (congrArg Nat.succ l2)
theorem JA{α:Type}{l:List α}{n:Nat}{P:α→Prop}(h:sole l n P):∃a,l=[a]∧P a:=by
 cases l with
 |nil=>exact noB h
 |cons a r=>cases r with
  |nil=>exact⟨a,rfl,h⟩
  |cons _ _=>exact noB h
theorem Zes{b:Bool}(h:(!b)=true):b=false:=by
 cases b with
 |false=>rfl
 |true=>exact ftB h
theorem ZiC(S:Snd C rec n){l r:Expr}{op:Operator}{p:Pos}(hb:exBin g rec sc l op r p st k)(H:HI C ρ st s)(F:FI C env sc ρ st.m s)(hs:okSc sc=true)(hA:Room n A)(hA0:Room 1 A)(K:KX C ρ s st.m k Q):wpAny (model C.prog C.w) A (eval (.BinOp l op r p) env) Q E s:=by
 rw[arm_eval_BinOp];refine Wb (S.ex hb H F hs hA fun a st1 ρ1 s1 x h1 H1 e1 r1 m1=>?_);refine Wb (wpAny_holding (S.ex h1 H1 (F.after e1 m1) hs hA fun b st2 ρ2 s2 y h2 H2 e2 r2 m2=>?_));exact Wb (wpAny_standAt (wpAny_operating (Znt h2 H2 (r1.after e2) r2 hA0 ((m2.trans m1)▸(K.after (e1.trans e2)).cut))))
theorem ZkI(S:Snd C rec n){x:Expr}{op:UnaryOp}{p:Pos}(hb:exUn rec sc op x st k)(H:HI C ρ st s)(F:FI C env sc ρ st.m s)(hs:okSc sc=true)(hA:Room n A)(K:KX C ρ s st.m k Q):wpAny (model C.prog C.w) A (eval (.UnaryOp op x p) env) Q E s:=by
 cases op with
 |USub=>
  rw[arm_eval_UnaryOp];refine Wb (S.ex hb H F hs hA fun v st1 ρ1 s1 x h1 H1 e1 r1 m1=>?_);obtain⟨_,_,_,rfl,hi,h1⟩:=Zh h1 r1;exact Wb (wpAny_standAt (wpAny_holding (PySem.P.neg_int (KX.val (m1▸K.after e1) H1 h1 (.int _ _ _ fun h=>by rw[Int.natAbs_neg];exact hi h) _))))
 |_=>exact noB hb
theorem ZkJ(S:Snd C rec n){t b o:Expr}{p:Pos}(hb:exIf rec sc t b o st k)(H:HI C ρ st s)(F:FI C env sc ρ st.m s)(hs:okSc sc=true)(hA:Room n A)(K:KX C ρ s st.m k Q):wpAny (model C.prog C.w) A (eval (.IfExp t b o p) env) Q E s:=by
 rw[arm_eval_IfExp];refine Wb (S.ts hb H F hs hA fun c st1 ρ1 s1 h1 H1 e1 m1=>?_);cases c<;>exact S.ex h1 H1 (F.after e1 m1) hs hA (m1▸K.after e1)
theorem Zgr(S:Snd C rec n){l r:Expr}{op:CmpOp}{p:Pos}(hb:ZlH g rec sc l op r p st k)(H:HI C ρ st s)(F:FI C env sc ρ st.m s)(hs:okSc sc=true)(hA:Room n A)(hA0:Room 1 A)(K:KX C ρ s st.m k Q):wpAny (model C.prog C.w) A (eval (.Compare l [op] [r] p) env) Q E s:=by
 obtain⟨hm,hb⟩:=gd_of hb;refine PySem.wpAny_Compare1 ?_ (Zes hm);refine S.ex hb H F hs hA fun a st1 ρ1 s1 x h1 H1 e1 r1 m1=>?_;refine S.ex h1 H1 (F.after e1 m1) hs hA fun b st2 ρ2 s2 y h2 H2 e2 r2 m2=>?_;exact ZeL h2 H2 (r1.after e2) r2 hA0 fun c hc=>KX.cut (K.after (e1.trans e2)) _ st2 ρ2 s2 _ hc H2 (.refl _ _ _ _) (.bool _) (m2.trans m1)
theorem Zgq(S:Snd C rec n){es:List Expr}{p:Pos}(hb:ZlG rec sc es st k)(H:HI C ρ st s)(F:FI C env sc ρ st.m s)(hs:okSc sc=true)(hA:Room n A)(K:KX C ρ s st.m k Q):wpAny (model C.prog C.w) A (eval (.List es p) env) Q E s:=by
 obtain⟨hl,hb⟩:=gd_of hb;exact wpAny_List_spliced (Zfz S hb H F hs hA fun vs st1 ρ1 s1 xs h1 H1 e1 r1 m1 l1=>⟨by rw[l1];exact Nat.le_trans (Nat.le_of_ble_eq_true hl) (by decide),KX.list (m1▸K.after e1) H1 h1 r1 _⟩)
theorem Ziy(S:Snd C rec n){es:List Expr}{x1:Nat}{p:Pos}(hb:exTup rec sc es st k)(H:HI C ρ st s)(F:FI C env sc ρ st.m s)(hs:okSc sc=true)(hA:Room n A)(K:KX C ρ s st.m k Q):wpAny (model C.prog C.w) A (eval (.Tuple es x1 p) env) Q E s:=by
 obtain⟨hl,hb⟩:=gd_of hb;exact wpAny_Tuple_spliced (Zfz S hb H F hs hA fun vs st1 ρ1 s1 xs h1 H1 e1 r1 m1 l1=>⟨by rw[l1];exact Nat.le_trans (Nat.le_of_ble_eq_true hl) (by decide),KX.tup (K.after e1) H1 m1 h1 r1⟩)
theorem Zf3{i lo:Expr}(h:Zhj i=some lo):∃p,i= .Slice (some lo) none none p:=by
 cases i with
 |Slice a b c p=>
  cases b<;>cases c<;>cases h
  exact⟨_,rfl⟩
 |_=>exact nnO h
theorem Ziz(S:Snd C rec n){o i:Expr}{p:Pos}(hb:exSub g rec sc o i p st k)(H:HI C ρ st s)(F:FI C env sc ρ st.m s)(hs:okSc sc=true)(hA:Room n A)(K:KX C ρ s st.m k Q):wpAny (model C.prog C.w) A (eval (.Subscript o i p) env) Q E s:=by
 delta exSub at hb
 cases hi:Jt i with
 |false=>
  rw[hi]at hb;refine Subscript_ ?_;refine S.ex hb H F hs hA fun ov st1 ρ1 s1 x h1 H1 e1 r1 m1=>?_;refine S.ex h1 H1 (F.after e1 m1) hs hA fun iv st2 ρ2 s2 y h2 H2 e2 r2 m2=>?_;exact(Zfn h2 H2 (r1.after e2) r2 ((m2.trans m1)▸(K.after (e1.trans e2)).cut)).2 o i hi
 |true=>
  rw[hi]at hb;obtain⟨lo,hl,hb⟩:=Zd (show Zk _ _ _ from hb);obtain⟨_,rfl⟩:=Zf3 hl;refine Subscript_ ?_;refine S.ex hb H F hs hA fun ov st1 ρ1 s1 x h1 H1 e1 r1 m1=>?_;refine wpAny_Slice ?_;rw[evalPart_some];refine S.ex h1 H1 (F.after e1 m1) hs hA fun lv st2 ρ2 s2 y h2 H2 e2 r2 m2=>?_;rw[evalPart_none];exact Wp (Wp (Znl h2 H2 (r1.after e2) r2 ((m2.trans m1)▸K.after (e1.trans e2))))
theorem ZeH(S:Snd C rec n)(GK:GOK C g){f:Str}{np p:Pos}{args:List Expr}(hb:ZiB g rec sc f args p st k)(H:HI C ρ st s)(F:FI C env sc ρ st.m s)(hs:okSc sc=true)(hA:Room n A)(hA1:Room (n+1) A)(K:KX C ρ s st.m k Q):wpAny (model C.prog C.w) A (eval (.Call (.Name f np) args [] p) env) Q E s:=by
 obtain⟨hc,hb⟩:=gd_of hb;rw[Bool.and_eq_true,Bool.and_eq_true,Bool.or_eq_true]at hc;obtain⟨⟨hg,hst⟩,hkn⟩:=hc;cases hf:strEq f "next" with
 |true=>
  rw[hf]at hb;refine YA S hg hst (bget hf GK.nob (v:= .builtin "next") (by decide)) (fun μ μ μ=>Zg) hb H F hs hA fun vs st1 ρ1 s1 xs h1 H1 e1 r1 m1=>?_
  obtain⟨_,_,rfl,p1,h1⟩:=ZJ h1 r1;exact GK.nxt h1 H1 p1 (hA.less (Nat.zero_le _)) (m1▸K.after e1)
 |false=>
  rw[hf]at hb;have hkn:known g f=true:=hkn.resolve_left fun h=>by rw[hf]at h;exact ftB h
  obtain⟨v,c1,c2,c3⟩:=ZkS S GK hkn;cases hlen:strEq f "len" with
  |false=>
   rw[hlen]at hb;exact YA S hg hst c1 (fun s'=>c2 s') hb H F hs hA fun vs st1 ρ1 s1 xs h1 H1 e1 r1 m1=>c3 h1 H1 r1 hA1 (m1▸(K.after e1).cut)
  |true=>
   rw[hlen]at hb;obtain⟨a,ea,hb1⟩:=JA (show sole _ _ _ from hb)
   clear hb
   subst ea;have hb:exLen g rec sc a p st k:=hb1
   clear hb1
   delta exLen at hb
   cases hp:ZaJ a with
   |some q=>
    rw[hp]at hb;obtain⟨t,x,c,scp⟩:=q;obtain⟨hq,hb⟩:=gd_of (show gd _ _ _ from hb);rw[Bool.and_eq_true,Bool.and_eq_true,Bool.and_eq_true]at hq;exact ZiL S GK.nob hg hlen hp hq.1.1.1 hq.1.1.2 hq.1.2 hq.2 hb H F hs hA hA1 K
   |none=>
    rw[hp]at hb;have hb':evs rec sc [a] st fun vs st=>Z8 vs 0 fun v=>callA g rec "len" [v] st (cutK g p k):=by
     cases a<;>first|exact hb|exact ftB hst
    refine YA S hg hst c1 (fun s'=>c2 s') hb' H F hs hA fun vs st1 ρ1 s1 xs h1 H1 e1 r1 m1=>?_;cases vs with
    |nil=>exact noB h1
    |cons v r=>cases r with
     |cons _ _=>exact noB h1
     |nil=>
      have h1:callA g rec "len" [v] st1 (cutK g p k):=h1;rw[←Za.mp hlen]at h1;exact c3 h1 H1 r1 hA1 (m1▸(K.after e1).cut)
theorem Zgp(S:Snd C rec n)(GK:GOK C g){e:Expr}(hb:ZiA g rec sc e st k)(H:HI C ρ st s)(F:FI C env sc ρ st.m s)(hs:okSc sc=true)(hA1:Room (n+1) A)(K:KX C ρ s st.m k Q):wpAny (model C.prog C.w) A (eval e env) Q E s:=by
 have hA:Room n A:=hA1.less (Nat.le_succ n);have hA0:Room 1 A:=hA1.less (Nat.le_add_left _ _);cases e with
 |Constant c u p=>exact ZiM hb H K
 |Name x p=>exact ZjZ hb H F hs K
 |BinOp l op r p=>exact ZiC S hb H F hs hA hA0 K
 |UnaryOp op x p=>exact ZkI S hb H F hs hA K
 |IfExp t b o p=>exact ZkJ S hb H F hs hA K
 |Compare l ops rs p=>
  obtain⟨op,rfl,hb⟩:=JA (show sole _ _ _ from hb);obtain⟨r,rfl,hb⟩:=JA hb;exact Zgr S hb H F hs hA hA0 K
 |BoolOp op es p=>
  rw[arm_eval_BoolOp];exact Zd2 S hb H F hs hA K
 |List es p=>exact Zgq S hb H F hs hA K
 |Tuple es u p=>exact Ziy S hb H F hs hA K
 |Subscript o i p=>exact Ziz S hb H F hs hA K
 |ListComp elt gs scope p=>
  obtain⟨⟨t,i,fs,a⟩,rfl,hb⟩:=JA (show sole _ _ _ from hb);obtain⟨h0,hb⟩:=gd_of hb;cases of_decide_eq_true h0;rw[arm_eval_ListComp];exact ZiS S GK.nob hb H F hs hA K
 |Call fe args kw p=>
  cases kw with
  |cons _ _=>exact noB hb
  |nil=>cases fe with
   |Name f np=>exact ZeH S GK hb H F hs hA hA1 K
   |Attribute o f ap=>
    obtain⟨hc,hb⟩:=gd_of (show gd _ _ _ from hb);rw[Bool.and_eq_true,Bool.and_eq_true,Bool.and_eq_true]at hc;exact Zj5 S GK hc.1.1.1 (Zes hc.1.1.2) hc.1.2 hc.2 hb H F hs hA K.cut
   |_=>exact noB hb
 |_=>exact noB hb
theorem Zix(S:Snd C rec n)(GK:GOK C g){elt:Expr}{gens:List Comprehension}{scope:Scope}{pos:Pos}{kk:St→Prop}{u:Value→Sem Unit}{Q:Shared→Prop}(hb:ZiA g rec sc (.ListComp elt gens scope pos) st k)
  (H:HI C ρ st s)(F:FI C env sc ρ st.m s)(hs:okSc sc=true)(hA1:Room (n+1) A)
  (KU:∀v st' ρ' s' x,k v st'→HI C ρ' st' s'→FI C env sc ρ' st'.m s'→Ext C nox ρ s ρ' s'→VR ρ' s'.heap v x→
   wpAny (model C.prog C.w) A (u x) (fun μ s''=>∃st'' ρ'',kk st''∧HI C ρ'' st'' s''∧FI C env sc ρ'' st''.m s''∧Ext C (own env sc) ρ' s' ρ'' s'') E s')
  (K:∀st' ρ' s',kk st'→HI C ρ' st' s'→FI C env sc ρ' st'.m s'→Ext C (own env sc) ρ s ρ' s'→Q s'):
  wpAny (model C.prog C.w) A (evalThenUse (.ListComp elt gens scope pos) env u) (fun μ s'=>Q s') E s:=by
 have hA:Room n A:=hA1.less (Nat.le_succ n);obtain⟨⟨t,i,fs,a⟩,rfl,hb⟩:=JA (show sole _ _ _ from hb);obtain⟨h0,hb⟩:=gd_of hb;cases of_decide_eq_true h0
 skip
 exact Wb (wpAny_mono (ZiR S GK.nob hb H F hs hA KU K) (fun μ s' h=>Wp h) fun μ μ h=>h)
theorem ZcZ(S:Snd C rec n){e:Expr}{k:Bool→St→Prop}{Q:Bool→Shared→Prop}(he:isTrue e env (eval e env)=(do let v←eval e env;standAt e.pos;holding [v] (truthy v)))(hb:tsAny rec sc e st k)(H:HI C ρ st s)(F:FI C env sc ρ st.m s)(hs:okSc sc=true)(hA:Room n A)(K:KB C ρ s st.m k Q):
  wpAny (model C.prog C.w) A (isTrue e env (eval e env)) Q E s:=by
 refine wpAny_isTrue_value ?_ he;refine S.ex hb H F hs hA fun v st1 ρ1 s1 x g1 H1 e1 r1 m1=>?_;exact Zc1 g1 r1 fun c hc=>K c st1 ρ1 s1 hc H1 e1 m1
theorem ZfX(S:Snd C rec n){l r:Expr}{op:CmpOp}{p:Pos}{k:Bool→St→Prop}{Q:Bool→Shared→Prop}(hb:Zlf g rec sc l op r p st k)(H:HI C ρ st s)(F:FI C env sc ρ st.m s)(hs:okSc sc=true)(hA:Room n A)(hA0:Room 1 A)(K:KB C ρ s st.m k Q):
  wpAny (model C.prog C.w) A (isTrue (.Compare l [op] [r] p) env (eval (.Compare l [op] [r] p) env)) Q E s:=by
 obtain⟨hm,hb⟩:=gd_of hb;refine PySem.wpAny_isTrue_Compare1 ?_ (Zes hm);refine S.ex hb H F hs hA fun a st1 ρ1 s1 x h1 H1 e1 r1 m1=>?_;refine S.ex h1 H1 (F.after e1 m1) hs hA fun b st2 ρ2 s2 y h2 H2 e2 r2 m2=>?_;exact ZeL h2 H2 (r1.after e2) r2 hA0 fun c hc=>PySem.wpAny_truthy_bool (KB.cut (K.after (e1.trans e2)) _ st2 ρ2 s2 hc H2 (.refl _ _ _ _) (m2.trans m1))
theorem ZfW(S:Snd C rec n){e:Expr}{k:Bool→St→Prop}{Q:Bool→Shared→Prop}(hb:Zle g rec sc e st k)(H:HI C ρ st s)(F:FI C env sc ρ st.m s)(hs:okSc sc=true)(hA1:Room (n+1) A)(K:KB C ρ s st.m k Q):
  wpAny (model C.prog C.w) A (isTrue e env (eval e env)) Q E s:=by
 have hA:Room n A:=hA1.less (Nat.le_succ n);have hA0:Room 1 A:=hA1.less (Nat.le_add_left _ _);cases e with
 |UnaryOp op x p=>
  cases op with
  |Not=>
   rw[arm_isTrue_UnaryOp];exact Wb (S.ts hb H F hs hA fun b st1 ρ1 s1 h1 H1 e1 m1=>Wp (K _ st1 ρ1 s1 h1 H1 e1 m1))
  |_=>exact ZcZ S rfl hb H F hs hA K
 |BoolOp op es p=>exact wpAny_isTrue_BoolOp (Zbo S hb H F hs hA K)
 |Compare l ops rs p=>
  obtain⟨op,rfl,hb⟩:=JA (show sole _ _ _ from hb);obtain⟨r,rfl,hb⟩:=JA hb;exact ZfX S hb H F hs hA hA0 K
 |IfExp t b o p=>exact noB hb
 |_=>exact ZcZ S rfl hb H F hs hA K
end
noncomputable def SoleR(e:Expr)(m:Sem Bool):Prop:=∃b,m=pure b∧(b=true→∃elt gens scope pos,e= .ListComp elt gens scope pos)
theorem soleN{e:Expr}{m:Sem Bool}(h:m=pure false):SoleR e m:=⟨false,h,fun h=>ftB h⟩
theorem soleL{m:Sem Bool}{b:Bool}{elt:Expr}{gens:List Comprehension}{scope:Scope}{pos:Pos}(h:m=pure b):SoleR (.ListComp elt gens scope pos) m:=⟨b,h,fun μ=>⟨_,_,_,_,rfl⟩⟩
theorem soleT{line:Nat}{env:Env}{elt:Expr}{gens:List Comprehension}{scope:Scope}{pos:Pos}(t:Expr):SoleR (.ListComp elt gens scope pos) (swapsWith (.ListComp elt gens scope pos) (some t) line env):=by
 cases t<;>exact soleL rfl
theorem Zhh{ts:List Expr}{e:Expr}{line:Nat}{env:Env}(h:ZbO ts e=true):SoleR e (swapsWithSole ts e line env):=by
 cases ts with
 |nil=>exact soleN rfl
 |cons t r=>
  cases r with
  |cons μ ν=>exact soleN rfl
  |nil=>
   have h:=(Bool.and_eq_true_iff.mp h).1;cases e with
   |ListComp elt gens scope pos=>exact soleT t
   |SetComp=>exact ftB h
   |DictComp=>exact ftB h
   |_=>exact soleN rfl
theorem Jc{f:Expr→Option Str}(hf:∀e x,f e=some x→∃p,e= .Name x p):∀{es:List Expr},(es.filterMap f).length=es.length→Jd es=some (es.filterMap f)
 | [],_=>rfl
 |e::r,h=>by
  have hle:=List.length_filterMap_le f r;cases q:f e with
  |none=>
   rw[List.filterMap_cons,q,List.length_cons]at h
   dsimp only at h
   lia
  |some x=>
   obtain⟨p,rfl⟩:=hf e x q;rw[List.filterMap_cons,q]at h ⊢;rw[List.length_cons,List.length_cons]at h;have h:=Nat.succ.inj h;show(Jd r).map (x:: ·)=_;refine(Jc hf h).symm▸?_;rfl
noncomputable def OkNs(ns:List Str):Prop:=∃a b,ns=[a,b]∧a≠b
theorem Znh{ns:List Str}(hl:ns.length=2)(h:ns.eraseDups.length=ns.length):OkNs ns:=by
 match ns,hl,h with
 | [a,b],_,h=>
  refine⟨a,b,rfl,?_⟩
  rintro rfl
  simp[List.eraseDups_cons]at h
noncomputable def swC1(es vs:List Expr)(env:Env):Bool:=!(es.length==2 || es.length==3) || vs.length !=es.length || env.blockKind != .function
theorem sw_ex(es vs:List Expr)(k k':Nat)(p p':Pos)(env:Env):∃(f:Expr→Option Str) (c2:Bool),(∀e x,f e=some x→∃p,e= .Name x p)∧swappedStores [.Tuple es k p] (.Tuple vs k' p') env=
   (if swC1 es vs env=true then pure none else if c2=true then pure none else if((es.filterMap f).length !=es.length || (es.filterMap f).eraseDups.length !=(es.filterMap f).length)=true then pure none
    else if vs.all (foldedForSure 8)=true then pure none else if vs.all (constantsAlone 8)=true then(unsupported (α:=PUnit) "assign.tuple-of-constant-expressions:order-of-the-stores" >>= fun μ=>pure (some (es.filterMap f)))else pure (some (es.filterMap f))):=by
  refine⟨_,_,?_,rfl⟩;intro e x hx;cases e with
  |Name y q=>
    dsimp only at hx
    rcases Decidable.em ((env.kindOf y==some .local&&q.line==(es.head?.map (·.pos.line)).getD 0)=true)with c|c
    · rw[if_pos c]at hx;exact Option.some.inj hx▸⟨q,rfl⟩
    · rw[if_neg c]at hx;exact nnO hx
  |_=>exact nnO hx
noncomputable def StoR(P:List Str→Prop)(m:Sem (Option (List Str))):Prop:=∃r,m=pure r∧∀ns,r=some ns→P ns
theorem stoN{P:List Str→Prop}{m:Sem (Option (List Str))}(h:m=pure none):StoR P m:=⟨_,h,fun μ h=>nnO h⟩
theorem Zn2{c1 c2 c3 c4 c5:Bool}{m:Sem (Option (List Str))}{names:List Str}{P:List Str→Prop}(h:c4=true∨c5=false)(hP:c1=false→c3=false→P names):
  StoR P (if c1=true then pure none else if c2=true then pure none else if c3=true then pure none else if c4=true then pure none else if c5=true then m else pure (some names)):=by
 cases c1 with
 |true=>exact stoN rfl
 |false=>
  cases c2 with
  |true=>exact stoN rfl
  |false=>
   cases c3 with
   |true=>exact stoN rfl
   |false=>
    cases c4 with
    |true=>exact stoN rfl
    |false=>
     cases c5 with
     |true=>exact h.elim (fun h=>ftB h) (fun h=>tfB h)
     |false=>exact⟨some names,rfl,fun μ e=>Option.some.inj e▸hP rfl rfl⟩
theorem ZnT{es vs:List Expr}{k k':Nat}{p p':Pos}{env:Env}(h:ZbO [.Tuple es k p] (.Tuple vs k' p')=true):StoR (fun ns=>Jd es=some ns∧OkNs ns) (swappedStores [.Tuple es k p] (.Tuple vs k' p') env):=by
 have h:=Bool.and_eq_true_iff.mp (Bool.and_eq_true_iff.mp h).2;refine(sw_ex es vs k k' p p' env).elim fun f h2=>h2.elim fun c2 h2=>?_;rw[h2.2];refine Zn2 ((Bool.or_eq_true_iff.mp h.1).imp id fun h=>by simpa using h) fun a b=>?_
 have b:=Bool.or_eq_false_iff.mp b;have b1:=bne_eq_false_iff_eq.mp b.1;refine⟨Jc h2.1 b1,Znh ?_ (bne_eq_false_iff_eq.mp b.2)⟩;have a:=(Bool.or_eq_false_iff.mp (Bool.or_eq_false_iff.mp a).1).1;have a:(es.length==2 || es.length==3)=true:=by rwa[Bool.not_eq_false']at a
 rcases Bool.or_eq_true_iff.mp a with a|a
 ·exact b1.trans (eq_of_beq a)
 ·rw[eq_of_beq a]at h;exact ftB h.2
theorem Zn0{es:List Expr}{k:Nat}{p:Pos}{e:Expr}{env:Env}(h:ZbO [.Tuple es k p] e=true):StoR (fun ns=>Jd es=some ns∧OkNs ns) (swappedStores [.Tuple es k p] e env):=by
 cases e with
 |Tuple vs k' p'=>exact ZnT h
 |_=>exact stoN rfl
theorem Zn1{t e:Expr}{env:Env}{P:List Str→Prop}(h:sw1 e t=true)(c:∀es k p,t= .Tuple es k p→StoR P (swappedStores [.Tuple es k p] e env)):StoR P (swappedStores [t] e env):=by
 cases t with
 |Tuple es k p=>exact c es k p rfl
 |List=>exact ftB h
 |_=>exact stoN rfl
theorem ZnZ{t u e:Expr}{r:List Expr}{env:Env}:swappedStores (t::u::r) e env=pure none:=by cases t<;>rfl
theorem Zef{ts:List Expr}{e:Expr}{env:Env}(h:ZbO ts e=true):StoR (fun ns=>∃es k p,ts=[.Tuple es k p]∧Jd es=some ns∧OkNs ns) (swappedStores ts e env):=by
 have h2:=(Bool.and_eq_true_iff.mp h).2;cases ts with
 |nil=>exact stoN rfl
 |cons t r=>
  cases r with
  |cons _ _=>exact stoN ZnZ
  |nil=>exact Zn1 h2 fun es k p g=>(Zn0 (g▸h)).imp fun r h=>⟨h.1,fun ns hn=>exI3 es k p ⟨g▸rfl,h.2 ns hn⟩⟩
theorem ZhA{a b:Str}{u v:V}(h:a≠b)(m:List (Str×V))(x:Str):lookS x (ZaP [a,b] [u,v] m)=lookS x (ZaP [b,a] [v,u] m):=by
 show lookS x (updS b v (updS a u m))=lookS x (updS a u (updS b v m));rw[ZX,ZX,ZX,ZX];by_cases h1:x=a
 ·subst h1;simp[h]
 ·simp[h1]
section
variable{C:Ctx}{A:Around}{env:Env}{sc:Sc}{ρ ρ':Rho}{st:St}{s s':Shared}{rec:Rec}{n:Nat}{E:VP}{g:G}
theorem ZfM:∀{ns:List Str},StoresOf (model C.prog C.w) env ns (ns.map fun n=>bindName env n)
 | []=> .nil
 |_::_=> .cons _ _ _ _ (fun μ μ μ μ μ h=>wpAny_bindName h) ZfM
theorem swap2{ns:List Str}{vs:List V}{xs:List Value}{Q:Unit→Shared→Prop}(hok:OkNs ns)(hl:ns.length=vs.length)(hi:∀x∈ns,isLCN sc x)(r:VRs ρ s.heap vs xs)(H:HI C ρ st s)(F:FI C env sc ρ st.m s)
  (K:∀m',(∀y,lookS y (ZaP ns vs st.m)=lookS y m')→∀s',HI C ρ {st with m:=m'} s'→FI C env sc ρ m' s'→Ext C (own env sc) ρ s ρ s'→Q () s'):wpAny (model C.prog C.w) A (assignInOrder (ns.reverse.map fun n=>bindName env n) xs.reverse) Q E s:=by
 refine exE2 hok fun a b g=>?_;rw[g.1]at hl hi K;rw[g.1]
 match vs,hl with
 | [u,v],_=>
  refine exE2 (Zq r) fun x ys p=>exE2 (Zq p.2.2) fun y zs q=>?_;rw[p.1,q.1,ZM q.2.2];exact Zdk (ns:=[b,a]) (vs:=[v,u]) ZfM (.cons _ _ _ _ q.2.1 (.cons _ _ _ _ p.2.1 .nil)) rfl (fun z hz=>hi z (List.mem_cons.mpr ((List.mem_cons.mp hz).elim (fun e=> .inr (List.mem_singleton.mpr e)) fun e=> .inl (List.mem_singleton.mp e)))) H F (K _ (ZhA g.2 _))
set_option tactic.hygienic true in
theorem ZgB(S:Snd C rec n){ts:List Expr}{e:Expr}{v:V}{x:Value}{k:St→Prop}{Q:Flow→Shared→Prop}(hsw:ZbO ts e=true)(hns:Z3 ts=true)(hb:asgsA rec sc ts v st k)(H:HI C ρ st s)(F:FI C env sc ρ st.m s)(hs:okSc sc=true)(hA:Room n A)(r:VR ρ s.heap v x)
  (K:KU C env sc ρ s k (fun μ=>Q .next)):wpAny (model C.prog C.w) A (do assignStores env x (←swappedStores ts e env) ((assignEach ts env).map (·.2))) Q E s:=by
 obtain⟨sw,e1,e2⟩:=Zef (env:=env) hsw;refine(e1).symm▸?_;refine Wb (Wp ?_);cases sw with
 |none=>exact Wb (ZfS S hb H F hs hA r (Q:=fun μ s'=>wpAny _ A (pure Flow.next) Q E s') (fun st' ρ' s' hk H' F' e'=>Wp (K st' ρ' s' hk H' F' e')) hns)
 |some ns=>
  refine exE3 (e2 ns rfl) fun es kk p g=>?_;rw[g.1]at hb;refine(Zd (show Zk _ _ _ from hb)).elim fun vs hu=>(Zbp hu.2).elim fun ns' q=>?_;have en:=Option.some.inj (q.1.symm.trans g.2.1);rw[en]at q;show wpAny _ A (do
   rule "assign.swapped-stores"
   let items←unpackItems x ns.length none
   assignInOrder (ns.reverse.map fun n=>bindName env n) items.reverse
   pure .next) Q E s
  refine Wb (wpAny_rule (Wb ?_));rw[(JL (C:=C) (env:=env) g.2.1).2.2.2];refine(Jb hu.1 H r hA.2.2 fun xs s1 P rs=>Wb ?_).1;have rs1:VRs ρ s1.heap vs xs:=rs.mono (.refl _) P.tup0;refine swap2 g.2.2 q.2.1 q.2.2.1 rs1 (H.plain0 P) (F.ext (Ext.plain0 P)) fun m' hm s' H' F' e'=>?_;exact Wp (K _ ρ s' q.2.2.2 (H'.m _) (F'.m' fun y w hy=>by rw[←hm];exact hy) ((Ext.plain0 P).trans e'))
theorem dropV{p q:Pos}{x:Value}{M:Program}{w:World}{Q:Flow→Shared→Prop}(h:Q .next s):wpAny (model M w) A (dropValue (.Set [] 0 q) p x) Q E s:=by
 cases x with
 |ref=>exact Wb (wpAny_standAt (Wb (wpAny_runValue (codeAny_builtin entry_let_go (show wpAny _ _ (ret .none) _ _ s from Wp (Wp h))))))
 |_=>exact Wp h
set_option smartUnfolding false in
theorem ZkL{e:Expr}{p:Pos}{x:Value}{M:Program}{w:World}{Q:Flow→Shared→Prop}(h:Q .next s):wpAny (model M w) A (dropValue e p x) Q E s:=by
 have h2:wpAny (model M w) A (dropValue (.Set [] 0 p) p x) Q E s:=dropV h;cases e with
 |Name=>exact Wp h
 |_=>exact h2
theorem Zgb(F:FI C env sc ρ st.m s):interactive env=false:=by
 unfold interactive;refine(F.ok.kind).symm▸?_;rfl
theorem wkE{ρ ρ':Rho}{s s':Shared}(e:Ext C nox ρ s ρ' s'):Ext C (own env sc) ρ s ρ' s':=e.weaken fun μ h=>h.elim
theorem ZjF(S:Snd C rec n){e:Expr}{p:Pos}{k:KS}{Q:Flow→Shared→Prop}(hb:sExp rec sc e st k)(H:HI C ρ st s)(F:FI C env sc ρ st.m s)(hs:okSc sc=true)(hA:Room n A)(K:KF C env sc ρ s k Q):
  wpAny (model C.prog C.w) A (exec (.Expr e p) env) Q E s:=by
 obtain⟨hc,hb⟩:=gd_of hb;have hsw:swapsWith e none p.line env=pure false:=by cases e<;>first|rfl|exact ftB hc
 rw[arm_exec_Expr,Zgb F,hsw];refine Wb (wpAny_standAt (Wb (Wp (Wb ?_))));exact S.ex hb H F hs hA fun v st1 ρ1 s1 x h1 H1 e1 r1 m1=>ZkL (K .nxt _ st1 ρ1 s1 h1 H1 (F.after e1 m1) (wkE e1) .nxt)
theorem ZjE(S:Snd C rec n){e:Option Expr}{p:Pos}{k:KS}{Q:Flow→Shared→Prop}(hb:sRet rec sc e st k)(H:HI C ρ st s)(F:FI C env sc ρ st.m s)(hs:okSc sc=true)(hA:Room n A)(K:KF C env sc ρ s k Q):
  wpAny (model C.prog C.w) A (exec (.Return e p) env) Q E s:=by
 rw[arm_exec_Return];refine Wb (wpAny_standAt ?_);cases e with
 |none=>exact Wp (K _ _ st ρ s hb H F (.refl _ _ _ _) (.ret _ _ .none))
 |some e=>exact Wb (S.ex hb H F hs hA fun v st1 ρ1 s1 x h1 H1 e1 r1 m1=>Wp (K _ _ st1 ρ1 s1 h1 H1 (F.after e1 m1) (wkE e1) (.ret _ _ r1)))
theorem ZjG(S:Snd C rec n){ts:List Expr}{e:Expr}{p:Pos}{k:KS}{Q:Flow→Shared→Prop}(hb:sAsg rec sc ts e st k)(H:HI C ρ st s)(F:FI C env sc ρ st.m s)(hs:okSc sc=true)(hA:Room n A)(K:KF C env sc ρ s k Q):
  wpAny (model C.prog C.w) A (exec (.Assign ts e p) env) Q E s:=by
 obtain⟨hc,hb⟩:=gd_of hb;rw[Bool.and_eq_true]at hc;obtain⟨b,hsole,hb'⟩:=Zhh (line:=p.line) (env:=env) hc.1;rw[arm_exec_Assign,hsole];refine Wb (wpAny_standAt (Wb (Wp ?_)));cases b with
 |true=>
  obtain⟨elt,gens,scope,pos,rfl⟩:=hb' rfl;rw[if_pos rfl];refine Wb (S.us (kk:=fun st=>k .nxt st) hb H F hs hA (fun v st1 ρ1 s1 x h1 H1 F1 e1 r1=>?_) fun st2 ρ2 s2 h2 H2 F2 e2=>Wp (K _ _ st2 ρ2 s2 h2 H2 F2 e2 .nxt));exact ZfS S h1 H1 F1 hs hA r1 (fun st2 ρ2 s2 h2 H2 F2 e2=>⟨st2,ρ2,h2,H2,F2,e2⟩) hc.2
 |false=>
  rw[if_neg (by decide)]
  refine Wb (S.ex hb H F hs hA fun v st1 ρ1 s1 x h1 H1 e1 r1 m1=>?_);exact ZgB S hc.1 hc.2 h1 H1 (F.after e1 m1) hs hA r1 fun st2 ρ2 s2 h2 H2 F2 e2=>K _ _ st2 ρ2 s2 h2 H2 F2 ((wkE e1).trans e2) .nxt
theorem Zhv(S:Snd C rec n){x:Str}{np p:Pos}{op:Operator}{e:Expr}{k:KS}{Q:Flow→Shared→Prop}(hb:sAugN g rec sc x op e p st k)(H:HI C ρ st s)(F:FI C env sc ρ st.m s)(hs:okSc sc=true)(hA:Room n A)(K:KF C env sc ρ s k Q):
  wpAny (model C.prog C.w) A (exec (.AugAssign (.Name x np) op e p) env) Q E s:=by
 refine PySem.wpAny_AugAssign_Name (Zan hb H F hs fun a st1 ρ1 s1 xv h1 H1 e1 r1 m1=>?_);refine S.ex h1 H1 (F.after e1 m1) hs hA fun b st2 ρ2 s2 y h2 H2 e2 r2 m2=>?_;refine ZfO h2 H2 (r1.after e2) r2 (KX.cut fun v st3 ρ3 s3 z h3 H3 e3 r3 m3=>?_);have e13:=(e1.trans e2).trans e3;exact Z5 h3 H3 (F.after e13 (m3.trans (m2.trans m1))) r3 fun st4 s4 h4 H4 F4 e4=>K _ _ st4 ρ3 s4 h4 H4 F4 ((wkE e13).trans e4) .nxt
theorem Zhu(S:Snd C rec n){o i:Expr}{p1 p:Pos}{op:Operator}{e:Expr}{k:KS}{Q:Flow→Shared→Prop}(hb:sAugS g rec sc o i op e p st k)(H:HI C ρ st s)(F:FI C env sc ρ st.m s)(hs:okSc sc=true)(hA:Room n A)(K:KF C env sc ρ s k Q):
  wpAny (model C.prog C.w) A (exec (.AugAssign (.Subscript o i p1) op e p) env) Q E s:=by
 obtain⟨hi,hb⟩:=gd_of hb;refine wpAny_AugAssign_Subscript_any ?_ (fun ov iv new=>by cases i<;>first|rfl|exact ftB hi)
 refine S.ex hb H F hs hA fun ov st1 ρ1 s1 x h1 H1 e1 r1 m1=>?_;refine S.ex h1 H1 (F.after e1 m1) hs hA fun iv st2 ρ2 s2 y h2 H2 e2 r2 m2=>?_;refine(Zfn h2 H2 (r1.after e2) r2 fun a st3 ρ3 s3 z h3 H3 e3 r3 m3=>?_).1;have e13:=(e1.trans e2).trans e3;refine S.ex h3 H3 (F.after e13 (m3.trans (m2.trans m1))) hs hA fun b st4 ρ4 s4 u h4 H4 e4 r4 m4=>?_;refine ZfO h4 H4 (r3.after e4) r4 (KX.cut fun v st5 ρ5 s5 q h5 H5 e5 r5 m5=>?_);have e35:=(e3.trans e4).trans e5;refine Zhm h5 H5 ((r1.after e2).after e35) (r2.after e35) r5 fun st6 s6 h6 H6 e6 m6=>?_;have e16:=((e1.trans e2).trans e35).trans (e6 nox);exact K _ _ st6 ρ5 s6 h6 H6 (F.after e16 (m6.trans (m5.trans (m4.trans (m3.trans (m2.trans m1)))))) (wkE e16) .nxt
theorem Zmj(S:Snd C rec n){t:Expr}{b o:List Stmt}{p:Pos}{k:KS}{Q:Flow→Shared→Prop}(hb:sIf rec sc t b o st k)(H:HI C ρ st s)(F:FI C env sc ρ st.m s)(hs:okSc sc=true)(hA:Room n A)(K:KF C env sc ρ s k Q):
  wpAny (model C.prog C.w) A (exec (.If t b o p) env) Q E s:=by
 rw[arm_exec_If];refine Wb (wpAny_standAt (Wb (S.ts hb H F hs hA fun c st1 ρ1 s1 h1 H1 e1 m1=>?_)));cases c<;>exact S.ss h1 H1 (F.after e1 m1) hs hA fun f fl st2 ρ2 s2 h2 H2 F2 e2 r2=>K f fl st2 ρ2 s2 h2 H2 F2 ((wkE e1).trans e2) r2
theorem KF.nxt(S:Snd C rec n){b:List Stmt}{k:KS}{Q:Flow→Shared→Prop}{R:Flow→Shared→Prop}(hs:okSc sc=true)(hA:Room n A)(K:KF C env sc ρ s k Q)(hR:∀s',wpAny (model C.prog C.w) A (execs b env) Q E s'→R .next s')(hR':∀fl s',fl≠ .next→Q fl s'→R fl s'):
  KF C env sc ρ s (fun f st=>onNxt f (rec.ss sc b st k) fun f=>k f st) R:=by
 intro f fl st1 ρ1 s1 h1 H1 F1 e1 r1;cases r1 with
 |nxt=>exact hR _ (S.ss h1 H1 F1 hs hA fun f fl st2 ρ2 s2 h2 H2 F2 e2 r2=>K f fl st2 ρ2 s2 h2 H2 F2 (e1.trans e2) r2)
 |brk=>exact hR' _ _ (fun h=>nomatch h) (K _ _ st1 ρ1 s1 h1 H1 F1 e1 .brk)
 |cnt=>exact hR' _ _ (fun h=>nomatch h) (K _ _ st1 ρ1 s1 h1 H1 F1 e1 .cnt)
 |ret v x r=>exact hR' _ _ (fun h=>nomatch h) (K _ _ st1 ρ1 s1 h1 H1 F1 e1 (.ret v x r))
theorem Zht(S:Snd C rec n)(GK:GOK C g){c:Stmt}{k:KS}{Q:Flow→Shared→Prop}(hb:sStep g rec sc c st k)(H:HI C ρ st s)(F:FI C env sc ρ st.m s)(hs:okSc sc=true)(hA1:Room (n+1) A)(K:KF C env sc ρ s k Q):
  wpAny (model C.prog C.w) A (exec c env) Q E s:=by
 have hA:Room n A:=hA1.less (Nat.le_succ n);cases c with
 |Expr e p=>exact ZjF S hb H F hs hA K
 |Return e p=>exact ZjE S hb H F hs hA K
 |Break p=>
  rw[arm_exec_Break];exact Wb (wpAny_standAt (Wp (K _ _ st ρ s hb H F (.refl _ _ _ _) .brk)))
 |Pass p=>
  rw[arm_exec_Pass];exact Wb (wpAny_standAt (Wp (K _ _ st ρ s hb H F (.refl _ _ _ _) .nxt)))
 |Assign ts e p=>exact ZjG S hb H F hs hA K
 |AugAssign t op e p=>cases t with
  |Name x np=>exact Zhv S hb H F hs hA K
  |Subscript o i p1=>exact Zhu S hb H F hs hA K
  |_=>exact noB hb
 |If t b o p=>exact Zmj S hb H F hs hA K
 |Try b hs' o fin p=>cases hs' with
  |nil=>exact noB hb
  |cons eh ehs=>cases fin with
   |cons _ _=>exact noB hb
   |nil=>exact PySem.wpAny_Try_except (S.ss hb H F hs hA (KF.nxt S hs hA K (fun μ h=>h) fun fl μ hn h=>by cases fl<;>first|exact absurd rfl hn|exact h))
 |While t b o p=>exact PySem.wpAny_While (S.wl hb H F hs hA fun f fl st1 ρ1 s1 h1 H1 F1 e1 r1=>K f fl st1 ρ1 s1 h1 H1 F1 e1 r1)
 |For t i b o p=>
  have hb:iterA rec sc i st fun it st=>rec.fl sc t b o it st k:=hb;obtain⟨w,hf⟩:=ZcH (A:=A) (E:=E) (Q:=fun it s₂=>codeAny (model C.prog C.w) A (.forLoop t it b o env) (fun r s'=>match r with| .ok f=>Q f s'| .error e=>cameBackBy (model C.prog C.w) A env E e s') s₂) S GK.nob hb H F hs hA (fun it st1 ρ1 s1 a h1 H1 F1 e1 m1 Ap I hn=>by
   refine S.fl h1 H1 F1 hs hA Ap I fun f fl st2 ρ2 s2 h2 H2 F2 e2 r2=>?_;refine K f fl st2 ρ2 s2 h2 H2 F2 ?_ r2;have tot:Ext C (XI env sc a) ρ s ρ2 s2:=(e1.weaken fun μ h=>h.elim).trans e2;refine⟨tot.main,fun b h=>?_,fun b o q1 q2 q3 q4=>tot.kept b o q1 q2 q3 fun q=>?_,tot.tup,fun b o q1 q2=>tot.live b o q1 fun q=>?_,tot.gfresh,tot.gkept,tot.gsize⟩
   ·rcases tot.fresh b h with h|h|h|h
    ·exact .inl h
    ·exact .inr (.inl h)
    ·exact .inr (.inr h)
    ·exact .inr (.inl (h▸hn))
   ·rcases q with q|q
    ·exact q4 q
    ·rw[q,hn]at q1;exact nnO q1
   ·rcases q with q|q
    ·exact q2 q
    ·rw[q,hn]at q1;exact nnO q1)
  exact PySem.wpAny_For w hf
 |_=>exact noB hb
theorem ZbJ(S:Snd C rec n)(GK:GOK C g){b:List Stmt}{k:KS}{Q:Flow→Shared→Prop}(hb:Zc2 g rec sc b st k)(H:HI C ρ st s)(F:FI C env sc ρ st.m s)(hs:okSc sc=true)(hA1:Room (n+1) A)(K:KF C env sc ρ s k Q):
  wpAny (model C.prog C.w) A (execs b env) Q E s:=by
 have hA:Room n A:=hA1.less (Nat.le_succ n);cases b with
 |nil=>exact PySem.wpAny_execs_nil (K _ _ st ρ s hb H F (.refl _ _ _ _) .nxt)
 |cons c b=>exact PySem.wpAny_execs_cons (Zht S GK hb H F hs hA1 (KF.nxt S hs hA K (fun μ h=>h) fun fl μ hn h=>by cases fl<;>first|exact absurd rfl hn|exact h))
end
theorem Zot(C:Ctx):Snd C no 0 where
 ex:=fun h=>nomatch h
 ts:=fun h=>nomatch h
 ss:=fun h=>nomatch h
 wl:=fun h=>nomatch h
 fl:=fun h=>nomatch h
 cl:=fun h=>nomatch h
 us:=fun h=>nomatch h
 fu:=Nat.le_refl 0
theorem Zb2{C:Ctx}{g:G}(GK:GOK C g):∀n,Snd C (ev g n) n
 |0=>Zot C
 |n+1=>
  have S:=Zb2 GK n
  {fu:=Nat.le_refl _
   ex:=fun hb H F hs hA K=>Zgp S GK hb H F hs hA K
   ts:=fun hb H F hs hA K=>ZfW S hb H F hs hA K
   ss:=fun hb H F hs hA K=>ZbJ S GK hb H F hs hA K
   wl:=fun hb H F hs hA K=>ZnJ S hb H F hs (hA.less (Nat.le_succ n)) K
   fl:=fun hb H F hs hA Ap I K=>ZlE S hb H F hs (hA.less (Nat.le_succ n)) Ap I K
   cl:=fun hb H F hs hA Ap I ha K=>Zo7 S hb H F hs (hA.less (Nat.le_succ n)) Ap I ha K
   us:=fun hb H F hs hA KU K=>Zix S GK hb H F hs hA KU K}
end Mine
end
noncomputable section
open PySem PyProof.Rows PySem.W
namespace Mine
set_option backward.match.sparseCases true
section
variable{prog:Program}{w:World}{A:Around}{E:VP}{s:Shared}{K:Frag}{x CA:Addr}{ox:Obj}{od:Option Obj}
theorem YO{M:Model}{h:Heap}{T:Value}(X:K.In h)(I:InstAt h x ox CA od)(hm:mroIn K CA T=some true):Looks M h (isInstance (.ref x) T) true:=I.type.andThen (looks_mroIn X hm)
theorem ZiW{M:Model}{i n:String}{rest:List Value}{Q:Unit→Shared→Prop}(X:K.In s.heap)(I:InstAt s.heap x ox CA od)(hm:mroIn K CA (.type "list")=some true)
  (hk:builtinKind i=some .slot∨builtinKind i=some .method)(hs:splitId i=some ("list",n))(ha:argsOk i ⟨.ref x::rest,[]⟩)(q:Q () s):wpAny M A (checkBuiltinCall i ⟨.ref x::rest,[]⟩) Q E s:=by
 rcases hk with hk|hk
 ·exact check_slot hk hs (YO X I hm) ha q
 ·rw[checkBuiltinCall,hk,hs];refine Wb ((YO X I hm).here ?_)
  skip
  cases hsig:Manifest.signature? i with
  |none=>exact Wp q
  |some sig=>
   simp only[argsOk,hsig]at ha;have h2:=ha;show wpAny M A (Bind.checkArgs i sig ⟨.ref x::rest,[]⟩) Q E s;refine(h2).symm▸?_;exact Wp q
theorem ZaL{i n:String}{B:Builtin}{rest:List Value}{Q:VP}(X:K.In s.heap)(I:InstAt s.heap x ox CA od)(hm:mroIn K CA (.type "list")=some true)
  (hp:plainId i=true)(hb:entryFor table i=some B)(hk:builtinKind i=some .slot∨builtinKind i=some .method)(hs:splitId i=some ("list",n))(ha:argsOk i ⟨.ref x::rest,[]⟩)
  (hc:wpAny (model prog w) A.in1 (B ⟨.ref x::rest,[]⟩) (fun fin s'=>∃v,fin= .done (.ret v)∧Q v s') E s):wpAny (model prog w) A (call (.builtin i) (.ref x::rest)) Q E s:=by
 refine wpAny_call (codeAny_call_builtin hp hb (ZiW X I hm hk hs ha (wpAny_mono hc (fun fin s' h'=>?_) fun μ μ h'=>h')));obtain⟨v,rfl,hv⟩:=h';exact hv
theorem ZeC:builtinKind "list.append"=some .slot∨builtinKind "list.append"=some .method:= .inr (by decide+kernel)
theorem kind_len:builtinKind "list.__len__"=some .slot∨builtinKind "list.__len__"=some .method:= .inl (by decide+kernel)
theorem Zii:builtinKind "list.__iter__"=some .slot∨builtinKind "list.__iter__"=some .method:= .inl (by decide+kernel)
theorem Zkl:builtinKind "list.__setitem__"=some .slot∨builtinKind "list.__setitem__"=some .method:= .inl (by decide+kernel)
theorem Zc3:splitId "list.append"=some ("list","append"):=by decide+kernel
theorem Zf2:splitId "list.__iter__"=some ("list","__iter__"):=by decide+kernel
theorem Zhe:splitId "list.__setitem__"=some ("list","__setitem__"):=by decide+kernel
theorem ZgC(a:Value):argsOk "list.__init__" ⟨[a],[]⟩:=by unfold argsOk;kernel_rfl
noncomputable abbrev Zn(CA ad:Addr)(items:List Value)(n:Nat):Obj:={cls:= .ref CA,dict:=some ad,data:= .seq items.toArray n,slots:= #[]}
theorem ZgI{ad:Addr}{items:List Value}{n:Nat}{y:Value}{Q:VP}(X:K.In s.heap)(I:InstAt s.heap x (Zn CA ad items n) CA od)(hm:mroIn K CA (.type "list")=some true)(hz:items.length≤sizeLine)
  (hQ:∀h' n',h'.get? x=some (Zn CA ad (items++[y]) n')→Heap.SameBut x s.heap h'→Q .none {s with heap:=h'}):wpAny (model prog w) A (call (.builtin "list.append") [.ref x,y]) Q E s:=by
 refine ZaL X I hm slot_list_append.plain entry_list_append ZeC Zc3 (args_list_append _ _) ?_;show wpAny _ _ (updateSeq x (·.push y) >>= fun μ=>ret .none) _ _ s;have e1:∃n',Obj.mapSeq (·.push y) (Zn CA ad items n)=Zn CA ad (items++[y]) n':=by simp[Obj.mapSeq,Zn]
 obtain⟨n',e1⟩:=e1;refine Wb (wpAny_updateSeq I.at_ rfl (Wp ⟨.none,rfl,hQ _ n' ?_ (Heap.SameBut.update ..)⟩) (by exact hz))
 rw[←e1];exact Heap.get?_update_self _ I.at_ (by rw[e1];rfl)
theorem Zk7{ad:Addr}{items:List Value}{n:Nat}{Q:VP}(X:K.In s.heap)(I:InstAt s.heap x (Zn CA ad items n) CA od)(hm:mroIn K CA (.type "list")=some true)
  (hQ:Q (.ref s.heap.objs.size) {s with heap:=s.heap.push {cls:= .type "list_iterator",data:= .fields #[.ref x, .int 0 0]}}):wpAny (model prog w) A (call (.builtin "list.__iter__") [.ref x]) Q E s:=by
 refine ZaL X I hm slot_list_iter.plain entry_list_iter Zii Zf2 (args_list_iter _) ?_;show wpAny _ _ (do ret (←newFields "list_iterator" [.ref x,rawInt 0])) _ _ s
 exact Wb (wpAny_newObj_type (Wp ⟨_,rfl,hQ⟩))
end
section
variable{prog:Program}{w:World}{A:Around}{E:VP}{s:Shared}{K:Frag}{x CA:Addr}{od:Option Obj}{ad:Addr}{items:List Value}{n:Nat}
theorem Zah(f:Array Value→Array Value)(l':List Value)(hf:f items.toArray=l'.toArray)(hx:s.heap.get? x=some (Zn CA ad items n)):
  ∃n',(s.heap.update x (Obj.mapSeq f)).get? x=some (Zn CA ad l' n'):=by
 have e1:∃n',Obj.mapSeq f (Zn CA ad items n)=Zn CA ad l' n':=by simp[Obj.mapSeq,Zn,hf]
 obtain⟨n',e1⟩:=e1;exact⟨n',by rw[←e1];exact Heap.get?_update_self _ hx (by refine(e1).symm▸?_;rfl)⟩
theorem Zjb{y:Value}{Q:VP}(X:K.In s.heap)(I:InstAt s.heap x (Zn CA ad (items++[y]) n) CA od)(hz:items.length+1≤sizeLine)
  (hQ:∀h' n',h'.get? x=some (Zn CA ad items n')→Heap.SameBut x s.heap h'→Q y {s with heap:=h'}):wpAny (model prog w) A (Builtin.«list.pop» ⟨[.ref x],[]⟩) (fun fin s'=>∃v,fin= .done (.ret v)∧Q v s') E s:=by
 unfold Builtin.«list.pop»;refine Wb (wpAny_of_eq (a:=(.ref x,[])) (by rfl) ?_)
 refine Wb (Wp ?_)
 dsimp only
 rw[if_neg (by decide)]
 refine Wb (m:=Builtin.List.listItems (.ref x)) ?_;unfold Builtin.List.listItems;refine Wb (wpAny_seqItems I.at_ rfl (Wp ?_));have hne:((items++[y]).toArray.isEmpty)=false:=by simp
 rw[hne,if_neg (by decide)]
 have hi:(seqIndex? (-1) (items++[y]).toArray.size).bind (fun k=>(items++[y]).toArray[k]?.map (k, ·))=some (items.length,y):=by
  have:seqIndex? (-1) (items++[y]).toArray.size=some items.length:=by
   simp[seqIndex?];lia
  refine(this).symm▸?_;simp
 refine(hi).symm▸?_;obtain⟨n',e⟩:=Zah (s:=s) (fun a=>a.eraseIdxIfInBounds items.length) items (by simp[Array.eraseIdxIfInBounds];rw[List.eraseIdx_append_of_length_le (Nat.le_refl _)];simp) I.at_
 skip
 exact Wb (wpAny_updateSeq I.at_ rfl (Wp ⟨y,rfl,hQ _ n' e (Heap.SameBut.update ..)⟩) (by simp;assumption) (by
  have:(items++[y]).toArray.eraseIdxIfInBounds items.length=items.toArray:=by
   simp[Array.eraseIdxIfInBounds];rw[List.eraseIdx_append_of_length_le (Nat.le_refl _)];simp
  refine(this).symm▸?_;simp;lia))
theorem ZgG{Q:VP}(X:K.In s.heap)(I:InstAt s.heap x (Zn CA ad items n) CA od)(hz:items.length≤sizeLine)
  (hQ:∀h' n',h'.get? x=some (Zn CA ad [] n')→Heap.SameBut x s.heap h'→Q .none {s with heap:=h'}):wpAny (model prog w) A (Builtin.«list.__init__» ⟨[.ref x],[]⟩) (fun fin s'=>∃v,fin= .done (.ret v)∧Q v s') E s:=by
 obtain⟨n',e⟩:=Zah (s:=s) (fun μ=> #[]) [] rfl I.at_
 show wpAny _ _ (Builtin.List.listItems (.ref x) >>= _) _ _ s
 skip
 refine Wb (Wb (wpAny_seqItems I.at_ rfl (Wp ?_)));show wpAny _ _ (updateSeq x (fun μ=> #[]) >>= _) _ _ s
 refine Wb (wpAny_updateSeq I.at_ rfl ?_ (by exact hz))
 exact Wb (wpAny_letGo (Wp ⟨.none,rfl,hQ _ n' e (Heap.SameBut.update ..)⟩))
theorem Zjf{sl e:Addr}{m:Nat}{Q:VP}(X:K.In s.heap)(I:InstAt s.heap x (Zn CA ad items n) CA od)(hm:mroIn K CA (.type "list")=some true)(hz:items.length≤4096)
  (hs:s.heap.IsSliceOf sl .none .none .none)(he:s.heap.get? e=some (Zb [] m))
  (hQ:∀h' n',h'.get? x=some (Zn CA ad [] n')→Heap.SameBut x s.heap h'→Q .none {s with heap:=h'}):wpAny (model prog w) A (call (.builtin "list.__setitem__") [.ref x, .ref sl, .ref e]) Q E s:=by
 obtain⟨os,hos,hcs,hds⟩:=id hs;have hTs:s.TypeIs (.ref sl) "slice":=⟨os,hos,hcs⟩;have hne:x≠e:=by
  rintro rfl
  have:=I.at_;rw[he]at this;exact absurd (congrArg Obj.cls (Option.some.inj this)) (by simp)
 refine ZaL X I hm slot_list_setitem.plain entry_list_setitem Zkl Zhe (args_list_setitem _ _ _) ?_;obtain⟨n',e1⟩:=Zah (s:=s) (fun xs=>xs.extract 0 ((0:Int).toNat)++(#[]:Array Value)++xs.extract (max (0:Int) (items.toArray.size:Int)).toNat xs.size) [] (by simp) I.at_
 show wpAny _ _ (Builtin.List.listSubscript? (.ref sl) >>= _) _ _ s;refine Wb ?_;unfold Builtin.List.listSubscript?;refine Wb (wpAny_specialOf hTs slice_no_index ?_)
 dsimp only[Option.isNone_none,if_true]
 refine Wp ?_;show wpAny _ _ (typeOf (.ref sl) >>= _) _ _ s;refine Wb (wpAny_typeOf hTs ?_);rw[if_neg (by decide)]
 rw[listSliceParts_eq];refine Wb (Wb (wpAny_field hos hds (x:= .none) rfl (Wb (wpAny_listPart .none ?_))));refine(if_neg (show¬((rawPart none==rawInt 0)=true)from Bool.false_ne_true)).symm▸?_;refine Wb (wpAny_field hos hds (x:= .none) rfl (Wb (wpAny_listPart .none ?_)));refine Wb (wpAny_field hos hds (x:= .none) rfl (Wb (wpAny_listPart .none (Wp ?_))));have hsr:Builtin.List.listSameRef (.ref x) (.ref e)=false:=by simp[Builtin.List.listSameRef,hne]
 refine(hsr).symm▸?_
 dsimp only[Bool.false_eq_true,if_false]
 refine Wb (m:=Builtin.List.listAllItems _ _) ?_;unfold Builtin.List.listAllItems;refine Wb (wpAny_typeOf (T:="list") ⟨_,he,rfl⟩ ?_);rw[if_pos (by decide)]
 unfold Builtin.List.listItems;refine Wb (wpAny_seqItems he rfl (Wp ?_));refine Wb (Wb (wpAny_seqItems I.at_ rfl (Wp ?_)));refine Wb (wpAny_of_eq (sliceIndices_raw none none none items.toArray.size (by decide)) ?_)
 have hb:sliceBounds none none none items.toArray.size=(0,(items.toArray.size:Int),1):=by rfl
 refine(hb).symm▸?_
 dsimp only
 rw[if_pos (by decide)]
 refine Wb (wpAny_rule ?_);rw[if_neg (by rw[Bool.not_eq_true];simp[Builtin.List.listTooLong];exact Nat.le_trans hz (by decide))]
 show wpAny _ _ (updateSeq x _ >>= _) _ _ s;refine Wb (wpAny_updateSeq I.at_ rfl ?_ (by simp;exact Nat.le_trans hz (by decide)) (by simp))
 exact Wb (wpAny_letGo (Wp ⟨.none,rfl,hQ _ n' e1 (Heap.SameBut.update ..)⟩))
end
theorem Zlc:typeOf (.builtin "list.pop")=pure (.type "method_descriptor"):=PySem.F.type_list_pop
theorem ZgY:typeOf (.builtin "list.__init__")=pure (.type "wrapper_descriptor"):=by show builtinType _=_;refine(builtinType_eq_fast).symm▸?_;kernel_rfl
theorem Zld:typeOf (.builtin "list.__len__")=pure (.type "wrapper_descriptor"):=by show builtinType _=_;refine(builtinType_eq_fast).symm▸?_;kernel_rfl
theorem ZaT:Slot "method_descriptor" "__get__" "method_descriptor.__get__":= .of (owner:="method_descriptor") (n:="__get__") (by rw[typeLookup_type,builtinLookup_eq_fast];kernel_rfl) (by decide+kernel) (by decide+kernel) (by decide+kernel)
 (by first|exact .inl (by decide+kernel)|exact .inr (by decide+kernel)) (by rw[isSubtype_type];kernel_rfl)
theorem YQ:Slot "wrapper_descriptor" "__get__" "wrapper_descriptor.__get__":= .of (owner:="wrapper_descriptor") (n:="__get__") (by rw[typeLookup_type,builtinLookup_eq_fast];kernel_rfl) (by decide+kernel) (by decide+kernel) (by decide+kernel)
 (by first|exact .inl (by decide+kernel)|exact .inr (by decide+kernel)) (by rw[isSubtype_type];kernel_rfl)
theorem ZdU:entryFor table "method_descriptor.__get__"=some Builtin.«method_descriptor.__get__»:=entryFor_of_tree (by kernel_rfl)
theorem Zat:entryFor table "wrapper_descriptor.__get__"=some Builtin.«wrapper_descriptor.__get__»:=entryFor_of_tree (by kernel_rfl)
theorem ZeO(a b c:Value):argsOk "method_descriptor.__get__" ⟨[a,b,c],[]⟩:=by unfold argsOk;kernel_rfl
theorem Zbt(a b c:Value):argsOk "wrapper_descriptor.__get__" ⟨[a,b,c],[]⟩:=by unfold argsOk;kernel_rfl
section
variable{prog:Program}{w:World}{A:Around}{E:VP}{s:Shared}{K:Frag}{x CA:Addr}{ox:Obj}{od:Option Obj}
theorem Zd8{Q:VP}(X:K.In s.heap)(I:InstAt s.heap x ox CA od)(hm:mroIn K CA (.type "list")=some true)
  (hQ:Q (.ref s.heap.objs.size) {s with heap:=s.heap.push {cls:= .type "method-wrapper",data:= .fields #[.builtin "list.__init__", .ref x]}}):
  wpAny (model prog w) A (call (.builtin "wrapper_descriptor.__get__") [.builtin "list.__init__", .ref x, .ref CA]) Q E s:=by
 have hT:s.TypeIs (.builtin "list.__init__") "wrapper_descriptor":=ZgY;refine wpAny_call_entry YQ hT Zat ?_ (Zbt _ _ _)
 skip
 refine Wb (wpAny_of_eq (a:=(.builtin "list.__init__",some (.ref x),some (.ref CA))) (by rfl) ?_)
 skip
 refine Wb ?_;refine Wb (wpAny_of_eq (a:=(("__init__":Str), .type "list")) (by kernel_rfl) ?_)
 skip
 refine Wb ((YO X I hm).here ?_);rw[if_neg (by decide)]
 refine Wp ?_;exact Wb (wpAny_newObj_type (Wp ⟨_,rfl,hQ⟩))
theorem ZfU{Q:VP}(X:K.In s.heap)(I:InstAt s.heap x ox CA od)(hm:mroIn K CA (.type "list")=some true)
  (hQ:Q (.ref s.heap.objs.size) {s with heap:=s.heap.push {cls:= .type "method-wrapper",data:= .fields #[.builtin "list.__len__", .ref x]}}):
  wpAny (model prog w) A (call (.builtin "wrapper_descriptor.__get__") [.builtin "list.__len__", .ref x, .ref CA]) Q E s:=by
 have hT:s.TypeIs (.builtin "list.__len__") "wrapper_descriptor":=Zld;refine wpAny_call_entry YQ hT Zat ?_ (Zbt _ _ _)
 skip
 refine Wb (wpAny_of_eq (a:=(.builtin "list.__len__",some (.ref x),some (.ref CA))) (by rfl) ?_)
 skip
 refine Wb ?_;refine Wb (wpAny_of_eq (a:=(("__len__":Str), .type "list")) (by kernel_rfl) ?_)
 skip
 refine Wb ((YO X I hm).here ?_);rw[if_neg (by decide)]
 refine Wp ?_;exact Wb (wpAny_newObj_type (Wp ⟨_,rfl,hQ⟩))
theorem Zge{Q:VP}(X:K.In s.heap)(I:InstAt s.heap x ox CA od)(hm:mroIn K CA (.type "list")=some true)
  (hQ:Q (.ref s.heap.objs.size) {s with heap:=s.heap.push {cls:= .type "builtin_function_or_method",data:= .fields #[.builtin "list.pop", .ref x]}}):
  wpAny (model prog w) A (call (.builtin "method_descriptor.__get__") [.builtin "list.pop", .ref x, .ref CA]) Q E s:=by
 have hT:s.TypeIs (.builtin "list.pop") "method_descriptor":=Zlc;refine wpAny_call_entry ZaT hT ZdU ?_ (ZeO _ _ _);unfold Builtin.«method_descriptor.__get__»;refine Wb (wpAny_of_eq (a:=(.builtin "list.pop",some (.ref x),some (.ref CA))) (by rfl) ?_)
 dsimp only
 have hno:Manifest.toldItsClass.contains "list.pop"=false:=by decide+kernel
 rw[hno];simp only[Bool.false_eq_true,if_false];show wpAny _ _ ((_:Sem Unit) >>= fun μ=>(newFields "builtin_function_or_method" [.builtin "list.pop", .ref x] >>= ret)) _ _ s;refine Wb ?_;refine Wb (wpAny_of_eq (a:=(("pop":Str), .type "list")) (by kernel_rfl) ?_)
 dsimp only
 refine Wb ((YO X I hm).here ?_);rw[if_neg (by decide)]
 refine Wp ?_;exact Wb (wpAny_newObj_type (Wp ⟨_,rfl,hQ⟩))
theorem JE{a:Addr}{id:String}{kind:String}{args:List Value}{Q:VP}(ha:s.heap.get? a=some {cls:= .type kind,data:= .fields #[.builtin id, .ref x]})(hk:kind="builtin_function_or_method"∨kind="method-wrapper")
  (hchk:∀{A:Around} {E:VP} {Q:Unit→Shared→Prop},Q () s→wpAny (model prog w) A (checkBoundCall id ⟨.ref x::args,[]⟩) Q E s)
  (hgo:codeAny (model prog w) A.in1 (.builtin id ⟨.ref x::args,[]⟩) (fun r s'=>match r with| .ok (.ret v)=>Q v s'| .ok _=>False| .error e=>E e s') s)
  (hq:(Code.builtin id ⟨.ref x::args,[]⟩).quiet=true):wpAny (model prog w) A (call (.ref a) args) Q E s:=by
 refine wpAny_call (codeAny_of_tree ?_);show wpAny _ _ (callAny (.ref a) ⟨args,[]⟩) _ _ s
 dsimp only[callAny]
 refine Wb (wpAny_load ha ?_);have hc:(Value.type kind== .type "method" || Value.type kind== .type "builtin_function_or_method" || Value.type kind== .type "method-wrapper")=true:=by rcases hk with rfl|rfl<;>decide
 have hm:(Value.type kind != .type "method")=true:=by rcases hk with rfl|rfl<;>decide
 dsimp only
 refine(hc).symm▸?_;simp only[if_true,hm];show wpAny _ _ (checkBoundCall id ⟨.ref x::args,[]⟩ >>= _) _ _ s;exact Wb (hchk (Wp ⟨hq,codeAny_of_in1 hgo⟩))
theorem ZjQ(a:Value):(Manifest.signature? "list.pop").elim (pure ()) (fun sig=>Bind.checkArgs "list.pop" {sig with full:=toString (Str.toString "_Accumulator")++toString "."++toString (Bind.lastOf "list.pop")} ⟨[a],[]⟩)=(pure ():Sem Unit):=by kernel_rfl
theorem Zkr{M:Model}{h:Heap}{T:Value}{r:Bool}(X:K.In h)(I:InstAt h x ox CA od)(hm:mroIn K CA T=some r):Looks M h (isInstance (.ref x) T) r:=I.type.andThen (looks_mroIn X hm)
theorem ZfH{id:String}{Q:Unit→Shared→Prop}{M:Model}(hid:id="list.__init__"∨id="list.__len__")(h:Q () s):wpAny M A (checkBoundCall id ⟨[.ref x],[]⟩) Q E s:=by
 have ha:argsOk id ⟨[.ref x],[]⟩:=by
  rcases hid with rfl|rfl
  ·exact ZgC _
  ·exact args_list_len _
 have hk:builtinKind id=some .slot:=by rcases hid with rfl|rfl<;>decide+kernel
 unfold checkBoundCall;cases hs:Manifest.signature? id with
 |none=>exact Wp h
 |some sig=>
  simp only[argsOk,hs]at ha;simp only[hk];rw[if_pos (by decide),show Bind.checkArgs id sig ⟨[.ref x],[]⟩=pure ()from ha]
  exact Wp h
theorem Znn{Q:Unit→Shared→Prop}{M:Model}{cd:ClassData}(X:K.In s.heap)(I:InstAt s.heap x ox CA od)(hc:clsIn K CA=some cd)(hq:cd.qualname="_Accumulator")(hmm:mroIn K CA (.type "module")=some false)(ht:typeIn K (.ref CA)=some (.type "type"))(h:Q () s):
  wpAny M A (checkBoundCall "list.pop" ⟨[.ref x],[]⟩) Q E s:=by
 have hk:builtinKind "list.pop"=some .method:=by decide+kernel
 have no:=I.no;have L1:=I.at_;obtain⟨hh,gg,dd,tt,oo⟩:=s;unfold checkBoundCall;cases hs:Manifest.signature? "list.pop" with
 |none=>exact Wp h
 |some sig=>
  have ha:=ZjQ (.ref x);simp only[hs,Option.elim_some]at ha;simp only[hk];rw[if_neg (by decide)]
  refine Wb ((Zkr X I hmm).here ?_);rw[if_neg (by rw[show Manifest.varargsMethods.contains "list.pop"=false from by decide+kernel];decide)]
  refine Wb (ks_wpAny_isType_inst L1 (fun c e=>by unfold notCls at no;rw[e]at no;exact ftB no) ?_)
  simp only[Bool.false_eq_true,if_false];refine Wb (I.type.here ?_)
  dsimp only
  refine Wb ((looks_clsIn X hc).here ?_);refine Wb ((looks_typeIn X ht).here ?_);rw[if_pos (by decide),hq,ha]
  exact Wp h
end
section
variable{prog:Program}{w:World}{A:Around}{E:VP}{K:Frag}{h:Heap}{g:Array GenState}{d:Drawn}{t:Nat}{os:OsState}
theorem Zg6{so D x C:Addr}{l₀ l:List Value}{name:Str}{tk:Tok}{id gid T:String}{Q:Fin→Shared→Prop}
  (hso:h.get? so=some {cls:= .type "super",dict:=none,data:= .fields #[.ref D, .ref x, .ref C],slots:= #[]})(hno:Looks (model prog w) h (opaqueClassAbove (.ref C)) none)
  (hC:Looks (model prog w) h (mroOf (.ref C)) l₀)(hl:(l₀.dropWhile (· != .ref D)).drop 1=l)(X:K.In h)
  (hf:alongIn K name l=some (some (.builtin id)))(hty:typeOf (.builtin id)=pure (.type T))(hlk:typeLookup (.type T) "__get__"=pure (some (.builtin gid)))(hxC:x≠C)(hn:(name==("__class__":Str))=false)
  (hq:wpAny (model prog w) A (call (.builtin gid) [.builtin id, .ref x, .ref C]) (fun v s'=>Q (.done (.ret v)) s') E ⟨h,g,d,t,os⟩):
  wpAny (model prog w) A (Builtin.«super.__getattribute__» ⟨[.ref so, .str name tk],[]⟩) Q E ⟨h,g,d,t,os⟩:=by
 have hne:(Value.ref x==Value.ref C)=false:=by simp[hxC]
 have hdt:({cls:= .type "super",dict:=none,data:= .fields #[.ref D, .ref x, .ref C],slots:= #[]}:Obj).data= .fields #[.ref D, .ref x, .ref C]:=rfl
 have f0:(#[.ref D, .ref x, .ref C]:Array Value)[0]? =some (.ref D):=rfl
 have f1:(#[.ref D, .ref x, .ref C]:Array Value)[1]? =some (.ref x):=rfl
 have f2:(#[.ref D, .ref x, .ref C]:Array Value)[2]? =some (.ref C):=rfl
 skip
 repeat (first
  |(with_reducible refine wpAny_field hso hdt f0 ?_)|(with_reducible refine wpAny_field hso hdt f1 ?_)|(with_reducible refine wpAny_field hso hdt f2 ?_)
  |(with_reducible refine ks_wpAny_notOpaque hno ?_)
  |(with_reducible refine Looks.at hC ?_;rw[hl])
  |(refine ks_forIn_along X (fun μ μ=>rfl) rfl ?_ hf)
  |(with_reducible refine wpAny_of_eq hty ?_)
  |(with_reducible refine wpAny_of_eq hlk ?_)
  |(with_reducible refine wpAny_mono hq (fun μ μ z=>?_) fun μ μ z=>z)
  |(simp only[hn,hne,Bool.or_false,Bool.false_eq_true,if_false])
  |wp_step
  |dsimp only)
 all_goals assumption
theorem ZaA{so D x C:Addr}{l₀ l:List Value}{name:Str}{id gid T:String}{pl:Sem Bool}{Q:Value×List Value→Shared→Prop}
  (hso:h.get? so=some {cls:= .type "super",dict:=none,data:= .fields #[.ref D, .ref x, .ref C],slots:= #[]})(hno:Looks (model prog w) h (opaqueClassAbove (.ref C)) none)
  (hC:Looks (model prog w) h (mroOf (.ref C)) l₀)(hl:(l₀.dropWhile (· != .ref D)).drop 1=l)(X:K.In h)
  (hf:alongIn K name l=some (some (.builtin id)))(hty:typeOf (.builtin id)=pure (.type T))(hlk:typeLookup (.type T) "__get__"=pure (some (.builtin gid)))(hxC:x≠C)(hn:(name==("__class__":Str))=false)
  (o:Obj)(hq:∀{A:Around} {E:VP} {Q:VP} (t':Nat),Q (.ref h.objs.size) ⟨h.push o,g,d,t',os⟩→wpAny (model prog w) A (call (.builtin gid) [.builtin id, .ref x, .ref C]) Q E ⟨h,g,d,t',os⟩)
  (hQ:Q (.ref h.objs.size,[]) ⟨h.push o,g,d,t+1,os⟩):
  wpAny (model prog w) A (getMethod (.ref so) name pl) Q E ⟨h,g,d,t,os⟩:=by
 have hlk':=F.ks_slot_super_ga.lookup;have hcan:=F.ks_canon_super_ga;have hT:∀t',(⟨h,g,d,t',os⟩:Shared).TypeIs (.ref so) "super":=fun μ=>⟨_,hso,rfl⟩
 skip
 refine Wb (wpAny_specialOf (hT _) hlk' ?_);show wpAny _ _ (if(Manifest.canonical "super.__getattribute__" !="object.__getattribute__")=true then _ else _) _ _ _
 refine(if_pos hcan).symm▸?_
 skip
 refine Wb (Wb (wpAny_mkText (wpAny_holding (Wb (wpAny_typeOf (hT _) (Wb (wpAny_of_eq hlk' ?_)))))));show wpAny _ _ (getAttrByItsOwn (.ref so) (.str name t) (.type "super") (.builtin "super.__getattribute__") true false) _ _ _
 skip
 refine Wb (wpAny_of_eq (show(if onTheHeap (.type "super")then typeLookup (.type "super") "__getattr__" else pure none)=pure none from rfl) ?_)
 refine Wb (wpAny_attempt (wpAny_holding ?_));show wpAny _ _ (bindSpecial (.builtin "super.__getattribute__") (.ref so) >>= _) _ _ _;refine Wb (wpAny_of_eq (F.ks_slot_super_ga.bind _) ?_);refine wpAny_mono (Q:=fun v s'=>v= .ref h.objs.size∧s'=⟨h.push o,g,d,t+1,os⟩) (E:=fun μ μ=>False)
  (wpAny_call_entry F.ks_slot_super_ga (hT _) F.ks_entry_super_ga (Zg6 hso hno hC hl X hf hty hlk hxC hn (hq _ ⟨_,rfl,rfl,rfl⟩)) (F.ks_gaArgs_super _ _)) (fun v s' hv=>?_) fun μ μ z=>z.elim
 obtain⟨rfl,rfl⟩:=hv;exact Wp (Wp hQ)
end
noncomputable def IsSeq(h:Heap)(a:Addr)(items:Array Value):Prop:=∃o n,h.get? a=some o∧o.data= .seq items n
theorem IsSeq.at{h h':Heap}{a:Addr}{items:Array Value}(x:IsSeq h a items)(hk:∀o,h.get? a=some o→h'.get? a=some o):IsSeq h' a items:=let ⟨o,n,e,d⟩:=x;⟨o,n,hk o e,d⟩
section
variable{prog:Program}{w:World}{A:Around}{E:VP}{s:Shared}
theorem ZcB{it l:Addr}{i:Nat}{items}{x:Value}{Q:Option Value→Shared→Prop}(hit:s.heap.IsListIter it l i)
  (hl:IsSeq s.heap l items)(hx:items[i]? =some x)
  (hQ:∀h',h'.IsListIter it l (i+1)→Heap.SameBut it s.heap h'→Q (some x) {s with heap:=h'}):
  wpAny (model prog w) A (pyNext (.ref it)) Q E s:=by
 obtain⟨o,ho,hc,hd⟩:=id hit;obtain⟨ol,nl,hol,hdl⟩:=hl;unfold pyNext;refine Wb (wpAny_attempt (wpAny_callSpecial?_slot (name:=Str.ofString "__next__") hit.typeIs slot_listiter_next
  (wpAny_call_entry slot_listiter_next hit.typeIs entry_listiter_next ?_ (args_listiter_next _))))
 show wpAny _ _ (field (.ref it) 0 >>= _) _ _ s;refine Wb (wpAny_field ho hd (x:= .ref l) rfl ?_);show wpAny _ _ (if(Value.ref l==Value.none)=true then _ else _) _ _ s
 refine(if_neg (show¬((Value.ref l==Value.none)=true)from Bool.false_ne_true)).symm▸?_;show wpAny _ _ (field (.ref it) 1 >>= _) _ _ s;refine Wb (wpAny_field ho hd (x:= .int i 0) rfl ?_);show wpAny _ _ (seqItems? (.ref l) >>= _) _ _ s;refine Wb (wpAny_seqItems hol hdl ?_);simp only[Int.toNat_natCast,hx];refine Wb (wpAny_setField ho hd (by simp) (Wp ⟨x,rfl,Wp (hQ _ ?_ (Heap.SameBut.update ..))⟩))
 exact⟨_,Heap.get?_update_self _ ho (Obj.isFreed_of_fields (Obj.data_mapFields hd _)),(Obj.cls_mapFields ..).trans hc,by
  rw[Obj.data_mapFields hd];simp[rawInt]⟩
theorem Zdp{it l:Addr}{i:Nat}{items}{Q:Option Value→Shared→Prop}(hh:A.handled=none)
  (hit:s.heap.IsListIter it l i)(hl:IsSeq s.heap l items)(hx:items[i]? =none)
  (hQ:∀h',Heap.ExtBut it s.heap h'→Q none {s with heap:=h'}):wpAny (model prog w) A (pyNext (.ref it)) Q E s:=by
 obtain⟨o,ho,hc,hd⟩:=id hit;obtain⟨ol,nl,hol,hdl⟩:=hl;unfold pyNext;refine Wb (wpAny_attempt (wpAny_callSpecial?_slot (name:=Str.ofString "__next__") hit.typeIs slot_listiter_next
  (wpAny_call_entry slot_listiter_next hit.typeIs entry_listiter_next ?_ (args_listiter_next _))))
 show wpAny _ _ (field (.ref it) 0 >>= _) _ _ s;refine Wb (wpAny_field ho hd (x:= .ref l) rfl ?_);show wpAny _ _ (if(Value.ref l==Value.none)=true then _ else _) _ _ s
 refine(if_neg (show¬((Value.ref l==Value.none)=true)from Bool.false_ne_true)).symm▸?_;show wpAny _ _ (field (.ref it) 1 >>= _) _ _ s;refine Wb (wpAny_field ho hd (x:= .int i 0) rfl ?_);show wpAny _ _ (seqItems? (.ref l) >>= _) _ _ s;refine Wb (wpAny_seqItems hol hdl ?_);simp only[Int.toNat_natCast,hx];refine Wb (wpAny_rule (Wb (wpAny_setField ho hd (by simp) ?_)))
 show wpAny _ _ (newExc (.type "StopIteration") [] >>= _) _ _ _;refine Wb ?_;rw[newExc,newTuple];refine Wb (wpAny_newObj_type ?_ (by size_fits))
 refine Wb (m:=firstArgMember _ _) (wpAny_of_eq (a:=Value.none) (by first|rfl|(refine(firstArgMember).symm▸?_;rfl)) ?_)
 refine wpAny_newObj_type ?_ (by size_fits)
 rw[raiseNew];refine Wb (wpAny_handled ?_);refine(show A.in1.handled=none from hh).symm▸?_;refine Wb (Wp (wpAny_throw ?_));refine Wb (wpAny_isInstance (T:="StopIteration") (b:=true) ⟨_,Heap.get?_push_size _ rfl,rfl⟩ isSubtype_stop ?_);exact Wp (hQ _ (((Heap.SameBut.update ..).extBut.push _).push _))
end
theorem Zl3{prog:Program}{w:World}{A:Around}(hh:A.handled=none)(I ax:Addr)(hne:ax≠I)(items:Array Value)(Ts:Nat→Addr)(vals:Nat→Array Value)
  (hit:∀j,j<items.size→items[j]? =some (.ref (Ts j)))(hTI:∀j,j<items.size→Ts j≠I):
  WalksU prog w A I (I::ax::(List.range items.size).map Ts) [I] items.size (fun j v=>v=vals j)
   (fun j h=>h.IsListIter I ax j∧IsSeq h ax items∧∀k,k<items.size→h.IsTuple (Ts k) (vals k))
   (fun j T h=>(j<items.size∧T=Ts j)∧h.IsListIter I ax (j+1)∧IsSeq h ax items∧∀k,k<items.size→h.IsTuple (Ts k) (vals k)) where
 sub:=fun b hb=>by simp at hb;simp[hb]
 frame:=fun μ μ μ st hk=>⟨st.1.at fun o e=>hk I (.head _) o e,st.2.1.at fun o e=>hk ax (.tail _ (.head _)) o e,
  fun k hk'=>(st.2.2 k hk').at fun o e=>hk (Ts k) (List.mem_cons_of_mem _ (List.mem_cons_of_mem _ (List.mem_map.mpr ⟨k,List.mem_range.mpr hk',rfl⟩))) o e⟩
 item:=fun i s Q E hi st hQ=>by
  refine ZcB st.1 st.2.1 (x:= .ref (Ts i)) (hit i hi) fun h' hit' hs'=>?_;have tup:∀k,k<items.size→h'.IsTuple (Ts k) (vals k):=fun k hk'=>(st.2.2 k hk').extBut hs'.extBut (hTI k hk');exact hQ (Ts i) (vals i) h' s.toks rfl (tup i hi) ⟨⟨hi,rfl⟩,hit',st.2.1.at fun o e=>hs'.extBut _ o hne e,tup⟩ fun b o hb e=>hs'.extBut b o (fun h=>hb (by simp[h])) e
 go:=fun μ μ μ μ μ s Q μ hm hQ=>wpAny_letOwnedTupleGo_listiter hm.2.1 (hQ s.heap hm.2 fun μ μ μ e=>e)
 apart:=fun i T h hm=>by
  obtain⟨⟨hi,rfl⟩,_⟩:=hm;simp;exact hTI i hi
 done:=fun s Q E st hQ=>by
  refine Zdp hh st.1 st.2.1 (by simp) fun h' he=>?_
  exact hQ h' s.toks fun b o hb e=>he b o (fun h=>hb (by simp[h])) e
 self:=fun μ μ μ μ st hQ=>wpAny_pyIter_listiter st.1 hQ
section
variable{prog:Program}{w:World}{A:Around}{E:VP}{R:Result→Shared→Prop}{s:Shared}{I:Addr}{fp wr:List Addr}{G:Array GenState→Array GenState→Prop}{n:Nat}{P:Nat→Value→Prop}{St:Nat→Shared→Prop}
theorem Zck(W:WalksS prog w A.in1 I fp wr G n P St)(val tot:Nat→Int)(hval:∀i v,P i v→∃t,v= .int (val i) t)(htot:∀i,i<n→tot (i+1)=tot i+val i)
  (hfit:∀i,i<n→ -(2 ^ 62)≤val i∧val i<2 ^ 62∧ -(2 ^ 62)≤tot i+val i∧tot i+val i<2 ^ 62)(S:Addr)(hSf:S∉fp):
  ∀(k i:Nat) (s:Shared) (tA:Tok) (c:Nat),n-i=k→i≤n→St i s→s.heap.get? S=some {cls:= .type "list",dict:=none,data:= .seq #[.int (tot i) tA] c,slots:= #[]}→
  (∀s' t',Moved (S::wr) G s s'→R (.ok (.ret (.int (tot n) t'))) s')→codeAny (model prog w) A (.builtin "sum.loop" ⟨[.ref I, .ref S,rawInt 0,rawInt 0],[]⟩) R s:=by
 have hSw:S∉wr:=fun h=>hSf (W.sub _ h);have hsub:∀b∈wr,b∈S::wr:=fun b hb=>List.mem_cons_of_mem _ hb;intro k
 induction k with
 |zero=>
  intro i s tA c hk hi hst hS hR;have hin:i=n:=by omega
  cases hin;refine codeAny_builtin PySem.F.entry_sum_loop ?_;refine(Around.under_plainId PySem.F.plain_sum_loop _).symm▸?_;show wpAny _ A.in1 (seqItems? (.ref S) >>= _) _ _ s;refine Wb (wpAny_seqItems hS rfl ?_);show wpAny _ A.in1 (tryCatch (pyNext (.ref I)) _ >>= _) _ _ s;refine Wb (wpAny_tryCatch (W.done s _ _ hst fun s' hm=>?_));exact Wp (hR s' tA ⟨fun b o hb=>hm.heap b o (fun h=>hb (hsub b h)),hm.gens,hm.drawn,hm.os,hm.toks⟩)
 |succ k ih=>
  intro i s tA c hk hi hst hS hR;have hlt:i<n:=by omega
  refine codeAny_builtin PySem.F.entry_sum_loop ?_;refine(Around.under_plainId PySem.F.plain_sum_loop _).symm▸?_;show wpAny _ A.in1 (seqItems? (.ref S) >>= _) _ _ s;refine Wb (wpAny_seqItems hS rfl ?_);show wpAny _ A.in1 (tryCatch (pyNext (.ref I)) _ >>= _) _ _ s;refine Wb (wpAny_tryCatch (W.item i s _ _ hlt hst fun v s' hP hst' hm=>?_));obtain⟨t,rfl⟩:=hval i v hP;have hS':=hm.heap S _ hSw hS;show wpAny _ A.in1 (if(_:Bool)=true then(mkInt (tot i+val i) >>= _)else _) _ _ _
  obtain⟨f1,f2,f3,f4⟩:=hfit i hlt;have hc:((decide (-(2 ^ 63)≤val i)&&decide (val i<2 ^ 63))&&(decide (-(2 ^ 63)≤tot i+val i)&&decide (tot i+val i<2 ^ 63)))=true:=by
   simp only[Bool.and_eq_true,decide_eq_true_eq];omega
  refine Eq.mpr (congrArg (fun t=>wpAny _ A.in1 t _ _ _) (if_pos hc)) ?_;refine Wb (wpAny_mkInt ?_);show wpAny _ A.in1 (updateSeq S (fun μ=> #[.int (tot i+val i) s'.toks]) >>= _) _ _ _
  refine Wb (wpAny_updateSeq hS' rfl (Wp ⟨plainId_quiet PySem.F.plain_sum_loop _,?_⟩));have hS2:=Heap.get?_update_self (Obj.mapSeq fun μ=> #[Value.int (tot i+val i) s'.toks]) hS' rfl
  refine ih (i+1) _ s'.toks _ (by omega) hlt (W.frame _ s' _ _ hst' (Nat.le_succ _) fun b hb o e=>?_) (by rw[htot i hlt];exact hS2) fun s'' t'' hm''=>?_
  ·exact(Heap.get?_update_other _ _ (fun h:S=b=>hSf (by refine(h).symm▸?_;exact hb))).trans e
  ·refine hR s'' t'' ⟨fun b o hb e=>hm''.heap b o hb ((Heap.get?_update_other _ _ (fun h:S=b=>hb (by refine(h).symm▸?_;exact List.mem_cons_self))).trans (hm.heap b o (fun h=>hb (hsub b h)) e)),W.gtrans _ _ _ hm.gens hm''.gens,hm''.drawn.trans hm.drawn,hm''.os.trans hm.os,?_⟩
   exact Nat.le_trans hm.toks (Nat.le_trans (Nat.le_succ _) hm''.toks)
theorem Zi6(a b:Value):argsOk "sum" ⟨[a,b],[]⟩:=by unfold argsOk;kernel_rfl
theorem ZcS{x:Value}{a:Int}{ta:Tok}{Q:VP}(ha: -(2 ^ 62)≤a∧a<2 ^ 62)
  (h:wpAny (model prog w) A.in1 (pyIter x) (fun it s₂=>∃(I:Addr) (fp wr:List Addr) (G:Array GenState→Array GenState→Prop) (n:Nat) (P:Nat→Value→Prop) (St:Nat→Shared→Prop) (val tot:Nat→Int),it= .ref I∧WalksS prog w A.in1 I fp wr G n P St∧St 0 s₂∧(∀b∈fp,b<s₂.heap.objs.size)∧
   (∀i v,P i v→∃t,v= .int (val i) t)∧tot 0=a∧(∀i,i<n→tot (i+1)=tot i+val i)∧(∀i,i<n→ -(2 ^ 62)≤val i∧val i<2 ^ 62∧ -(2 ^ 62)≤tot i+val i∧tot i+val i<2 ^ 62)∧
   ∀s' t',Moved wr G s₂ s'→Q (.int (tot n) t') s') E s):
  wpAny (model prog w) A (call (.builtin "sum") [x, .int a ta]) Q E s:=by
 refine call_function_tree PySem.F.kind_sum PySem.F.plain_sum PySem.F.entry_sum (Zi6 _ _) ?_;unfold Builtin.«sum»
 dsimp only[List.length_cons,List.length_nil]
 rw[if_neg (by decide)]
 refine Wb (wpAny_of_eq (show Builtin.Builtins.bindParams "sum" ["start"] 0 ⟨[.int a ta],[]⟩=pure [some (.int a ta)]from rfl) ?_);refine Wb (wpAny_mono h (fun it s₂ h₂=>?_) fun μ μ e=>e);obtain⟨I,fp,wr,G,n,P,St,val,tot,rfl,W,hst,hfp,hval,ht0,htot,hfit,hQ⟩:=h₂;subst ht0;have hc:(decide (-(2 ^ 63)≤tot 0)&&decide (tot 0<2 ^ 63))=true:=by
  simp only[Bool.and_eq_true,decide_eq_true_eq];omega
 dsimp only
 refine wpAny_ite ?_;split
 case isFalse hneg=>exact absurd hc hneg
 refine Wb (wpAny_rule (Wb (wpAny_mkInt ?_)));refine Wb (Wp ?_)
 dsimp only[List.forIn_cons,List.forIn_nil]
 refine Wb (Wb (Wb (wpAny_isInstance (T:="int") (b:=false) (typeIs_int _ _ _) PySem.sub_int_str ?_)))
 dsimp only[Bool.false_eq_true,if_false]
 refine Wp (Wb (Wb (wpAny_isInstance (T:="int") (b:=false) (typeIs_int _ _ _) PySem.sub_int_bytes ?_)))
 dsimp only[Bool.false_eq_true,if_false]
 refine Wp (Wb (Wb (wpAny_isInstance (T:="int") (b:=false) (typeIs_int _ _ _) PySem.sub_int_bytearray ?_)))
 dsimp only[Bool.false_eq_true,if_false]
 refine Wp (Wp ?_);refine Wb (wpAny_newObj_type ?_);have hSf:s₂.heap.objs.size∉fp:=fun hm=>Nat.lt_irrefl _ (hfp _ hm);refine Wp ⟨plainId_quiet PySem.F.plain_sum_loop _,Zck W val tot hval htot hfit s₂.heap.objs.size hSf n 0 _ s₂.toks 0 rfl (Nat.zero_le _)
  (W.frame 0 s₂ _ _ hst (Nat.le_succ _) fun b μ o e=>Heap.get?_push_of_some _ e) (Heap.get?_push_size _ rfl) fun s' t' hm=>?_⟩
 exact hQ s' t' (hm.drop_new (Nat.le_succ _))
end
noncomputable def Tab(h:Heap)(p:Addr×Addr):Prop:=∃ps,h.get? p.2=some {cls:= .none,data:= .fields ps}∧TriplesOk ps.toList
theorem ZfY{h:Heap}{c P:Addr}{ps:Array Value}(x:h.IsCode c P ps):TriplesOk ps.toList:=by
 exact exE9 x fun μ μ μ μ μ μ μ μ μ x=>x.elim fun μ x=>anE9 x fun μ μ μ μ μ μ μ μ x=>x.2.1
structure PF(C:Ctx)(K:Frag)(T:List (Addr×Addr)):Prop where
 inv:∀h,C.inv h↔(K.In h∧h.NoLimit∧∀p∈T,Tab h p)
 lo:∀p∈T,p.1<C.base.objs.size∧p.2<C.base.objs.size∧p.2≠cStatics
 far:∀p∈T,K.lookup p.2=none
 tab:∀p∈T,∃ps,C.base.TableAt p.1 p.2 ps
 apart:∀p∈T,∀q∈T,p.2≠q.1∧(p.2=q.2→p=q)
structure Mv(C:Ctx)(T:List (Addr×Addr))(S:Addr→Prop)(s s':Shared):Prop where
 keep:∀a o,s.heap.get? a=some o→¬S a→a∉T.map (·.2)→s'.heap.get? a=some o
 live:∀a o,s.heap.get? a=some o→¬S a→Live s'.heap a
 old:OldK C.base s.heap→C.inv s.heap→OldK C.base s'.heap∧C.inv s'.heap
 gk:∀(g:Nat) (gs:GenState),s.gens[g]? =some gs→s'.gens[g]? =some gs
 gsz:s.gens.size≤s'.gens.size
 bare:AllBare s.gens→AllBare s'.gens
 os:s'.os=s.os
section
variable{C:Ctx}{K:Frag}{T:List (Addr×Addr)}{S S':Addr→Prop}{s s1 s2 s':Shared}
theorem Mv.refl:Mv C T S s s:=⟨fun μ μ e μ μ=>e,fun μ o e μ=>⟨o,e⟩,fun h i=>⟨h,i⟩,fun μ μ e=>e,Nat.le_refl _,fun h=>h,rfl⟩
theorem Mv.trans(x:Mv C T S s s1)(y:Mv C T S s1 s2):Mv C T S s s2 where
 keep:=fun a o e n t=>y.keep a o (x.keep a o e n t) n t
 live:=fun a o e n=>by
  obtain⟨o',e'⟩:=x.live a o e n;exact y.live a o' e' n
 old:=fun h i=>let ⟨h1,i1⟩:=x.old h i;y.old h1 i1
 gk:=fun g gs e=>y.gk g gs (x.gk g gs e)
 gsz:=Nat.le_trans x.gsz y.gsz
 bare:=fun h=>y.bare (x.bare h)
 os:=y.os.trans x.os
theorem Mv.weaken(x:Mv C T S s s')(h:∀a,S a→S' a):Mv C T S' s s':=
 {x with keep:=fun a o e n t=>x.keep a o e (fun q=>n (h a q)) t,live:=fun a o e n=>x.live a o e fun q=>n (h a q)}
theorem Mv.forget(x:Mv C T S' s s')(h:∀a,S' a→S a∨s.heap.get? a=none):Mv C T S s s':=
 {x with
  keep:=fun a o e n t=>x.keep a o e (fun q=>by rcases h a q with q|q;exact n q;rw[q]at e;exact nnO e) t
  live:=fun a o e n=>x.live a o e fun q=>by rcases h a q with q|q;exact n q;rw[q]at e;cases e}
theorem Mv.plain(P:Plain S s s')(hS:∀a,S a→C.base.objs.size≤a):Mv C T S s s' where
 keep:=fun a o e n μ=>P.keep a o e n
 live:=fun a o e n=>⟨o,P.keep a o e n⟩
 old:=fun h i=>⟨Zu h P hS,C.inv_step _ _ i fun a o e hb=>P.keep a o e fun q=>absurd (hS a q) (Nat.not_le.mpr hb)⟩
 gk:=fun g gs e=>by refine(P.gens).symm▸?_;exact e
 gsz:=by refine(P.gens).symm▸?_;exact Nat.le_refl _
 bare:=fun h=>by refine(P.gens).symm▸?_;exact h
 os:=P.os
theorem Mv.plain0(P:Plain nox s s'):Mv C T S s s':=(Mv.plain (S:=nox) P fun μ h=>h.elim).weaken fun μ h=>h.elim
variable{ρ:Rho}{st:St}{X:Addr→Prop}
theorem HI.mv(PK:PF C K T)(H:HI C ρ st s)(M:Mv C T S s s')(hS:∀a,S a→a∉foot ρ)(ht:Ze s.heap s'.heap):HI C ρ st s':=by
 have far:∀a∈foot ρ,a∉T.map (·.2):=fun a ha hm=>by
  obtain⟨p,hp,rfl⟩:=List.mem_map.mp hm;exact absurd (H.lo _ ha) (Nat.not_le.mpr (PK.lo p hp).2.1)
 obtain⟨h1,h2⟩:=M.old H.old H.inv;refine⟨h1,h2,M.os.trans H.os,M.bare H.gens,H.nod,H.lo,fun a h=>?_,H.gnod,fun g h=>Nat.lt_of_lt_of_le (H.ghi g h) M.gsz,H.len,H.dom,fun i o e=>?_⟩
 ·obtain⟨o,e⟩:=H.live a h;exact⟨o,M.keep a o e (fun q=>hS a q h) (far a h)⟩
 ·obtain⟨en,he,r⟩:=H.sto i o e;exact⟨en,he,r.step (.refl _) (fun a o ha e=>M.keep a o e (fun q=>hS a q (Zz he ha)) (far a (Zz he ha))) ht fun g gs μ e=>M.gk g gs e⟩
theorem Ext.mv(PK:PF C K T)(M:Mv C T S s s')(hS:∀a,S a→(a∈foot ρ∧Live s'.heap a)∨X a)(ht:Ze s.heap s'.heap):Ext C X ρ s ρ s' where
 main:= .refl _
 fresh:=fun μ h=> .inl h
 kept:=fun a o e hb hf hx=>M.keep a o e (fun h=>(hS a h).elim (fun q=>hf q.1) hx) fun hm=>by
  obtain⟨p,hp,rfl⟩:=List.mem_map.mp hm;exact absurd hb (Nat.not_le.mpr (PK.lo p hp).2.1)
 tup:=ht
 live:=fun a o e hx=>by
  by_cases h:S a
  ·exact(hS a h).elim (fun q=>q.2) fun q=>absurd q hx
  ·exact M.live a o e h
 gfresh:=fun μ h=> .inl h
 gkept:=fun g gs e μ=>M.gk g gs e
 gsize:=M.gsz
theorem inK(PK:PF C K T){h:Heap}(hi:C.inv h):K.In h:=((PK.inv h).mp hi).1
theorem Mv.grow(PK:PF C K T){p:Addr×Addr}(hp:p∈T){ps more:Array Value}{h':Heap}{tk:Nat}(ht:s.heap.TableAt p.1 p.2 ps)(hc':h'.IsCode p.1 p.2 (ps++more))(ht':h'.TableAt p.1 p.2 (ps++more))(hx:Heap.ExtBut p.2 s.heap h'):
  Mv C T S s {s with heap:=h',toks:=tk} where
 keep:=fun a o e μ hm=>hx a o (fun q=>hm (q▸List.mem_map_of_mem hp)) e
 live:=fun a o e μ=>by
  by_cases q:a=p.2
  ·exact⟨_,q▸ht'.2⟩
  ·exact⟨o,hx a o q e⟩
 old:=fun h i=>by
  have k:=(PK.inv _).mp i;refine⟨(PK.tab p hp).elim fun ps0 h0=>h.step_table h0 ht ht' hx (PK.lo p hp).2.2,(PK.inv _).mpr ⟨fun a o e=>hx a o (fun q=>?_) (k.1 a o e),?_,fun q hq=>?_⟩⟩
  ·rw[q,PK.far p hp]at e;exact nnO e
  ·exact k.2.1.elim fun mc h=>⟨mc,h.1.extBut hx (PK.lo p hp).2.2.symm,h.2⟩
  ·by_cases e:q=p
   ·exact e▸⟨_,ht'.2,ZfY hc'⟩
   ·exact(k.2.2 q hq).imp fun pq h=>⟨hx _ _ (fun h=>e ((PK.apart p hp q hq).2 h.symm).symm) h.1,h.2⟩
 gk:=fun μ μ e=>e
 gsz:=Nat.le_refl _
 bare:=fun h=>h
 os:=rfl
end
noncomputable abbrev Ya(K:Frag)(f:Addr)(args:List Value)(binds:List (Str×Value)):Prop:=
 ∀fd oc od osl,K.lookup f=some ⟨oc,od, .func fd,osl⟩→∀s:Shared,K.In s.heap→BindsTo s fd ⟨args,[]⟩ binds
section
variable{C:Ctx}{K:Frag}{T:List (Addr×Addr)}{A:Around}{s:Shared}{E:VP}
 {name qual:Str}{params:Arguments}{body:List Stmt}{scope:Scope}{cl:List (Str×Addr)}{dV kV doc pm cdv ct oc:Value}{an od:Option Addr}{osl:Array (Option Value)}{f:Addr}{args:List Value}{binds:List (Str×Value)}
theorem Zng{R:Result→Shared→Prop}(PK:PF C K T)(O:OldK C.base s.heap)(I:C.inv s.heap)(ho:K.lookup f=some ⟨oc,od, .func (fnX name qual params body scope cl dV kV doc pm an cdv ct),osl⟩)(hcd:codeIn K cdv qual=true)(hroom:A.depth<recursionLimit)
  (hbind:BindsTo s (fnX name qual params body scope cl dV kV doc pm an cdv ct) ⟨args,[]⟩ binds)(hcell:∀x∈scope.names,x.2≠ .cell)(hloc:∀y∈binds,scope.names.lookup y.1=some .local)
  (hco:scope.isCoroutine=false)(hgen:scope.isGenerator=false)(hk:scope.kind= .function)
  (h:∀s₀ L,s.heap.objs.size≤L→s.heap.get? L=none→Plain nox s s₀→s₀.heap.Ns L (fun x=>binds.reverse.lookup x)→OldK C.base s₀.heap→C.inv s₀.heap→
   _root_.PySem.wpAt (model C.prog C.w) (A.deeper (envX qual scope L f cdv cl)) (.func body (envX qual scope L f cdv cl)) (execs body (envX qual scope L f cdv cl)) (fun fl s'=>R (.ok (.ret (match fl with| .ret v=>v|_=> .none))) s') (fun μ μ=>False) s₀):
  codeAny (model C.prog C.w) A (.call (.ref f) ⟨args,[]⟩) R s:=by
 have X:=inK PK I;refine ks_codeAny_call_defAt (fd:=fnX name qual params body scope cl dV kV doc pm an cdv ct) (body:=body) (binds:=binds) hroom (X _ _ ho) rfl (C.lim _ I) (codeRec_of X hcd) rfl hbind hcell hloc (fun h₁ hns hk₁=>?_) hco hgen hk;have P:Plain nox s {s with heap:=h₁,toks:=s.toks+binds.length}:=⟨fun a o e μ=>hk₁ a o e,rfl,rfl⟩;refine ks_wpAt_mono (h _ _ (Nat.le_refl _) ?_ P hns (Zu O P fun μ h=>h.elim) (C.inv_step _ _ I fun a o e μ=>hk₁ a o e)) (fun fl s' hl=>hl) fun μ μ z=>z.elim;exact Zw _
noncomputable abbrev Zjv(D x CA:Addr):Obj:={cls:= .type "super",dict:=none,data:= .fields #[.ref D, .ref x, .ref CA],slots:= #[]}
set_option tactic.hygienic true in
theorem Zf0{p0 p1:Pos}{attr:Str}{whole:Sem Value}{fd:FuncData}{ar:Arg}{vs:Array Value}{file:Str}{tf:Tok}{cl' ccl:Value}{cdd cld:Option Addr}{ccs csl:Array (Option Value)}{cdD:ClassData}{Q:VP}{E:VP}{m:Str→Option Value}{L x CA D cc cda:Addr}{ox:Obj}{odx:Option Obj}{q:Str}
  (PK:PF C K T)(O:OldK C.base s.heap)(hi:C.inv s.heap)(hn:s.heap.Ns L m)
  (hf:K.lookup f=some ⟨oc,od, .func fd,osl⟩)(hp:(fd.params.posonlyargs++fd.params.args).head? =some ar)(hv:m ar.arg=some (.ref x))(I:InstAt s.heap x ox CA odx)
  (hcode:K.lookup cda=some ⟨ccl,cdd, .fields vs,ccs⟩)(hvs:vs[2]? =some (.str file tf))(hfile:((C.prog.main.file:Str)==file)=true)
  (hcell:K.lookup cc=some ⟨cl',cld, .cell (some (.ref D)),csl⟩)(hD:clsIn K D=some cdD)(hsub:mroIn K CA (.ref D)=some true)(hsuper:C.mg "super"=none)
  (hat:(attr==("__class__":Str))=false)(hks:scope.names.lookup ("super":Str)=some .globalImplicit)(hkc:scope.names.lookup ("__class__":Str)=some .free)(hka:scope.names.lookup ar.arg=some .local)(hk:scope.kind= .function)
  (htop:(C.prog.main.scope.names.lookup ("super":Str)).isSome=false)(hboot:bootBuiltins "super"=some (.type "super"))
  (h:∀so h',s.heap.get? so=none→h'.get? so=some (Zjv D x CA)→(∀a o,s.heap.get? a=some o→h'.get? a=some o)→Q (.ref so) {s with heap:=h'}):
  _root_.PySem.wpAt (model C.prog C.w) A (.func body (ksEnv q scope L f (.ref cda) cc)) (attributeBase (.Call (.Name "super" p0) [] [] p1) attr (ksEnv q scope L f (.ref cda) cc) whole) Q E s:=by
 have X:K.In s.heap:=inK PK hi;have G:=YS O C.g (by decide)
 have B:=YS O C.b (by decide)
 obtain⟨hh,g,d,t,os⟩:=s;obtain⟨oD,hD1,hD2⟩:∃oD,hh.get? D=some oD∧oD.data= .cls cdD:=by
  unfold clsIn at hD;split at hD
  ·rename_i c d cd' sl ho;cases hD;exact⟨_,X _ _ ho,rfl⟩
  ·exact nnO hD
 refine ks_wpAt_super_base (env:=ksEnv q scope L f (.ref cda) cc) hks hkc hat rfl (X _ _ hf) rfl hp rfl (X _ _ hcode) rfl hvs hfile htop ?_;refine ks_loadName_global hk hks (PySem.Calls.loadGlobal_builtin (env:=ksEnv q scope L f (.ref cda) cc) G hsuper B ((C.bi _ (by decide+kernel)).trans hboot) ⟨rfl,?_⟩)
 refine wpAny_loadName_free hk hkc rfl ⟨_,X _ _ hcell,rfl⟩ ?_;refine wpAny_loadName_local hk hka hn hv ?_;refine ks_wpAny_isType_cls hD1 hD2 ⟨rfl,?_⟩;refine ks_wpAny_call_super hD1 hD2 I.at_ I.cls (fun c e=>?_) (looks_mroIn X hsub) (fun h' e k=>?_)
 ·have:=I.no;unfold notCls at this;rw[e]at this;exact Bool.noConfusion this
 ·exact h _ _ (Zw _) e k
end
section
noncomputable def dropT(K:Frag):Frag:=K.filter fun p=>!(Nat.beq p.1 197 || Nat.beq p.1 204)
structure CF(C:Ctx)(K:Frag):Prop where
 mg:∀nm r,nsIn K mainGlobals nm=some r→C.mg nm=r
 file:((C.prog.main.file:Str)==("/claim/cut.py":Str))=true
 top:(C.prog.main.scope.names.lookup ("super":Str)).isSome=false
noncomputable abbrev KK(p:Params):Frag:=dropT (KH.K p)
noncomputable abbrev TB:List (Addr×Addr):=[(201,197),(208,204)]
noncomputable abbrev cA:Addr:=235
noncomputable abbrev cP:Addr:=151
structure PG(C:Ctx)(p:Params):Prop where
 pf:PF C (KK p) TB
 cf:CF C (KK p)
theorem Zy{K:Frag}{f:Addr}{oc:Value}{od:Option Addr}{fd:FuncData}{osl:Array (Option Value)}{args:List Value}{binds:List (Str×Value)}(h:K.lookup f=some ⟨oc,od, .func fd,osl⟩)(hb:bindArgs fd ⟨args,[]⟩=pure binds):Ya K f args binds:=by
 intro fd' oc' od' osl' h' s μ;rw[h]at h';cases h';exact BindsTo.of_eq hb
theorem Zbr{K:Frag}{f t:Addr}{oc:Value}{od:Option Addr}{fd:FuncData}{osl:Array (Option Value)}{args:List Value}{binds:List (Str×Value)}{items:Array Value}{n:Nat}{tc:Value}{td:Option Addr}{tsl:Array (Option Value)}{k:Option (Array Value)→Sem (List (Str×Value))}
  (h:K.lookup f=some ⟨oc,od, .func fd,osl⟩)(hd:fd.defaults= .ref t)(ht:K.lookup t=some ⟨tc,td, .seq items n,tsl⟩)(h₁:bindArgs fd ⟨args,[]⟩=seqItems? fd.defaults >>= k)(h₂:k (some items)=pure binds):Ya K f args binds:=by
 intro fd' oc' od' osl' h' s X;rw[h]at h';cases h';exact BindsTo.of_defaults hd (X _ _ ht) rfl h₁ h₂
noncomputable def scOK(sc:Scope)(bs:List Str):Bool:=sc.names.all (fun y=>y.2 != .cell)&&(!sc.isCoroutine&&(!sc.isGenerator&&(sc.kind== .function&&bs.all fun x=>sc.names.lookup x==some .local)))
theorem Zhs{sc:Scope}{bs:List Str}(h:scOK sc bs=true):(∀x∈sc.names,x.2≠ .cell)∧sc.isCoroutine=false∧sc.isGenerator=false∧sc.kind= .function∧∀x∈bs,sc.names.lookup x=some .local:=by
 unfold scOK at h;simp only[Bool.and_eq_true,List.all_eq_true,beq_iff_eq,bne_iff_ne,Bool.not_eq_true']at h;exact h
structure FnC(p:Params)(f:Addr)(x:Stmt)(qn:Str)(cl:List (Str×Addr))(df cd ct:Value)(bs:List Str):Prop where
 look:(KK p).lookup f=some (KH.oF x qn cl df (KH.s "cpy313.email.header" 372) cd ct)
 code:codeIn (KK p) cd qn=true
 sc:scOK (KH.fScope x) bs=true
noncomputable def mB(binds:List (Str×Value)):Str→Option Value:=fun x=>binds.reverse.lookup x
noncomputable abbrev fE(x:Stmt)(qn:Str)(f:Addr)(cd:Value)(cl:List (Str×Addr))(L:Addr):Env:=envX qn (KH.fScope x) L f cd cl
section
variable{C:Ctx}{p:Params}{A:Around}{s:Shared}{E:VP}{f:Addr}{x:Stmt}{qn:Str}{cl:List (Str×Addr)}{df cd ct:Value}{bs:List Str}{args:List Value}{binds:List (Str×Value)}
theorem FnC.kind(F:FnC p f x qn cl df cd ct bs):(KH.fScope x).kind= .function:=(Zhs F.sc).2.2.2.1
theorem enL{R:Result→Shared→Prop}(F:FnC p f x qn cl df cd ct (binds.map (·.1)))(hb:Ya (KK p) f args binds)(G:PG C p)(O:OldK C.base s.heap)(I:C.inv s.heap)(hroom:A.depth<recursionLimit)
  (h:∀s₀ L,s.heap.objs.size≤L→s.heap.get? L=none→Plain nox s s₀→s₀.heap.Ns L (mB binds)→OldK C.base s₀.heap→C.inv s₀.heap→
   _root_.PySem.wpAt (model C.prog C.w) (A.deeper (fE x qn f cd cl L)) (.func (KH.fBody x) (fE x qn f cd cl L)) (execs (KH.fBody x) (fE x qn f cd cl L)) (fun fl s'=>R (.ok (.ret (match fl with| .ret v=>v|_=> .none))) s') (fun μ μ=>False) s₀):
  codeAny (model C.prog C.w) A (.call (.ref f) ⟨args,[]⟩) R s:=by
 have h4:=Zhs F.sc;exact Zng G.pf O I F.look F.code hroom (hb _ _ _ _ F.look s (inK G.pf I)) h4.1 (fun y hy=>h4.2.2.2.2 _ (List.mem_map_of_mem hy)) h4.2.1 h4.2.2.1 h4.2.2.2.1 h
theorem enC{R:Result→Shared→Prop}(F:FnC p f x qn cl df cd ct (binds.map (·.1)))(hb:Ya (KK p) f args binds)(G:PG C p)(O:OldK C.base s.heap)(I:C.inv s.heap)(hroom:A.depth<recursionLimit)
  (h:∀s₀ L,s.heap.get? L=none→Plain nox s s₀→s₀.heap.Ns L (mB binds)→OldK C.base s₀.heap→C.inv s₀.heap→
   _root_.PySem.wpAt (model C.prog C.w) (A.deeper (fE x qn f cd cl L)) (.func (KH.fBody x) (fE x qn f cd cl L)) (execs (KH.fBody x) (fE x qn f cd cl L)) (fun fl s'=>R (.ok (.ret (match fl with| .ret v=>v|_=> .none))) s') (fun μ μ=>False) s₀):
  codeAny (model C.prog C.w) A (.call (.ref f) ⟨args,[]⟩) R s:=enL F hb G O I hroom fun s₀ L μ hL=>h s₀ L hL
theorem enF{Q:VP}(F:FnC p f x qn cl df cd ct (binds.map (·.1)))(hb:Ya (KK p) f args binds)(G:PG C p)(O:OldK C.base s.heap)(I:C.inv s.heap)(hroom:A.depth<recursionLimit)
  (h:∀s₀ L,s.heap.get? L=none→Plain nox s s₀→s₀.heap.Ns L (mB binds)→OldK C.base s₀.heap→C.inv s₀.heap→
   _root_.PySem.wpAt (model C.prog C.w) (A.deeper (fE x qn f cd cl L)) (.func (KH.fBody x) (fE x qn f cd cl L)) (execs (KH.fBody x) (fE x qn f cd cl L)) (fun fl s'=>Q (match fl with| .ret v=>v|_=> .none) s') (fun μ μ=>False) s₀):
  wpAny (model C.prog C.w) A (call (.ref f) args) Q E s:=wpAny_call (enC F hb G O I hroom h)
end
variable{p:Params}
theorem fc92:FnC p 92 (KH.M 13 0) "_ValueFormatter.__init__" [] KH.n (KH.r 91) KH.n ["self","headerlen","maxlen","continuation_ws","splitchars"]:=⟨by kernel_rfl,by kernel_rfl,by kernel_rfl⟩
theorem k92:(KH.fScope (KH.M 13 0)).kind= .function:=by kernel_rfl
theorem Js:(KH.fScope (KH.M 13 0)).names.lookup ("self":Str)=some .local:=by kernel_rfl
theorem Zkb:(KH.fScope (KH.M 13 0)).names.lookup ("headerlen":Str)=some .local:=by kernel_rfl
theorem Zgj:(KH.fScope (KH.M 13 0)).names.lookup ("maxlen":Str)=some .local:=by kernel_rfl
theorem Zib:(KH.fScope (KH.M 13 0)).names.lookup ("continuation_ws":Str)=some .local:=by kernel_rfl
theorem ZmM:(KH.fScope (KH.M 13 0)).names.lookup ("splitchars":Str)=some .local:=by kernel_rfl
theorem ZmN:(KH.fScope (KH.M 13 0)).names.lookup ("len":Str)=some .globalImplicit:=by kernel_rfl
theorem ZmO:(KH.fScope (KH.M 13 0)).names.lookup ("_Accumulator":Str)=some .globalImplicit:=by kernel_rfl
theorem fc99:FnC p 99 (KH.M 13 1) "_ValueFormatter._str" [] KH.n (KH.r 98) KH.n ["self","linesep"]:=⟨by kernel_rfl,by kernel_rfl,by kernel_rfl⟩
theorem k99:(KH.fScope (KH.M 13 1)).kind= .function:=by kernel_rfl
theorem Zfl:(KH.fScope (KH.M 13 1)).names.lookup ("self":Str)=some .local:=by kernel_rfl
theorem Zez:(KH.fScope (KH.M 13 1)).names.lookup ("linesep":Str)=some .local:=by kernel_rfl
theorem fc113:FnC p 113 (KH.M 13 3) "_ValueFormatter.newline" [] KH.n (KH.r 112) KH.n ["self"]:=⟨by kernel_rfl,by kernel_rfl,by kernel_rfl⟩
theorem k113:(KH.fScope (KH.M 13 3)).kind= .function:=by kernel_rfl
theorem ZdB:(KH.fScope (KH.M 13 3)).names.lookup ("self":Str)=some .local:=by kernel_rfl
theorem ZcG:(KH.fScope (KH.M 13 3)).names.lookup ("end_of_line":Str)=some .local:=by kernel_rfl
theorem Zkk:(KH.fScope (KH.M 13 3)).names.lookup ("len":Str)=some .globalImplicit:=by kernel_rfl
theorem Zkj:(KH.fScope (KH.M 13 3)).names.lookup ("str":Str)=some .globalImplicit:=by kernel_rfl
theorem fc120:FnC p 120 (KH.M 13 4) "_ValueFormatter.add_transition" [] KH.n (KH.r 119) KH.n ["self"]:=⟨by kernel_rfl,by kernel_rfl,by kernel_rfl⟩
theorem k120:(KH.fScope (KH.M 13 4)).kind= .function:=by kernel_rfl
theorem Zig:(KH.fScope (KH.M 13 4)).names.lookup ("self":Str)=some .local:=by kernel_rfl
theorem k134:(KH.fScope (KH.M 13 6)).kind= .function:=by kernel_rfl
theorem Jg:(KH.fScope (KH.M 13 6)).names.lookup ("self":Str)=some .local:=by kernel_rfl
theorem Zki:(KH.fScope (KH.M 13 6)).names.lookup ("len":Str)=some .globalImplicit:=by kernel_rfl
theorem fc148:FnC p 148 (KH.M 13 8) "_ValueFormatter._append_chunk" [] KH.n (KH.r 147) KH.n ["self","fws","string"]:=⟨by kernel_rfl,by kernel_rfl,by kernel_rfl⟩
theorem k148:(KH.fScope (KH.M 13 8)).kind= .function:=by kernel_rfl
theorem Zif:(KH.fScope (KH.M 13 8)).names.lookup ("self":Str)=some .local:=by kernel_rfl
theorem Zkh:(KH.fScope (KH.M 13 8)).names.lookup ("fws":Str)=some .local:=by kernel_rfl
theorem ZeB:(KH.fScope (KH.M 13 8)).names.lookup ("string":Str)=some .local:=by kernel_rfl
theorem Zkg:(KH.fScope (KH.M 13 8)).names.lookup ("len":Str)=some .globalImplicit:=by kernel_rfl
theorem fc172:FnC p 172 (KH.M 14 0) "_Accumulator.__init__" [("__class__",159)] (KH.r 164) (KH.r 171) (KH.r 165) ["self","initial_size"]:=⟨by kernel_rfl,by kernel_rfl,by kernel_rfl⟩
theorem k172:(KH.fScope (KH.M 14 0)).kind= .function:=by kernel_rfl
theorem ZdA:(KH.fScope (KH.M 14 0)).names.lookup ("self":Str)=some .local:=by kernel_rfl
theorem Zkf:(KH.fScope (KH.M 14 0)).names.lookup ("initial_size":Str)=some .local:=by kernel_rfl
theorem fc179:FnC p 179 (KH.M 14 1) "_Accumulator.push" [] KH.n (KH.r 178) KH.n ["self","fws","string"]:=⟨by kernel_rfl,by kernel_rfl,by kernel_rfl⟩
theorem k179:(KH.fScope (KH.M 14 1)).kind= .function:=by kernel_rfl
theorem Zie:(KH.fScope (KH.M 14 1)).names.lookup ("self":Str)=some .local:=by kernel_rfl
theorem Zke:(KH.fScope (KH.M 14 1)).names.lookup ("fws":Str)=some .local:=by kernel_rfl
theorem ZeA:(KH.fScope (KH.M 14 1)).names.lookup ("string":Str)=some .local:=by kernel_rfl
theorem fc195:FnC p 195 (KH.M 14 3) "_Accumulator.pop" [("__class__",159)] KH.n (KH.r 194) (KH.r 188) ["self"]:=⟨by kernel_rfl,by kernel_rfl,by kernel_rfl⟩
theorem k195:(KH.fScope (KH.M 14 3)).kind= .function:=by kernel_rfl
theorem Za9:(KH.fScope (KH.M 14 3)).names.lookup ("self":Str)=some .local:=by kernel_rfl
theorem fc202:FnC p 202 (KH.M 14 4) "_Accumulator.__len__" [] KH.n (KH.r 201) KH.n ["self"]:=⟨by kernel_rfl,by kernel_rfl,by kernel_rfl⟩
theorem k202:(KH.fScope (KH.M 14 4)).kind= .function:=by kernel_rfl
theorem Zdz:(KH.fScope (KH.M 14 4)).names.lookup ("self":Str)=some .local:=by kernel_rfl
theorem Zkd:(KH.fScope (KH.M 14 4)).names.lookup ("sum":Str)=some .globalImplicit:=by kernel_rfl
theorem fc209:FnC p 209 (KH.M 14 5) "_Accumulator.__str__" [] KH.n (KH.r 208) KH.n ["self"]:=⟨by kernel_rfl,by kernel_rfl,by kernel_rfl⟩
theorem k209:(KH.fScope (KH.M 14 5)).kind= .function:=by kernel_rfl
theorem Zid:(KH.fScope (KH.M 14 5)).names.lookup ("self":Str)=some .local:=by kernel_rfl
theorem ZmP:(KH.fScope (KH.M 14 5)).names.lookup ("EMPTYSTRING":Str)=some .globalImplicit:=by kernel_rfl
theorem fc217:FnC p 217 (KH.M 14 6) "_Accumulator.reset" [] (KH.r 210) (KH.r 216) KH.n ["self","startval"]:=⟨by kernel_rfl,by kernel_rfl,by kernel_rfl⟩
theorem k217:(KH.fScope (KH.M 14 6)).kind= .function:=by kernel_rfl
theorem Zdy:(KH.fScope (KH.M 14 6)).names.lookup ("self":Str)=some .local:=by kernel_rfl
theorem YX:(KH.fScope (KH.M 14 6)).names.lookup ("startval":Str)=some .local:=by kernel_rfl
theorem fc224:FnC p 224 (KH.M 14 7) "_Accumulator.is_onlyws" [] KH.n (KH.r 223) KH.n ["self"]:=⟨by kernel_rfl,by kernel_rfl,by kernel_rfl⟩
theorem k224:(KH.fScope (KH.M 14 7)).kind= .function:=by kernel_rfl
theorem Za8:(KH.fScope (KH.M 14 7)).names.lookup ("self":Str)=some .local:=by kernel_rfl
theorem Zkc:(KH.fScope (KH.M 14 7)).names.lookup ("str":Str)=some .globalImplicit:=by kernel_rfl
theorem fc232:FnC p 232 (KH.M 14 8) "_Accumulator.part_count" [("__class__",159)] KH.n (KH.r 231) (KH.r 225) ["self"]:=⟨by kernel_rfl,by kernel_rfl,by kernel_rfl⟩
theorem Zic:(KH.fScope (KH.M 14 8)).names.lookup ("self":Str)=some .local:=by kernel_rfl
noncomputable def b92(x a b c d:Value):List (Str×Value):=[(("self":Str),x),(("headerlen":Str),a),(("maxlen":Str),b),(("continuation_ws":Str),c),(("splitchars":Str),d)]
theorem bc92(x a b c d:Value):Ya (KK p) 92 [x,a,b,c,d] (b92 x a b c d):=Zy fc92.look rfl
theorem Zjj(x a b c d:Value):mB (b92 x a b c d) "self"=some x:=rfl
theorem Zjk(x a b c d:Value):mB (b92 x a b c d) "headerlen"=some a:=rfl
theorem ZfV(x a b c d:Value):mB (b92 x a b c d) "maxlen"=some b:=rfl
theorem Zl5(x a b c d:Value):mB (b92 x a b c d) "continuation_ws"=some c:=rfl
theorem Zl4(x a b c d:Value):mB (b92 x a b c d) "splitchars"=some d:=rfl
noncomputable def b99(x a:Value):List (Str×Value):=[(("self":Str),x),(("linesep":Str),a)]
theorem bc99(x a:Value):Ya (KK p) 99 [x,a] (b99 x a):=Zy fc99.look rfl
theorem ZeZ(x a:Value):mB (b99 x a) "self"=some x:=rfl
theorem Zd9(x a:Value):mB (b99 x a) "linesep"=some a:=rfl
noncomputable def b113(x:Value):List (Str×Value):=[(("self":Str),x)]
theorem bc113(x:Value):Ya (KK p) 113 [x] (b113 x):=Zy fc113.look rfl
theorem ZgU(x:Value):mB (b113 x) "self"=some x:=rfl
noncomputable def b120(x:Value):List (Str×Value):=[(("self":Str),x)]
theorem bc120(x:Value):Ya (KK p) 120 [x] (b120 x):=Zy fc120.look rfl
theorem ZgT(x:Value):mB (b120 x) "self"=some x:=rfl
noncomputable def b134(x:Value):List (Str×Value):=[(("self":Str),x)]
theorem ZgS(x:Value):mB (b134 x) "self"=some x:=rfl
noncomputable def b148(x a b:Value):List (Str×Value):=[(("self":Str),x),(("fws":Str),a),(("string":Str),b)]
theorem bc148(x a b:Value):Ya (KK p) 148 [x,a,b] (b148 x a b):=Zy fc148.look rfl
theorem ZgR(x a b:Value):mB (b148 x a b) "self"=some x:=rfl
theorem Zjn(x a b:Value):mB (b148 x a b) "fws"=some a:=rfl
theorem Zeb(x a b:Value):mB (b148 x a b) "string"=some b:=rfl
noncomputable def b172(x a:Value):List (Str×Value):=[(("self":Str),x),(("initial_size":Str),a)]
theorem bc172(x a:Value):Ya (KK p) 172 [x,a] (b172 x a):=Zbr fc172.look rfl rfl rfl rfl
theorem ZcY(x a:Value):mB (b172 x a) "self"=some x:=rfl
theorem Zjm(x a:Value):mB (b172 x a) "initial_size"=some a:=rfl
noncomputable def b179(x a b:Value):List (Str×Value):=[(("self":Str),x),(("fws":Str),a),(("string":Str),b)]
theorem bc179(x a b:Value):Ya (KK p) 179 [x,a,b] (b179 x a b):=Zy fc179.look rfl
theorem ZgQ(x a b:Value):mB (b179 x a b) "self"=some x:=rfl
theorem Zjl(x a b:Value):mB (b179 x a b) "fws"=some a:=rfl
theorem Zea(x a b:Value):mB (b179 x a b) "string"=some b:=rfl
noncomputable def b195(x:Value):List (Str×Value):=[(("self":Str),x)]
theorem bc195(x:Value):Ya (KK p) 195 [x] (b195 x):=Zy fc195.look rfl
theorem ZaO(x:Value):mB (b195 x) "self"=some x:=rfl
noncomputable def b202(x:Value):List (Str×Value):=[(("self":Str),x)]
theorem bc202(x:Value):Ya (KK p) 202 [x] (b202 x):=Zy fc202.look rfl
theorem ZcX(x:Value):mB (b202 x) "self"=some x:=rfl
noncomputable def b209(x:Value):List (Str×Value):=[(("self":Str),x)]
theorem bc209(x:Value):Ya (KK p) 209 [x] (b209 x):=Zy fc209.look rfl
theorem ZgP(x:Value):mB (b209 x) "self"=some x:=rfl
noncomputable def b217(x:Value):List (Str×Value):=[(("self":Str),x),(("startval":Str), .none)]
theorem bc217(x:Value):Ya (KK p) 217 [x] (b217 x):=Zbr fc217.look rfl rfl rfl rfl
theorem ZcW(x:Value):mB (b217 x) "self"=some x:=rfl
theorem Zch(x:Value):mB (b217 x) "startval"=some .none:=rfl
noncomputable def b224(x:Value):List (Str×Value):=[(("self":Str),x)]
theorem bc224(x:Value):Ya (KK p) 224 [x] (b224 x):=Zy fc224.look rfl
theorem ZaN(x:Value):mB (b224 x) "self"=some x:=rfl
noncomputable def b232(x:Value):List (Str×Value):=[(("self":Str),x)]
theorem bc232(x:Value):Ya (KK p) 232 [x] (b232 x):=Zy fc232.look rfl
theorem ZgO(x:Value):mB (b232 x) "self"=some x:=rfl
theorem inG{C:Ctx}(PK:PG C p){h:Heap}(hi:C.inv h):(KK p).In h:=inK PK.pf hi
theorem ZnY{h:Heap}{ps:Array Value}(X:(KK p).In h)(e:h.get? 197=some {cls:= .none,data:= .fields ps})(r:TriplesOk ps.toList):h.IsCode 201 197 ps∧h.TableAt 201 197 ps:=
 ⟨⟨_,_,_,_,_,_,_,_,_,_,X 201 _ rfl,rfl,rfl,rfl,rfl,rfl,rfl,e,rfl,r,by decide⟩,⟨_,_,X 201 _ rfl,rfl,rfl,rfl⟩,e⟩
theorem ZnX{h:Heap}{ps:Array Value}(X:(KK p).In h)(e:h.get? 204=some {cls:= .none,data:= .fields ps})(r:TriplesOk ps.toList):h.IsCode 208 204 ps∧h.TableAt 208 204 ps:=
 ⟨⟨_,_,_,_,_,_,_,_,_,_,X 208 _ rfl,rfl,rfl,rfl,rfl,rfl,rfl,e,rfl,r,by decide⟩,⟨_,_,X 208 _ rfl,rfl,rfl,rfl⟩,e⟩
theorem tabK{h:Heap}{q:Addr×Addr}(hq:q∈TB)(X:(KK p).In h)(t:Tab h q):∃ps,h.IsCode q.1 q.2 ps∧h.TableAt q.1 q.2 ps:=by
 rcases List.mem_cons.mp hq with e|hq
 ·subst e;exact t.imp fun ps t=>ZnY X t.1 t.2
 ·rw[List.mem_singleton.mp hq]at t ⊢;exact t.imp fun ps t=>ZnX X t.1 t.2
theorem Zds{C:Ctx}(PK:PG C p):C.mg "len"=none:=PK.cf.mg _ _ (by kernel_rfl)
theorem ZoA{C:Ctx}(PK:PG C p):C.mg "sum"=none:=PK.cf.mg _ _ (by kernel_rfl)
theorem Zlx{C:Ctx}(PK:PG C p):C.mg "str"=none:=PK.cf.mg _ _ (by kernel_rfl)
theorem ZfL:bootBuiltins "len"=some (.builtin "len"):=by kernel_rfl
theorem Zpc:bootBuiltins "sum"=some (.builtin "sum"):=by kernel_rfl
theorem ZlP:bootBuiltins "str"=some (.type "str"):=by kernel_rfl
noncomputable def clsA(p:Params):ClassData:=(clsIn (KK p) cA).getD {name:="",bases:=[],mro:=[],ns:=0,qualname:=""}
noncomputable def clsP(p:Params):ClassData:=(clsIn (KK p) cP).getD {name:="",bases:=[],mro:=[],ns:=0,qualname:=""}
theorem a_cls:clsIn (KK p) cA=some (clsA p):=by kernel_rfl
theorem p_cls:clsIn (KK p) cP=some (clsP p):=by kernel_rfl
theorem ZmH:(KK p).lookup cP=some ⟨.type "type",none, .cls (clsP p), #[none,none,some (.str "_ValueFormatter" 378),some (.str "_ValueFormatter" 386),some (.builtin "object.__new__"),some (.bool true)]⟩:=by kernel_rfl
theorem Znp:(KK p).lookup 159=some ⟨.type "cell",none, .cell (some (.ref cA)), #[]⟩:=by kernel_rfl
theorem ZlS:mroIn (KK p) cA (.ref cA)=some true:=by kernel_rfl
theorem Jy:mroIn (KK p) cA (.type "list")=some true:=by kernel_rfl
theorem a_obj:mroIn (KK p) cA (.type "object")=some true:=by kernel_rfl
theorem a_mod:mroIn (KK p) cA (.type "module")=some false:=by kernel_rfl
theorem a_typ:typeIn (KK p) (.ref cA)=some (.type "type"):=by kernel_rfl
theorem a_ga:findIn (KK p) (.ref cA) "__getattribute__"=some (some (.builtin "list.__getattribute__")):=by kernel_rfl
theorem a_gt:findIn (KK p) (.ref cA) "__getattr__"=some none:=by kernel_rfl
theorem ZlT:findIn (KK p) (.ref cA) "__iter__"=some (some (.builtin "list.__iter__")):=by kernel_rfl
theorem Zpg:findIn (KK p) (.ref cA) "_initial_size"=some none:=by kernel_rfl
theorem a_sa:findIn (KK p) (.ref cA) "__setattr__"=some (some (.builtin "object.__setattr__")):=by kernel_rfl
theorem Zpf:takerIn (KK p) cA "_initial_size"=some none:=by kernel_rfl
theorem a_set:findIn (KK p) (.ref cA) "__setitem__"=some (some (.builtin "list.__setitem__")):=by kernel_rfl
theorem a_seq:∀n∈seqItemTypes,mroIn (KK p) cA (.type n)=some false:=fun n hn=>eq_of_beq (List.all_eq_true.mp (by kernel_rfl:(seqItemTypes.all fun n=>mroIn (KK p) cA (.type n)==some false)=true) n hn)
theorem p_ga:findIn (KK p) (.ref cP) "__getattribute__"=some (some (.builtin "object.__getattribute__")):=by kernel_rfl
theorem p_gt:findIn (KK p) (.ref cP) "__getattr__"=some none:=by kernel_rfl
theorem p_sa:findIn (KK p) (.ref cP) "__setattr__"=some (some (.builtin "object.__setattr__")):=by kernel_rfl
theorem p_obj:mroIn (KK p) cP (.type "object")=some true:=by kernel_rfl
end
section
variable{prog:Program}{w:World}{A:Around}{E:VP}{s:Shared}{K:Frag}{x CA:Addr}{od:Option Obj}{ad:Addr}{items:List Value}{n:Nat}
theorem ZiT{id:String}{B:Builtin}{args:Args}{Q:VP}(hp:plainId id=true)(hb:entryFor table id=some B)
  (hc:wpAny (model prog w) A.in1 (B args) (fun fin s'=>∃v,fin= .done (.ret v)∧Q v s') E s):
  codeAny (model prog w) A (.builtin id args) (fun r s'=>match r with| .ok (.ret v)=>Q v s'| .ok _=>False| .error e=>E e s') s:=by
 refine codeAny_of_tree ?_;show wpAny _ _ (match entryFor table id with|some b=>b args|none=>unsupported ((withoutEnding? id "#data").getD id)) _ _ s
 rw[hb,Around.under_plainId hp];refine wpAny_mono hc (fun fin s' h=>?_) fun μ μ h=>h;obtain⟨v,rfl,hv⟩:=h;exact hv
theorem Zjd{Q:VP}(I:InstAt s.heap x (Zn CA ad items n) CA od)
  (hQ:Q (.int items.length s.toks) {s with toks:=s.toks+1}):wpAny (model prog w) A (Builtin.«list.__len__» ⟨[.ref x],[]⟩) (fun fin s'=>∃v,fin= .done (.ret v)∧Q v s') E s:=by
 show wpAny _ _ (do retInt (←seqSize x)) _ _ s
 skip
 refine Wb (Wb (wpAny_load I.at_ (Wp (Wb (wpAny_mkInt (Wp ⟨_,rfl,?_⟩))))));exact hQ
theorem ZdE{M:Model}{a:Addr}{kind:String}{v:Value}(ha:s.heap.get? a=some {cls:= .type kind,data:= .fields #[v, .ref x]})(hk:kind="builtin_function_or_method"∨kind="method-wrapper"):
  ∀Q':Keeper→Shared→Prop,(∀k,Q' k s)→wpAny M A (keeperOf (.ref a)) Q' E s:=fun Q' h=>by
 skip
 refine Wb (wpAny_load ha ?_);rcases hk with rfl|rfl<;>exact Wp (h _)
end
theorem Zp{h h':Heap}{x D:Addr}{ox:Obj}{od:Option Obj}(I:InstAt h x ox D od)(k:∀a o,h.get? a=some o→h'.get? a=some o):InstAt h' x ox D od:=by
 refine⟨k _ _ I.at_,I.cls,I.no,?_⟩;have:=I.dict
 revert this
 cases ox.dict<;>cases od<;>intro h<;>first|exact k _ _ h|exact h
section
variable{C:Ctx}{p:Params}{A:Around}{s:Shared}{E:VP}{x ad:Addr}{items:List Value}{n:Nat}{od:Option Obj}
theorem Ja{c:Code}{env:Env}{o:Expr}{nm:Str}{apos pos:Pos}{args:List Expr}{Q:VP}(hl:Nat.beq apos.endLine pos.line=true)(hst:Z3 args=true)(hn:Nat.blt args.length 20=true)
  (h:_root_.PySem.wpAt (model C.prog C.w) A c (attributeBase o nm env (eval o env)) (fun ov s₁=>∀pl,wpAny (model C.prog C.w) A (getMethod ov nm pl) (fun r s'=>wpAny (model C.prog C.w) A (callWith pos r.1 r.2 (backTo pos (starEach args env)) []) Q E s') E s₁) E s):
  _root_.PySem.wpAt (model C.prog C.w) A c (eval (.Call (.Attribute o nm apos) args [] pos) env) Q E s:=by
 rw[arm_eval_Call];refine _root_.PySem.wpAt_bind (_root_.PySem.wpAt_mono h (fun ov s₁ h₁=>_root_.PySem.wpAt_of_wpAny (Wb (wpAny_standAt ?_))) fun μ μ x=>x);exact ZK hst hl hn h₁
noncomputable abbrev ZfK(kind id:String)(x:Addr):Obj:={cls:= .type kind,data:= .fields #[.builtin id, .ref x]}
theorem Zcj{f cda:Addr}{X:Stmt}{qn m:Str}{df ct:Value}{bs:List Str}{p0 p1 p2 p3:Pos}{L:Addr}{mm:Str→Option Value}{id gid T kind:String}{Q:VP}(F:FnC p f X qn [("__class__",159)] df (.ref cda) ct bs)(s1:(KH.fScope X).names.lookup ("super":Str)=some .globalImplicit)(s2:(KH.fScope X).names.lookup ("__class__":Str)=some .free)(s3:(KH.fScope X).names.lookup ("self":Str)=some .local){ar:Arg}(har:((KH.fPar X).posonlyargs++(KH.fPar X).args).head? =some ar)(hself:ar.arg="self"){ccl:Value}{cdd:Option Addr}{vs:Array Value}{ccs:Array (Option Value)}{tf:Tok}(ho:(KK p).lookup cda=some ⟨ccl,cdd, .fields vs,ccs⟩)(hvs:vs[2]? =some (.str "/claim/cut.py" tf))
  (hl:Nat.beq p2.endLine p3.line=true)(hm:ks_superIn (KK p) cA cA m=some (some (.builtin id)))(hty:typeOf (.builtin id)=pure (.type T))(hlk:typeLookup (.type T) "__get__"=pure (some (.builtin gid)))(hn:(m==("__class__":Str))=false)(hk:kind="builtin_function_or_method"∨kind="method-wrapper")
  (hg:∀{A:Around} {E:VP} {Q:VP} {s:Shared},(KK p).In s.heap→InstAt s.heap x (Zn cA ad items n) cA od→Q (.ref s.heap.objs.size) {s with heap:=s.heap.push (ZfK kind id x)}→wpAny (model C.prog C.w) A (call (.builtin gid) [.builtin id, .ref x, .ref cA]) Q E s)
  (G:PG C p)(O:OldK C.base s.heap)(hi:C.inv s.heap)(ns:s.heap.Ns L mm)(hv:mm "self"=some (.ref x))(I:InstAt s.heap x (Zn cA ad items n) cA od)
  (h:∀h' a tk,(∀a o,s.heap.get? a=some o→h'.get? a=some o)→h'.get? a=some (ZfK kind id x)→wpAny (model C.prog C.w) A (call (.ref a) []) Q E {s with heap:=h',toks:=tk}):
  _root_.PySem.wpAt (model C.prog C.w) A (.func (KH.fBody X) (fE X qn f (.ref cda) [("__class__",159)] L)) (eval (.Call (.Attribute (.Call (.Name "super" p0) [] [] p1) m p2) [] [] p3) (fE X qn f (.ref cda) [("__class__",159)] L)) Q E s:=by
 refine Ja hl rfl rfl ?_;refine Zf0 G.pf O hi ns F.look har (hself▸hv) I ho hvs G.cf.file Znp a_cls ZlS (G.cf.mg _ _ rfl) hn s1 s2 (hself▸s3) F.kind G.cf.top rfl fun so h' hso eso kp pl=>?_;have X1:(KK p).In h':=inK G.pf (C.inv_step _ _ hi fun a o e μ=>kp a o e);have I1:=Zp I kp;unfold ks_superIn at hm;rw[a_cls]at hm;refine ZaA eso (looks_opaque X1 (by kernel_rfl)) (l₀:=(clsA p).mro) (fun A Q E s k q=>Wb ((looks_clsIn X1 a_cls) A _ E s k (Wp q))) rfl X1 hm hty hlk (ks_ne X1 I1 a_cls) hn _ (fun t' q=>hg (s:=⟨h',_,_,t',_⟩) X1 I1 q) ?_
 have hb:(h'.push (ZfK kind id x)).get? h'.objs.size=some (ZfK kind id x):=Heap.get?_push_at rfl (by rfl)
 exact Zf rfl (PySem.Calls.spliced_nil ⟨ZdE hb hk,h _ _ _ (fun a o e=>Heap.get?_push_of_some _ (kp a o e)) hb⟩)
theorem ZbD{Q:VP}(G:PG C p)(O:OldK C.base s.heap)(hi:C.inv s.heap)(I:InstAt s.heap x (Zn cA ad items n) cA od)(hroom:A.depth<recursionLimit)
  (hQ:∀s' tk,Plain nox s s'→Q (.int items.length tk) s'):wpAny (model C.prog C.w) A (call (.ref 232) [.ref x]) Q E s:=by
 refine enF fc232 (bc232 _) G O hi hroom fun s₀ L hL P hn O0 i0=>?_;refine ks_wpAt_execs_cons (ks_wpAt_Return_some ?_);refine Zcj fc232 rfl rfl Zic rfl rfl rfl rfl rfl (by kernel_rfl) Zld YQ.lookup (by decide) (.inr rfl) (fun X I q=>ZfU X I Jy q) G O0 i0 hn (ZgO _) (Zp I fun a o e=>P.keep a o e id) fun h' a tk kp hb=>?_
 refine JE hb (.inr rfl) (fun q=>ZfH (.inr rfl) q) (ZiT slot_list_len.plain entry_list_len (Zjd (Zp I fun a o e=>kp _ _ (P.keep a o e id)) ?_)) (plainId_quiet slot_list_len.plain _);exact hQ _ _ (P.trans ⟨fun a o e μ=>kp a o e,rfl,rfl⟩)
end
theorem Zd1:(Manifest.canonical "list.__getattribute__" !="object.__getattribute__")=false:=by decide+kernel
theorem Zkm:builtinKind "list.__getattribute__"=some .slot∨builtinKind "list.__getattribute__"=some .method:= .inl (by decide+kernel)
theorem Zhf:splitId "list.__getattribute__"=some ("list","__getattribute__"):=by decide+kernel
theorem Zk1(a b:Value):argsOk "list.__getattribute__" ⟨[a,b],[]⟩:=by unfold argsOk;kernel_rfl
theorem ZhF:plainId "list.__getattribute__"=true:=by decide+kernel
theorem ZiG:entryFor table "list.__getattribute__"=some Builtin.«object.__getattribute__»:=PySem.am_entry_list_getattribute
theorem ZnS:typeOf (.builtin "list.__getattribute__")=pure (.type "wrapper_descriptor"):=by show builtinType _=_;refine(builtinType_eq_fast).symm▸?_;kernel_rfl
theorem ZkU(self:Value):bindSpecial (.builtin "list.__getattribute__") self=pure (.builtin "list.__getattribute__",[self]):=by
 unfold bindSpecial;refine(ZnS).symm▸?_
 rfl
section
variable{prog:Program}{w:World}{A:Around}{E:VP}{s:Shared}{K:Frag}{x C f:Addr}{ox:Obj}{od:Option Obj}{name:Str}{pl:Sem Bool}
theorem ZbP{Q:Value×List Value→Shared→Prop}(X:K.In s.heap)(I:InstAt s.heap x ox C od)(hga:findIn K (.ref C) "__getattribute__"=some (some (.builtin "list.__getattribute__")))(hk:findIn K (.ref C) "__getattr__"=some none)
  (hf:findIn K (.ref C) name=some (some (.ref f)))(ht:typeIn K (.ref f)=some (.type "function"))(hs:shadowIn od name=some false)(h:Q (.ref f,[.ref x]) s):
  wpAny (model prog w) A (getMethod (.ref x) name pl) Q E s:=by
 have hcan:=Zd1
 delta getMethod specialOf
 refine Wb (Wb (I.type.here ((looks_findIn X hga).here ?_)))
 dsimp only
 rw[hcan,if_neg (by decide)]
 refine Wb (Wb (I.type.here ((looks_findIn X hk).here ?_)));refine Wb (Wb (I.type.here ((looks_findIn X hf).here (Wb ((looks_typeIn X ht).here ?_)))));rw[if_neg (by decide+kernel)]
 refine Wb (wpAny_loadPart I.at_ ?_);have hd:=I.dict;cases e:ox.dict with
 |none=>exact Wb (wpAny_rule (Wp h))
 |some dx=>
  cases od with
  |none=>rw[e]at hd;exact hd.elim
  |some o=>
   rw[e]at hd;obtain⟨r,a,b⟩:=Option.map_eq_some_iff.mp hs;refine Wb (Wb (wpAny_loadPart hd ?_));refine(nsLook_of a).symm▸?_;refine Wp ?_;refine(b).symm▸?_;exact Wb (wpAny_rule (Wp h))
theorem ZdL{expr:Bool}{Q:VP}(X:K.In s.heap)(I:InstAt s.heap x ox C od)(hga:findIn K (.ref C) "__getattribute__"=some (some (.builtin "list.__getattribute__")))(hk:findIn K (.ref C) "__getattr__"=some none)(hm:mroIn K C (.type "list")=some true)
  (h:∀{A:Around} {E:VP} {R:VP},(∀v s',Q v s'→R v s')→wpAny (model prog w) A (Builtin.«object.__getattribute__» ⟨[.ref x, .str name s.toks],[]⟩) (fun fin s'=>∃v,fin= .done (.ret v)∧handedIn v=true∧R v s') E {s with toks:=s.toks+1}):
  wpAny (model prog w) A (getAttr (.ref x) name expr) Q E s:=by
 delta getAttr getAttrBy
 refine Wb (wpAny_mkText (wpAny_holding (Wb ((I.type (M:=model prog w)).here (s:={s with toks:=s.toks+1}) (Wb ((looks_findIn X hga).here (s:={s with toks:=s.toks+1}) ?_))))))
 skip
 delta getAttrByItsOwn hookBefore
 refine Wb (m:=typeLookup (.ref C) "__getattr__") ((looks_findIn X hk).here (s:={s with toks:=s.toks+1}) ?_);have e1:callGetattribute (.ref x) (.str name s.toks) (.builtin "list.__getattribute__") expr=boundAndCalled (.builtin "list.__getattribute__") (.ref x) (.str name s.toks):=by
  delta callGetattribute
  cases expr<;>rfl
 refine(e1).symm▸?_
 delta boundAndCalled
 rw[ZkU];refine Wb (wpAny_attempt (wpAny_holding (Wb (Wp ?_))));refine wpAny_mono (E:=fun μ μ=>False) (Q:=fun v s'=>handedIn v=true∧Q v s') ?_ (fun v s' hv=>?_) fun μ μ z=>z.elim
 ·refine ZaL (s:={s with toks:=s.toks+1}) X I hm ZhF ZiG Zkm Zhf (Zk1 _ _) ?_;exact wpAny_mono (h (R:=Q) fun μ μ q=>q) (fun fin s' ⟨v,e,hh,q⟩=>⟨v,e,hh,q⟩) fun μ μ z=>z
 ·dsimp only
  refine(handedOut_of hv.1).symm▸?_;exact Wp hv.2
theorem Zgo{v:Value}{expr:Bool}{Q:VP}(X:K.In s.heap)(I:InstAt s.heap x ox C od)(hga:findIn K (.ref C) "__getattribute__"=some (some (.builtin "list.__getattribute__")))(hk:findIn K (.ref C) "__getattr__"=some none)(hm:mroIn K C (.type "list")=some true)
  (hf:findObj K C od name=some (.value v))(hh:handedIn v=true)(h:Q v {s with toks:=s.toks+1}):wpAny (model prog w) A (getAttr (.ref x) name expr) Q E s:=by
 refine ZdL X I hga hk hm fun {A E R} hR=>?_
 skip
 refine Wb (Wp (Wb (Wp (Wb ((I.type (M:=model prog w)).here (s:={s with toks:=s.toks+1}) (Wb ((looks_find (M:=model prog w) X I hf).here (s:={s with toks:=s.toks+1}) ?_)))))));exact Wp ⟨v,rfl,hh,hR _ _ h⟩
theorem Zis{g a:Value}{expr:Bool}{Q:VP}(X:K.In s.heap)(I:InstAt s.heap x ox C od)(hga:findIn K (.ref C) "__getattribute__"=some (some (.builtin "list.__getattribute__")))(hk:findIn K (.ref C) "__getattr__"=some none)(hm:mroIn K C (.type "list")=some true)
  (hf:findObj K C od name=some (.bind g a))
  (h:∀{A:Around} {E:VP} {R:VP},(∀v s',Q v s'→R v s')→wpAny (model prog w) A (call g [a, .ref x, .ref C]) (fun v s'=>handedIn v=true∧R v s') E {s with toks:=s.toks+1}):wpAny (model prog w) A (getAttr (.ref x) name expr) Q E s:=by
 refine ZdL X I hga hk hm fun {A E R} hR=>?_
 skip
 refine Wb (Wp (Wb (Wp (Wb ((I.type (M:=model prog w)).here (s:={s with toks:=s.toks+1}) (Wb ((looks_find (M:=model prog w) X I hf).here (s:={s with toks:=s.toks+1}) ?_)))))))
 skip
 exact Wb (wpAny_holding (wpAny_mono (h hR) (fun v s' z=>Wp ⟨v,rfl,z.1,z.2⟩) fun μ μ z=>z))
end
section
variable{prog:Program}{w:World}{A:Around}{E:VP}{s:Shared}{K:Frag}{x C:Addr}{ox:Obj}{od:Option Obj}{name:Str}{pl:Sem Bool}{Q:Value×List Value→Shared→Prop}
theorem ZhZ{id:String}(X:K.In s.heap)(I:InstAt s.heap x ox C od)(hga:findIn K (.ref C) "__getattribute__"=some (some (.builtin "list.__getattribute__")))(hk:findIn K (.ref C) "__getattr__"=some none)
  (hf:findIn K (.ref C) name=some (some (.builtin id)))(ht:typeOf (.builtin id)=pure (.type "method_descriptor"))(hs:shadowIn od name=some false)(h:Q (.builtin id,[.ref x]) s):
  wpAny (model prog w) A (getMethod (.ref x) name pl) Q E s:=by
 have hcan:=Zd1
 delta getMethod specialOf
 refine Wb (Wb (I.type.here ((looks_findIn X hga).here ?_)))
 dsimp only
 rw[hcan,if_neg (by decide)]
 refine Wb (Wb (I.type.here ((looks_findIn X hk).here ?_)));refine Wb (Wb (I.type.here ((looks_findIn X hf).here (Wb (wpAny_of_eq ht ?_)))));rw[if_neg (by decide+kernel)]
 refine Wb (wpAny_loadPart I.at_ ?_);have hd:=I.dict;cases e:ox.dict with
 |none=>exact Wb (wpAny_rule (Wp h))
 |some dx=>
  cases od with
  |none=>rw[e]at hd;exact hd.elim
  |some o=>
   rw[e]at hd;obtain⟨r,a,b⟩:=Option.map_eq_some_iff.mp hs;refine Wb (Wb (wpAny_loadPart hd ?_));refine(nsLook_of a).symm▸?_;refine Wp ?_;refine(b).symm▸?_;exact Wb (wpAny_rule (Wp h))
end
section
variable{C:Ctx}{p:Params}{A:Around}{s:Shared}{E:VP}{x ad:Addr}{items:List Value}{n:Nat}{od:Option Obj}
theorem noAt{h h':Heap}{a:Addr}(k:∀b o,h.get? b=some o→h'.get? b=some o)(e:h'.get? a=none):h.get? a=none:=by
 cases z:h.get? a with
 |none=>rfl
 |some o=>exact nnO (e.symm.trans (k _ _ z))
theorem Zlu{h h':Heap}(k:∀b o,h.get? b=some o→h'.get? b=some o):h.get? h'.objs.size=none:=noAt k (Zw h')
theorem Zk6{a b:Value}{RR:Result→Shared→Prop}(PK:PG C p)(hs:shadowIn od "append"=some false)(hz:items.length≤sizeLine)
  (O:OldK C.base s.heap)(hi:C.inv s.heap)(I:InstAt s.heap x (Zn cA ad items n) cA od)(hroom:A.depth<recursionLimit)
  (hQ:∀s' t n',s.heap.get? t=none→s'.heap.get? t=some {cls:= .type "tuple",data:= .seq #[a,b]}→s'.heap.get? x=some (Zn cA ad (items++[.ref t]) n')→Plain (· =x) s s'→RR (.ok (.ret .none)) s'):codeAny (model C.prog C.w) A (.call (.ref 179) ⟨[.ref x,a,b],[]⟩) RR s:=by
 refine enC fc179 (bc179 _ _ _) PK O hi hroom fun s₀ L hL P hn O0 i0=>?_;have I0:=Zp I fun a o e=>P.keep a o e id;refine ks_wpAt_execs_cons (ks_wpAt_Expr_any (Ja rfl rfl rfl ?_) rfl);refine _root_.PySem.wpAt_of_wpAny ?_;refine wpAny_Name (wpAny_loadName_local k179 Zie hn (ZgQ _ _ _) fun pl=>?_);refine ZhZ (inG PK i0) I0 a_ga a_gt (by kernel_rfl:findIn (KK p) (.ref cA) "append"=some (some (.builtin "list.append"))) PySem.F.type_list_append hs ?_
 refine Zf rfl ?_;refine wpAny_items_cons (wpAny_Tuple_spliced ?_);refine wpAny_items_cons (wpAny_Name (wpAny_loadName_local k179 Zke hn (Zjl _ _ _) ?_));refine wpAny_items_cons (wpAny_Name (wpAny_loadName_local k179 ZeA hn (Zea _ _ _) ?_));refine wpAny_items_nil ⟨(by decide:2≤sizeLine),?_⟩
 refine wpAny_items_nil ⟨Zg,?_⟩;have kp:∀a' o,s₀.heap.get? a'=some o→(s₀.heap.push {cls:= .type "tuple",data:= .seq #[a,b]}).get? a'=some o:=fun a' o e=>Heap.get?_push_of_some _ e
 refine ZgI (s:={s₀ with heap:=_}) (inG PK (C.inv_step _ _ i0 fun a' o e μ=>kp a' o e)) (Zp I0 kp) Jy hz fun h' n' e1 sb=>?_;refine _root_.PySem.wpAt_of_wpAny (wpAny_execs_nil ?_);exact hQ _ s₀.heap.objs.size n' (Zlu fun b o e=>P.keep b o e id) ((sb.2 _ (Nat.ne_of_lt (Heap.lt_size I0.at_)).symm).trans (Heap.get?_push_at rfl rfl)) e1 ⟨fun p o e n=>(sb.2 p n).trans (kp _ _ (P.keep _ _ e id)),P.gens,P.os⟩
end
section
variable{C:Ctx}{p:Params}{A:Around}{s:Shared}{E:VP}{x ad:Addr}{items:List Value}{n:Nat}{od:Option Obj}
theorem ZbN{c:Code}{L:Addr}{m:Str→Option Value}{p0 p1 p2 p3 p4:Pos}{X:Stmt}{qn:Str}{f:Addr}{cd:Value}{cl:List (Str×Addr)}{whole:Sem Value}{Q:Bool→Shared→Prop}(PK:PG C p)
  (hk:(KH.fScope X).kind= .function)(l1:(KH.fScope X).names.lookup ("self":Str)=some .local)(hn:s.heap.Ns L m)(hv:m "self"=some (.ref x))(hl:Nat.beq p1.endLine p2.line=true)(hs:shadowIn od "part_count"=some false)
  (O:OldK C.base s.heap)(hi:C.inv s.heap)(I:InstAt s.heap x (Zn cA ad items n) cA od)(hroom:A.depth<recursionLimit)
  (hQ:∀s',Plain nox s s'→Q (decide (items.length=0)) s'):_root_.PySem.wpAt (model C.prog C.w) A c (isTrue (.Compare (.Call (.Attribute (.Name "self" p0) "part_count" p1) [] [] p2) [.Eq] [.Constant (.int 0) 0 p3] p4) (fE X qn f cd cl L) whole) Q E s:=by
 refine _root_.PySem.wpAt_of_wpAny (PySem.wpAny_isTrue_Compare1 ?_);rw[arm_eval_Call];refine Wb (wpAny_Name (wpAny_loadName_local hk l1 hn hv (Wb (wpAny_standAt (ZK rfl hl rfl fun pl=>?_)))));refine ZbP (f:=232) (inG PK hi) I a_ga a_gt (by kernel_rfl) (by kernel_rfl) hs ?_
 refine Zf rfl (PySem.Calls.spliced_nil ⟨ZZ (inG PK hi _ _ fc232.look) rfl,?_⟩);refine ZbD PK O hi I hroom fun s1 tk P=>?_;refine wpAny_Constant_int (PyProof.Rows.eq_int ?_);refine wpAny_truthy_bool ?_;have e3:((items.length:Int)==0)=decide (items.length=0):=decide_eq_decide.mpr Int.natCast_eq_zero;rw[e3];exact hQ _ (P.trans (Plain.toks _ _ _))
end
section
variable{C:Ctx}{p:Params}{A:Around}{s:Shared}{E:VP}{x ad:Addr}{items:List Value}{n:Nat}{od:Option Obj}
theorem ZeT{Q:VP}(PK:PG C p)(hs:shadowIn od "part_count"=some false)
  (O:OldK C.base s.heap)(hi:C.inv s.heap)(I:InstAt s.heap x (Zn cA ad [] n) cA od)(hroom:A.depth+1<recursionLimit)
  (hQ:∀s' t a b,s.heap.get? t=none→s'.heap.get? t=some {cls:= .type "tuple",data:= .seq #[.str "" a, .str "" b]}→Plain nox s s'→Q (.ref t) s'):wpAny (model C.prog C.w) A (call (.ref 195) [.ref x]) Q E s:=by
 refine enF fc195 (bc195 _) PK O hi (Nat.lt_of_succ_lt hroom) fun s₀ L hL P hn O0 i0=>?_;refine ks_wpAt_execs_cons (ks_wpAt_If ?_);refine ZbN PK k195 Za9 hn (ZaO _) rfl hs O0 i0 (Zp I fun a o e=>P.keep a o e id) hroom fun s1 P1=>?_;refine ks_wpAt_execs_cons (ks_wpAt_Return_some (_root_.PySem.wpAt_of_wpAny (wpAny_Tuple_spliced ?_)));refine wpAny_items_cons (wpAny_Constant_str (wpAny_items_cons (wpAny_Constant_str (wpAny_items_nil ⟨(by decide:2≤sizeLine),?_⟩))))
 have kp:∀a o,s.heap.get? a=some o→s1.heap.get? a=some o:=fun a o e=>P1.keep _ _ (P.keep a o e id) id;exact hQ _ s1.heap.objs.size _ _ (Zlu kp) (Heap.get?_push_at rfl rfl) ⟨fun a o e μ=>Heap.get?_push_of_some _ (kp a o e),P1.gens.trans P.gens,P1.os.trans P.os⟩
theorem Zd6{y:Value}{Q:VP}(PK:PG C p)(hs:shadowIn od "part_count"=some false)(hz:items.length+1≤sizeLine)
  (O:OldK C.base s.heap)(hi:C.inv s.heap)(I:InstAt s.heap x (Zn cA ad (items++[y]) n) cA od)(hroom:A.depth+1<recursionLimit)
  (hQ:∀s' n',s'.heap.get? x=some (Zn cA ad items n')→Plain (· =x) s s'→Q y s'):wpAny (model C.prog C.w) A (call (.ref 195) [.ref x]) Q E s:=by
 refine enF fc195 (bc195 _) PK O hi (Nat.lt_of_succ_lt hroom) fun s₀ L hL P hn O0 i0=>?_;have I0:=Zp I fun a o e=>P.keep a o e id;refine ks_wpAt_execs_cons (ks_wpAt_If ?_);refine ZbN PK k195 Za9 hn (ZaO _) rfl hs O0 i0 I0 hroom fun s1 P1=>?_;rw[decide_eq_false (show¬(items++[y]).length=0 by rw[List.length_append];exact Nat.succ_ne_zero _),if_neg (by decide)]
 refine _root_.PySem.wpAt_of_wpAny (wpAny_execs_nil ?_);have i1:=C.inv_step _ _ i0 fun a o e μ=>P1.keep a o e id;refine ks_wpAt_execs_cons (ks_wpAt_Return_some ?_);refine Zcj fc195 rfl rfl Za9 rfl rfl rfl rfl rfl (by kernel_rfl) Zlc ZaT.lookup (by decide) (.inl rfl) (fun X I q=>Zge X I Jy q) PK (Zu O0 P1 fun μ h=>h.elim) i1 (hn.keeps fun a o e=>P1.keep a o e id) (ZaO _) (Zp I0 fun a o e=>P1.keep a o e id) fun h' a tk kp hb=>?_
 have X3:=inG PK (C.inv_step _ _ i1 fun a o e μ=>kp a o e);have I3:=Zp I0 fun a o e=>kp _ _ (P1.keep a o e id);refine JE hb (.inl rfl) (fun q=>Znn X3 I3 a_cls (by kernel_rfl) a_mod a_typ q) (ZiT PySem.F.slot_list_pop.plain PySem.F.entry_list_pop (Zjb X3 I3 hz fun h4 n' e4 sb=>?_)) (plainId_quiet PySem.F.slot_list_pop.plain _)
 exact hQ _ n' e4 ⟨fun a o e n=>(sb.2 a n).trans (kp _ _ (P1.keep _ _ (P.keep _ _ e id) id)),P1.gens.trans P.gens,P1.os.trans P.os⟩
end
end Mine
end
noncomputable section
open PySem PyProof.Rows PySem.W
open PySem.Builtin PySem.Builtin.ObjectAttr
namespace Mine
set_option backward.match.sparseCases true
theorem Zel(self:Value)(c:Addr):refuseLoop self "__setattr__" [.ref c, .type "list", .type "object"]=pure ():=by
 rw[refuseLoop_ref];have h1:refuseLoop self "__setattr__" [.type "list", .type "object"]=refuseLoop self "__setattr__" [.type "object"]:=by
  kernel_rfl
 rw[h1];exact PySem.F.store_object.passes self
section
variable{prog:Program}{w:World}{A:Around}{E:VP}{s:Shared}{K:Frag}{x C:Addr}{R:Result→Shared→Prop}
theorem ZhM{ox:Obj}{od:Option Obj}{name:Str}{tk:Tok}{v:Value}{r:Option Value}{cd:ClassData}(X:K.In s.heap)(I:InstAt s.heap x ox C od)(hc:clsIn K C=some cd)(ho:refuseLoop (.ref x) "__setattr__" cd.mro=pure ())(hm':mroIn K C (.type "object")=some true)(ht:takerIn K C name=some r)
  (h:∀b,wpAny (model prog w) A.in1 (match r with|some a=>setByDescriptor a (.ref x) v|none=>storeInOwnDict (.ref x) (.ref C) (.str name tk) name v b)
   (fun fin s'=>match fin with| .done f=>R (.ok f) s'| .again c'=>c'.quiet=true∧codeAny (model prog w) A c' R s') (fun e s'=>R (.error e) s') s):
  codeAny (model prog w) A (.call (.builtin "object.__setattr__") ⟨[.ref x, .str name tk,v],[]⟩) R s:=by
 have SF:=PySem.F.store_object;have sub:Looks (model prog w) s.heap (isInstance (.ref x) (.type "object")) true:=I.type.andThen (looks_mroIn X hm');refine codeAny_call_builtin SF.slot.plain SF.entry (@check_slot (model prog w) _ _ s "object.__setattr__" "object" "__setattr__" (.ref x) [.str name tk,v] [] _ SF.kind SF.split sub (SF.args (.ref x) (.str name tk) v) ?_);obtain⟨attr,ha,hr⟩:=Option.bind_eq_some_iff.mp ht;have hm:Looks (model prog w) s.heap (mroOf (.ref C)) cd.mro:=(looks_clsIn X hc).andThen .now;have L3:Looks (model prog w) s.heap (storeTaker? attr) r:=by
  cases attr with
  |none=>cases hr;exact .now
  |some a=>
   obtain⟨b,hb,rfl⟩:=Option.map_eq_some_iff.mp hr;refine(looks_takesIn X hb).andThen ?_;cases b<;>exact .now
 rw[osa_eq,refuse_eq];refine Wb (Wb (I.type.here (Wb (hm.here ?_))));refine(ho).symm▸?_;refine Wp (Wb (I.type.here (Wb ((looks_findIn X ha).here (Wb (L3.here ?_))))));exact h _
set_option tactic.hygienic true in
theorem ZjU{ox od:Obj}{dx:Addr}{name:Str}{v:Value}{tk0:Tok}{cd:ClassData}(X:K.In s.heap)(I:InstAt s.heap x ox C (some od))(hd:ox.dict=some dx)
  (hc:clsIn K C=some cd)(hh:cd.hasDict=true)(ho:refuseLoop (.ref x) "__setattr__" cd.mro=pure ())(hm':mroIn K C (.type "object")=some true)(ht:takerIn K C name=some none)(hl:(lookIn name od).isSome=true)
  (hz:∀tk,∃es n,(Obj.putName name (PyData.keyHash w.params name) (.str name tk) v od).data= .dict es n∧es.size≤1000)
  (h:∀h' tk,h'.get? dx=some (Obj.putName name (PyData.keyHash w.params name) (.str name tk) v od)→Heap.SameBut dx s.heap h'→R (.ok (.ret .none)) {s with heap:=h',toks:=s.toks+1}):
  codeAny (model prog w) A (.call (.builtin "object.__setattr__") ⟨[.ref x, .str name tk0,v],[]⟩) R s:=by
 refine ZhM X I hc ho hm' ht fun b=>?_;have D:s.heap.get? dx=some od:=by
  have:=I.dict;rw[hd]at this;exact this
 obtain⟨hx,hcl,hn, -⟩:=I;obtain⟨oc,odi,oda,osl⟩:=ox
 dsimp only at hcl hd
 subst hcl hd;refine Wb (Wp (Wb (Wb (wpAny_loadPart hx (Wb ((looks_clsIn X hc).here ?_))))));refine(hh).symm▸?_;refine Wp (a:=some dx) (Wb (Wp (Wb ?_)));unfold nsSet;refine Wb (Wb (wpAny_askSetting (Wp (Wb (wpAny_mkText (Wb (wpAny_loadPart D ?_)))))));unfold lookIn at hl;split at hl
 ·rename_i es₀ n₀ q;refine(q).symm▸?_
  dsimp only
  have c:(!es₀.any (·.key.isStr name)&&es₀.any (·.refKey))=false:=by
   rw[←Array.any_toList,←Array.any_toList];split at hl
   ·rename_i en he;rw[List.any_eq_true.mpr ⟨en,List.mem_of_find?_eq_some he,List.find?_some he⟩];rfl
   ·split at hl
    ·exact ftB hl
    ·rename_i z;rw[Bool.not_eq_true]at z;rw[z,Bool.and_false]
  rw[aRefKeyMayBeTheName_at,c];obtain⟨es,n,e',hsz⟩:=hz s.toks;have D':(s.heap.update dx (Obj.putName name (PyData.keyHash w.params name) (.str name s.toks) v)).get? dx=some (Obj.putName name (PyData.keyHash w.params name) (.str name s.toks) v od):=
   Heap.get?_update_self _ D (by
    generalize Obj.putName name (PyData.keyHash w.params name) (.str name s.toks) v od=o at e';obtain⟨_,_,dd,_⟩:=o;cases e';rfl)
  refine wpAny_updatePart D ?_;refine Wb (wpAny_lookBehind D' (by refine(e').symm▸?_;exact pastItsLine_dict (by refine(sizeLine_eq).symm▸?_;omega)) ?_)
  exact Wp (h _ _ D' (Heap.SameBut.update ..))
 ·exact ftB hl
theorem Ze5{ox od:Obj}{dx:Addr}{name:Str}{v:Value}{cd:ClassData}{Q:Unit→Shared→Prop}(X:K.In s.heap)(I:InstAt s.heap x ox C (some od))(hd:ox.dict=some dx)(hs:findIn K (.ref C) "__setattr__"=some (some (.builtin "object.__setattr__")))
  (hc:clsIn K C=some cd)(hh:cd.hasDict=true)(ho:refuseLoop (.ref x) "__setattr__" cd.mro=pure ())(hm':mroIn K C (.type "object")=some true)(ht:takerIn K C name=some none)(hl:(lookIn name od).isSome=true)
  (hz:∀tk,∃es n,(Obj.putName name (PyData.keyHash w.params name) (.str name tk) v od).data= .dict es n∧es.size≤1000)
  (h:∀h' tk,h'.get? dx=some (Obj.putName name (PyData.keyHash w.params name) (.str name tk) v od)→Heap.SameBut dx s.heap h'→Q () {s with heap:=h',toks:=s.toks+2}):wpAny (model prog w) A (setAttr (.ref x) name v) Q E s:=
 set_plain X I hs (ZjU (s:={s with toks:=s.toks+1}) X I hd hc hh ho hm' ht hl hz fun h' tk e sb=>h h' tk e sb)
end
end Mine
end
noncomputable section
open PySem PyProof.Rows PySem.W
namespace Mine
set_option backward.match.sparseCases true
noncomputable def SizeD(od:Obj)(v:Value):Prop:=∃c d hh tk n sl,od=⟨c,d, .dict #[⟨hh, .str "_initial_size" tk,v⟩] n,sl⟩
theorem ZbL{od:Obj}{v:Value}(h:SizeD od v):lookIn "_initial_size" od=some (some v):=by
 obtain⟨c,d,hh,tk,n,sl,rfl⟩:=h;unfold lookIn
 dsimp only
 have e:(Value.str "_initial_size" tk).isStr ("_initial_size":Str)=true:=by
  show _=_;simp[Value.isStr]
 simp[List.find?,e]
theorem Yt{od:Obj}{v:Value}{name:Str}(h:SizeD od v)(hn:(("_initial_size":Str)==name)=false):shadowIn (some od) name=some false:=by
 obtain⟨c,d,hh,tk,n,sl,rfl⟩:=h
 delta shadowIn lookIn
 dsimp only
 have e:(Value.str "_initial_size" tk).isStr name=false:=by
  exact hn
 simp[List.find?,e,DictEntry.refKey]
theorem Zhk{od:Obj}{v v' key:Value}{hh:Int}(h:SizeD od v):SizeD (Obj.putName "_initial_size" hh key v' od) v':=by
 obtain⟨c,d,hh,tk,n,sl,rfl⟩:=h;rw[Obj.putName_eq];refine⟨c,d,hh,tk,n,sl,?_⟩;unfold Obj.putNameByArray;have e:(Value.str "_initial_size" tk).isStr ("_initial_size":Str)=true:=by
  simp[Value.isStr]
 simp[e]
theorem Zhl{v:Value}{hh:Int}{tk:Tok}:SizeD (Obj.putName "_initial_size" hh (.str "_initial_size" tk) v emptyDict) v:=by
 rw[Obj.putName_eq]
 delta Obj.putNameByArray emptyDict
 simp only[List.findIdx?_toArray,List.findIdx?_nil,List.push_toArray,List.nil_append];exact⟨_,_,hh,tk,_,_,rfl⟩
theorem SizeD.small{od:Obj}{v:Value}(h:SizeD od v):∃es n,od.data= .dict es n∧es.size≤1000:=by
 obtain⟨c,d,hh,tk,n,sl,rfl⟩:=h;exact⟨_,_,rfl,(by decide:1≤1000)⟩
section
variable{C:Ctx}{p:Params}{A:Around}{s:Shared}{E:VP}{x ad:Addr}{items:List Value}{n:Nat}{od:Obj}
theorem nsNe{h:Heap}{a b:Addr}{o:Obj}(ea:h.get? a=some o)(eb:h.get? b=none):a≠b:=fun e=>nnO ((e▸eb).symm.trans ea)
theorem dtNe{h:Heap}{a b:Addr}{o o':Obj}(ea:h.get? a=some o)(eb:h.get? b=some o')(hd:o.data≠o'.data):a≠b:=fun e=>hd (congrArg Obj.data (Option.some.inj (ea.symm.trans (e▸eb))))
theorem dtNe'{h:Heap}{a b:Addr}{o o':Obj}(ea:h.get? a=some o)(eb:h.get? b=some o')(hd:o.cls≠o'.cls):a≠b:=fun e=>hd (congrArg Obj.cls (Option.some.inj (ea.symm.trans (e▸eb))))
theorem Ze4{v v0:Value}{Q:Unit→Shared→Prop}(X:(KK p).In s.heap)(I:InstAt s.heap x (Zn cA ad items n) cA (some od))(hs:SizeD od v0∨od=emptyDict)
  (h:∀h' od',SizeD od' v→InstAt h' x (Zn cA ad items n) cA (some od')→Heap.SameBut ad s.heap h'→Q () {s with heap:=h',toks:=s.toks+2}):wpAny (model C.prog C.w) A (setAttr (.ref x) "_initial_size" v) Q E s:=by
 have hp:∀tk,SizeD (Obj.putName "_initial_size" (PyData.keyHash C.w.params "_initial_size") (.str "_initial_size" tk) v od) v:=fun tk=>hs.elim (fun hs=>Zhk hs) fun e=>e▸Zhl;have hl:(lookIn "_initial_size" od).isSome=true:=hs.elim (fun hs=>(ZbL hs).symm▸rfl) fun e=>e▸rfl;have hne:x≠ad:=dtNe I.at_ (show s.heap.get? ad=some od from I.dict) fun e=>by
  have h1:lookIn "_initial_size" od=none:=by unfold lookIn;rw[←e]
  rw[h1]at hl;exact ftB hl
 refine Ze5 X I rfl a_sa a_cls (by kernel_rfl) (Zel _ _:refuseLoop (.ref x) "__setattr__" (clsA p).mro=pure ()) a_obj Zpf hl (fun tk=>(hp tk).small) fun h' tk e sb=>?_
 exact h h' _ (hp tk) ⟨(sb.2 x hne).trans I.at_,rfl,rfl,e⟩ sb
theorem ZgF{v:Value}{R:Result→Shared→Prop}(PK:PG C p)(O:OldK C.base s.heap)(hi:C.inv s.heap)(I:InstAt s.heap x (Zn cA ad [] n) cA (some emptyDict))(hlo:C.base.objs.size≤ad)(hroom:A.depth+1<recursionLimit)
  (hQ:∀s' od' n',SizeD od' v→s'.heap.get? x=some (Zn cA ad [] n')→s'.heap.get? ad=some od'→Plain (fun a=>a=x∨a=ad) s s'→R (.ok (.ret .none)) s'):codeAny (model C.prog C.w) A (.call (.ref 172) ⟨[.ref x,v],[]⟩) R s:=by
 refine enC fc172 (bc172 _ _) PK O hi (Nat.lt_of_succ_lt hroom) fun s₀ L hL P hn O0 i0=>?_;have hd:s.heap.get? ad=some emptyDict:=I.dict;refine ks_wpAt_execs_cons (ks_wpAt_Assign_Attr (_root_.PySem.wpAt_of_wpAny (wpAny_Name (wpAny_loadName_local k172 Zkf hn (Zjm _ _) (wpAny_Name (wpAny_loadName_local k172 ZdA hn (ZcY _ _) ?_))))));refine Ze4 (v0:= .none) (inG PK i0) (Zp I fun a o e=>P.keep a o e id) (.inr rfl) fun h1 od1 z1 I1 sb=>?_;have PP:Plain (· =ad) s₀ {s₀ with heap:=h1,toks:=s₀.toks+2}:=⟨fun a o e n=>(sb.2 a n).trans e,rfl,rfl⟩;have i1:C.inv h1:=C.inv_step _ _ i0 fun a o e hb=>(sb.2 a (fun q=>absurd (q▸hlo) (Nat.not_le.mpr hb))).trans e;refine ks_wpAt_execs_cons (ks_wpAt_Expr_any ?_ rfl);refine Zcj (s:={s₀ with heap:=h1,toks:=_}) fc172 rfl rfl ZdA rfl rfl rfl rfl rfl (by kernel_rfl) ZgY YQ.lookup (by decide) (.inr rfl) (fun X I q=>Zd8 X I Jy q) PK (Zu O0 PP fun a h=>h▸hlo) i1 (hn.sameBut sb (nsNe hd hL).symm) (ZcY _ _) I1 fun h' a tk kp hb=>?_
 refine JE hb (.inr rfl) (fun q=>ZfH (.inl rfl) q) (ZiT PySem.F.slot_list_init.plain PySem.F.entry_list_init (ZgG (inG PK (C.inv_step _ _ i1 fun a o e μ=>kp a o e)) (Zp I1 kp) (Nat.zero_le _) fun h4 n' e4 sb4=>?_)) (plainId_quiet PySem.F.slot_list_init.plain _);refine _root_.PySem.wpAt_of_wpAny (wpAny_execs_nil ?_);exact hQ _ od1 n' z1 e4 ((sb4.2 ad (dtNe hd I.at_ fun e=>Data.noConfusion e)).trans (kp _ _ I1.dict)) ⟨fun a o e n=>(sb4.2 a fun q=>n (.inl q)).trans (kp _ _ ((sb.2 a fun q=>n (.inr q)).trans (P.keep _ _ e id))),P.gens,P.os⟩
end
section
variable{C:Ctx}{p:Params}{A:Around}{s:Shared}{E:VP}{x D:Addr}{ox:Obj}{od:Obj}{v:Value}{name:Str}{expr:Bool}
theorem Zfc{K:Frag}{cd:ClassData}(hc:clsIn K D=some cd)(hh:cd.hasDict=true)(hn:findIn K (.ref D) name=some none)(hl:lookIn name od=some (some v)):findObj K D (some od) name=some (.value v):=by
 delta findObj PySem.W.ownOf
 rw[hc,hn,Option.bind_some,Option.bind_some];simp[hh,hl]
theorem Znb{Q:VP}(X:(KK p).In s.heap)(I:InstAt s.heap x ox cP (some od))(hn:findIn (KK p) (.ref cP) name=some none)(hl:lookIn name od=some (some v))(hv:handedIn v=true)
  (h:Q v {s with toks:=s.toks+1}):wpAny (model C.prog C.w) A (getAttr (.ref x) name expr) Q E s:=
 get_value X I p_ga (Zfc p_cls (by kernel_rfl) hn hl) hv h
theorem Zkv{Q:VP}(X:(KK p).In s.heap)(I:InstAt s.heap x ox cA (some od))(hn:findIn (KK p) (.ref cA) name=some none)(hl:lookIn name od=some (some v))(hv:handedIn v=true)
  (h:Q v {s with toks:=s.toks+1}):wpAny (model C.prog C.w) A (getAttr (.ref x) name expr) Q E s:=
 Zgo X I a_ga a_gt Jy (Zfc a_cls (by kernel_rfl) hn hl) hv h
end
theorem Zl7:typeOf (.builtin "list.__iter__")=pure (.type "wrapper_descriptor"):=by show builtinType _=_;rw[builtinType_eq_fast];kernel_rfl
theorem Zi3(self:Value):bindSpecial (.builtin "list.__iter__") self=pure (.builtin "list.__iter__",[self]):=by
 unfold bindSpecial;rw[Zl7]
 rfl
section
variable{C:Ctx}{p:Params}{A:Around}{s:Shared}{E:VP}{x ad:Addr}{od:Option Obj}{items:List Value}{n:Nat}
theorem Zc4{prog:Program}{w:World}{rf:Sem Value}{Q:Option Value→Shared→Prop}(X:(KK p).In s.heap)(I:InstAt s.heap x (Zn cA ad items n) cA od)
  (h:wpAny (model prog w) A (call (.builtin "list.__iter__") [.ref x]) (fun v=>Q (some v)) E s):wpAny (model prog w) A (callSpecialIfBoundUnlessNone? (.ref x) "__iter__" rf) Q E s:=by
 skip
 refine wpAny_holding (Wb (Wb (Wb (I.type.here ((looks_findIn X ZlT).here ?_)))));refine Wb (wpAny_askSetting (wpAny_ite ?_));rw[Zi3];have fin:wpAny (model prog w) A (call (.builtin "list.__iter__") [.ref x] >>= fun v=>pure (some v)) Q E s:=Wb (wpAny_mono h (fun v s' h'=>Wp h') fun μ μ h'=>h');split
 ·exact Wb (Wp (Wp fin))
 ·exact wpAny_tryCatch (Wb (Wp (Wp fin)))
theorem Zf6{prog:Program}{w:World}{Q:VP}(X:(KK p).In s.heap)(I:InstAt s.heap x (Zn cA ad items n) cA od)
  (hQ:Q (.ref s.heap.objs.size) {s with heap:=s.heap.push {cls:= .type "list_iterator",data:= .fields #[.ref x, .int 0 0]}}):wpAny (model prog w) A (pyIter (.ref x)) Q E s:=by
 skip
 refine Wb (m:=specialOf (.ref x) "__iter__") (Wb (I.type.here ((looks_findIn X ZlT).here ?_)))
 skip
 refine Wb (m:=callSpecialIfBoundUnlessNone? _ _ _) (Zc4 X I (Zk7 X I Jy ?_));have hi:Heap.IsListIter (s.heap.push {cls:= .type "list_iterator",data:= .fields #[.ref x, .int 0 0]}) s.heap.objs.size x 0:=⟨_,Heap.get?_push_size _ rfl,rfl,rfl⟩
 skip
 refine Wb (wpAny_specialOf (s:={s with heap:=_}) hi.typeIs slot_listiter_next.lookup ?_);exact Wp hQ
end
theorem JO{base h h':Heap}{S:Addr→Prop}(K:OldK base h)(hk:∀a o,h.get? a=some o→¬S a→h'.get? a=some o)(hS:∀a,S a→base.objs.size≤a):OldK base h':=by
 have ne:∀b,b<base.objs.size→¬S b:=fun b hb hs=>absurd (hS b hs) (Nat.not_le.mpr hb);refine⟨fun b o e=>?_,fun b o e=>?_⟩
 ·have hb:=Heap.lt_size e;rcases K.old b o e with x|⟨t,hc,vs,more,hv,x⟩|⟨rfl,hc,⟨o',es,n,ho',r⟩,z⟩
  ·exact .inl (hk _ _ x (ne b hb))
  ·exact .inr (.inl ⟨t,hc,vs,more,hv,hk _ _ x (ne b hb)⟩)
  ·exact .inr (.inr ⟨rfl,hc,⟨o',es,n,hk _ _ ho' (ne _ hb),r⟩,fun key=>by refine(OldK.staticOf_congr ((hk _ _ ho' (ne _ hb)).trans ho'.symm) key).symm▸?_;exact z key⟩)
 ·obtain⟨o',ho'⟩:=K.there b o e;exact⟨o',hk _ _ ho' (ne b (Heap.lt_size e))⟩
theorem Yd{C:Ctx}{h:Heap}(O:OldK C.base h):C.base.objs.size≤h.objs.size:=by
 obtain⟨n,o,hn,ho⟩:=C.last;obtain⟨o',ho'⟩:=O.there n o ho;refine(hn).symm▸?_;exact Heap.lt_size ho'
theorem Mv.moved{C:Ctx}{T:List (Addr×Addr)}{S:Addr→Prop}{s s5 s':Shared}{wr:List Addr}{g:Nat}(M:Mv C T S s s5)(x:Moved wr (GenOnlyQ g) s5 s')(hw:∀b∈wr,s.heap.get? b=none∧C.base.objs.size≤b)(hg:s.gens.size≤g):Mv C T S s s' where
 keep:=fun a o e n t=>x.heap a o (fun h=>by rw[(hw a h).1]at e;exact nnO e) (M.keep a o e n t)
 live:=fun a o e n=>by
  obtain⟨o',e'⟩:=M.live a o e n;exact⟨o',x.heap a o' (fun h=>by rw[(hw a h).1]at e;exact nnO e) e'⟩
 old:=fun h i=>by
  obtain⟨h1,i1⟩:=M.old h i;refine⟨JO (S:=(· ∈wr)) h1 (fun a o e n=>x.heap a o n e) fun a h=>(hw a h).2,C.inv_step _ _ i1 fun a o e hb=>x.heap a o (fun h=>absurd (hw a h).2 (Nat.not_le.mpr hb)) e⟩
 gk:=fun k gs e=>by
  have hlt:k<s.gens.size:=(Array.getElem?_eq_some_iff.mp e).1;have e5:=M.gk k gs e;rcases x.gens with h|⟨⟨_,h⟩,_⟩
  ·refine(h).symm▸?_;exact e5
  ·refine(h k (by lia)).symm▸?_;exact e5
 gsz:=by
  rcases x.gens with h|⟨⟨h,_⟩,_⟩
  ·refine(h).symm▸?_;exact M.gsz
  ·refine(h).symm▸?_;exact M.gsz
 bare:=fun h=>x.gens.bare (M.bare h)
 os:=x.os.trans M.os
theorem Za0(n:Nat):passing (fun μ=>true) n 0=List.range n:=by
 unfold passing;simp
theorem ZeM{C:Ctx}{p:Params}{A:Around}{s:Shared}{E:VP}{Q:Addr→Shared→Prop}{r:Addr}(PK:PG C p)(X:(KK p).In s.heap)(O:OldK C.base s.heap)(h:Q builtinsNs s):wpAny (model C.prog C.w) A (builtinsFor mainGlobals r) Q E s:=
 wpAny_builtinsFor (YS O C.g (by decide)) (PK.cf.mg _ (some (.ref 4)) (by kernel_rfl)) (by decide) (X 4 ⟨.type "module",some 0, .plain, #[]⟩ (by kernel_rfl)) rfl rfl rfl h
theorem Zm8{scope:Scope}(h:(scope.names.all fun y=>!(y.2== .free))=true):∀env,closureFor scope env=pure []:=by
 intro env;unfold closureFor;obtain⟨k,names,g,c,m⟩:=scope
 dsimp only at h ⊢
 have key:∀(l:List (Str×NameKind)),(l.all fun y=>!(y.2== .free))=true→∀(f:Str×NameKind→List (Str×Addr)→Sem (ForInStep (List (Str×Addr)))),(∀y acc,y.2≠ .free→f y acc=pure (.yield acc))→(forIn l ([]:List (Str×Addr)) f:Sem _)=pure []:=by
  intro l hl f hf
  induction l with
  |nil=>rfl
  |cons y r ih=>
   rw[List.all_cons,Bool.and_eq_true]at hl;have hy:y.2≠ .free:=by intro e;rw[e]at hl;exact absurd hl.1 (by decide)
   rw[List.forIn_cons,hf y [] hy];exact ih hl.2
 rw[key names h _ fun y acc hy=>?_]
 ·rfl
 ·obtain⟨nm,kd⟩:=y;have:(kd==NameKind.free)=false:=by simpa using hy
  refine(this)▸?_
  rfl
noncomputable def gsOK(sc:Scope):Bool:=!sc.isCoroutine&&(sc.names.all (fun y=>!(y.2== .free))&&(sc.names.all (fun y=>y.2 != .cell)&&(sc.names.lookup (".0":Str)==some .local&&(sc.names.lookup ("fws":Str)==some .local&&(sc.names.lookup ("part":Str)==some .local&&sc.kind== .function)))))
theorem Zm9{sc:Scope}(h:gsOK sc=true):sc.isCoroutine=false∧(sc.names.all (fun y=>!(y.2== .free)))=true∧(∀y∈sc.names,y.2≠ .cell)∧sc.names.lookup (".0":Str)=some .local∧sc.names.lookup ("fws":Str)=some .local∧sc.names.lookup ("part":Str)=some .local∧sc.kind= .function:=by
 unfold gsOK at h;simp only[Bool.and_eq_true,beq_iff_eq,Bool.not_eq_true']at h;exact⟨h.1,h.2.1,fun y hy=>by simpa using List.all_eq_true.mp h.2.2.1 y hy,h.2.2.2⟩
section
variable{C:Ctx}{p:Params}{A:Around}{s:Shared}{E:VP}{x ad:Addr}{od:Option Obj}{items:List Value}{n:Nat}
structure GenElt(C:Ctx)(D' U':Nat)(n₀:Nat)(va vb:Nat→Value)(elt:Expr)(cenv:Env)(F:Nat→Value→Prop):Prop where
 elt:∀(A':Around) (E':VP) i (t:Shared) m₂,i<n₀→A'.handled=none→A'.depth≤D'→A'.units≤U'→t.heap.Ns cenv.locals m₂→m₂ "fws"=some (va i)→m₂ "part"=some (vb i)→OldK C.base t.heap→C.inv t.heap→
  wpAny (model C.prog C.w) A' (eval elt cenv) (fun y s₃=>F i y∧Keeps t s₃) E' t
noncomputable abbrev Zho(elt:Expr)(pa pb pt pi pos:Pos)(kt:Nat)(scope:Scope):Expr:= .GeneratorExp elt [⟨.Tuple [.Name "fws" pa, .Name "part" pb] kt pt, .Name "self" pi,[],0⟩] scope pos
set_option maxHeartbeats 1000000 in
theorem ZgH{env:Env}{elt:Expr}{pa pb pt pi pos:Pos}{kt:Nat}{scope:Scope}{cda P:Addr}{m:Str→Option Value}{Ts:Nat→Addr}{va vb:Nat→Value}{F:Nat→Value→Prop}{Q:VP}
  (PK:PG C p)(hT:(cda,P)∈TB)(hcode:env.code= .ref cda)(hgl:env.globals=mainGlobals)(hh:A.handled=none)(hgs:gsOK scope=true)(hroom:A.depth<recursionLimit)
  (hk:env.scope.kind= .function)(l1:env.scope.names.lookup ("self":Str)=some .local)(hn:s.heap.Ns env.locals m)(hv:m "self"=some (.ref x))
  (O:OldK C.base s.heap)(hi:C.inv s.heap)(I:InstAt s.heap x (Zn cA ad items n) cA od)
  (hit:∀j,j<items.length→items[j]? =some (.ref (Ts j)))(htup:∀j,j<items.length→s.heap.get? (Ts j)=some {cls:= .type "tuple",data:= .seq #[va j,vb j]})
  (helt:∀code Cc,GenElt C (A.depth+1) (A.units+8) items.length va vb elt (genEnv scope [] Cc code builtinsNs env) F)
  (hQ:∀a s₅ fp wr g St,Mv C TB nox s s₅→s.heap.get? a=none→WalksS C.prog C.w A.in4 a fp wr (GenOnlyQ g) items.length F St→St 0 s₅→(∀b∈fp,b<s₅.heap.objs.size)→a∈fp→(∀b∈wr,s.heap.get? b=none∧C.base.objs.size≤b)→s.gens.size≤g→
   (∀i s',St i s'→s'.TypeIs (.ref a) "generator")→Q (.ref a) s₅):
  wpAny (model C.prog C.w) A (eval (Zho elt pa pb pt pi pos kt scope) env) Q E s:=by
 have X:=inG PK hi;obtain⟨c0,d0,hlist⟩:=(PK.pf.inv _).mp hi;obtain⟨ps,hc,ht⟩:=tabK hT X (hlist _ hT);have hg:=Zm9 hgs;refine wpAny_GeneratorExp_walksQTD hh hg.1 (Zm8 hg.2.1 _) hg.2.2.1 hg.2.2.2.1 hg.2.2.2.2.1 hg.2.2.2.2.2.1 (by decide) hg.2.2.2.2.2.2 hroom ?_ (fun μ=>rfl)
 refine wpAny_Name (wpAny_loadName_local hk l1 hn hv ?_);refine Zf6 X I ?_;have P1:Plain nox s {s with heap:=s.heap.push {cls:= .type "list_iterator",data:= .fields #[.ref x, .int 0 0]}}:=Plain.push' _ _ _
 have M1:Mv C TB nox s {s with heap:=s.heap.push {cls:= .type "list_iterator",data:= .fields #[.ref x, .int 0 0]}}:=Mv.plain0 P1
 have kp1:∀a o,s.heap.get? a=some o→(s.heap.push {cls:= .type "list_iterator",data:= .fields #[.ref x, .int 0 0]}).get? a=some o:=fun a o e=>Heap.get?_push_of_some _ e
 obtain⟨O1,i1⟩:=M1.old O hi;refine⟨C.lim _ i1,?_⟩;have hIt:Heap.IsListIter (s.heap.push {cls:= .type "list_iterator",data:= .fields #[.ref x, .int 0 0]}) s.heap.objs.size x 0:=⟨_,Heap.get?_push_size _ rfl,rfl,rfl⟩
 have hc1:=hc.keeps kp1;have ht1:=ht.keeps kp1;have key:∀(code:Value) (h3:Heap) (tk:Nat),Mv C TB nox s {s with heap:=h3,toks:=tk}→Heap.ExtBut P (s.heap.push {cls:= .type "list_iterator",data:= .fields #[.ref x, .int 0 0]}) h3→
   s.heap.objs.size<h3.objs.size→wpAny (model C.prog C.w) A (builtinsFor env.globals env.builtins) (fun bi s₄=>
    ∃I fp wr n₀ Pt St₀ Mid pz F,Value.ref s.heap.objs.size= .ref I∧(∀A':Around,A'.handled=none→WalksU C.prog C.w A' I fp wr n₀ Pt St₀ Mid)∧(∀i vals,Pt i vals→∃va vb,vals= #[va,vb])∧St₀ 0 s₄.heap∧(∀b∈fp,b<s₄.heap.objs.size)∧s₄.heap.NoLimit∧cStatics∉wr∧
     (∀href:Heap,(∀b o,s₄.heap.get? b=some o→href.get? b=some o)→
      QuietGenTD C.prog C.w (genEnv scope [] s₄.heap.objs.size code bi env) "fws" "part" [] elt (List.range s₄.heap.objs.size) wr Pt pz F href (A.depth+1) (A.units+8))∧
     (∀a h₅ tk gs,gs.bare=true→s₄.heap.objs.size<a→h₅.objs.size=a+1→(∀b o,s₄.heap.get? b=some o→h₅.get? b=some o)→
      WalksS C.prog C.w A.in4 a (a::s₄.heap.objs.size::List.range s₄.heap.objs.size) (s₄.heap.objs.size::wr) (GenOnlyQ s₄.gens.size) (passing pz n₀ 0).length
       (fun j y=>∃i,(passing pz n₀ 0)[j]? =some i∧F i y) (GenAt C.prog C.w A.in4 a s₄.gens.size s₄.heap.objs.size (List.range s₄.heap.objs.size) wr pz n₀ F)→
      GenAt C.prog C.w A.in4 a s₄.gens.size s₄.heap.objs.size (List.range s₄.heap.objs.size) wr pz n₀ F 0 {s₄ with gens:=s₄.gens.push gs,toks:=tk,heap:=h₅}→
      Q (.ref a) {s₄ with gens:=s₄.gens.push gs,toks:=tk,heap:=h₅})) E {s with heap:=h3,toks:=tk}:=by
  intro code h3 tk M3 hx3 hsz3;obtain⟨O3,i3⟩:=M3.old O hi;have X3:=inG PK i3;refine(hgl).symm▸?_;refine ZeM PK X3 O3 ?_;have nP:∀a o,s.heap.get? a=some o→a≠P→h3.get? a=some o:=fun a o e ne=>hx3 a o ne (kp1 a o e);have tab:s.heap.get? P=some {cls:= .none,data:= .fields ps}:=ht.2;have iP:s.heap.objs.size≠P:=(nsNe tab (Zw _)).symm;have hIt3:Heap.IsListIter h3 s.heap.objs.size x 0:=by
   obtain⟨o,e,r⟩:=hIt;exact⟨o,hx3 _ _ iP e,r⟩
  have hxP:x≠P:=dtNe I.at_ tab fun e=>Data.noConfusion e;have hxI:x≠s.heap.objs.size:=Nat.ne_of_lt (Heap.lt_size I.at_);have hsq:IsSeq h3 x items.toArray:=⟨_,_,nP _ _ I.at_ hxP,rfl⟩;have hTI:∀j,j<items.toArray.size→Ts j≠s.heap.objs.size:=fun j hj=>Nat.ne_of_lt (Heap.lt_size (htup j (by exact hj)))
  have hTP:∀j,j<items.length→Ts j≠P:=fun j hj=>dtNe (htup j hj) tab fun e=>Data.noConfusion e;refine exI9 (s.heap.objs.size) (s.heap.objs.size::x::(List.range items.toArray.size).map Ts) [s.heap.objs.size] (items.toArray.size) (fun j v=>j<items.toArray.size∧v= #[va j,vb j])
   (fun j h=>h.IsListIter s.heap.objs.size x j∧IsSeq h x items.toArray∧∀k,k<items.toArray.size→h.IsTuple (Ts k) #[va k,vb k])
   (fun j T h=>(j<items.toArray.size∧T=Ts j)∧h.IsListIter s.heap.objs.size x (j+1)∧IsSeq h x items.toArray∧∀k,k<items.toArray.size→h.IsTuple (Ts k) #[va k,vb k]) (fun μ=>true) F ⟨rfl,?_,?_,?_,?_,?_,?_,?_,?_⟩
  ·intro A' hA';have W:=Zl3 (prog:=C.prog) (w:=C.w) hA' s.heap.objs.size x hxI items.toArray Ts (fun j=> #[va j,vb j]) (fun j hj=>by have:=hit j (by exact hj);simpa using this) hTI
   exact {W with item:=fun i s' Q' E' hi' st h=>W.item i s' Q' E' hi' st fun T vals h' tk hP=>h T vals h' tk ⟨hi',hP⟩}
  ·rintro i vals ⟨-,rfl⟩;exact⟨_,_,rfl⟩
  ·exact⟨hIt3,hsq,fun k hk=>⟨_,nP _ _ (htup k (by exact hk)) (hTP k (by exact hk)),rfl,_,rfl⟩⟩
  ·intro b hb
   skip
   rcases List.mem_cons.mp hb with rfl|hb
   ·exact hsz3
   ·rcases List.mem_cons.mp hb with rfl|hb
    ·exact Nat.lt_trans (Heap.lt_size I.at_) hsz3
    ·obtain⟨j,hj,rfl⟩:=List.mem_map.mp hb;exact Nat.lt_trans (Heap.lt_size (htup j (by simpa using hj))) hsz3
  ·exact C.lim _ i3
  ·intro hm;have e:cStatics=s.heap.objs.size:=by simpa using hm
   have hb:=Yd O;obtain⟨mc,hns,_⟩:=C.lim _ hi;obtain⟨o,_,_,ho,_⟩:=hns;rw[e,Zw]at ho;exact nnO ho
  ·intro href hhref;have inB:∀(t:Shared),(∀b∈List.range h3.objs.size,b∉[s.heap.objs.size]→∀o,href.get? b=some o→t.heap.get? b=some o)→OldK C.base t.heap∧C.inv t.heap:=fun t hkp=>by
    have kk:∀a o,h3.get? a=some o→¬a=s.heap.objs.size→t.heap.get? a=some o:=fun a o e n=>hkp a (List.mem_range.mpr (Heap.lt_size e)) (by simpa using n) o (hhref a o e)
    exact⟨JO (S:=(· =s.heap.objs.size)) O3 kk fun a h=>h▸Yd O,C.inv_step _ _ i3 fun a o e hb=>kk a o e fun h=>absurd (h▸Yd O) (Nat.not_le.mpr hb)⟩
   exact⟨fun A' E' i va' vb' t m₂ hA hD hU hP hn' hma hmb hkp=>Wp ⟨rfl,_,_,rfl,fun μ μ e=>e⟩,
    fun A' E' i va' vb' t m₂ hA hD hU hP hp hn' hma hmb hkp=>by
     obtain⟨hP1,hP2⟩:=hP;have e1:va'=va i:=by
      have:=congrArg (fun a:Array Value=>a[0]?) hP2;simpa using this
     have e2:vb'=vb i:=by
      have:=congrArg (fun a:Array Value=>a[1]?) hP2;simpa using this
     subst e1 e2;obtain⟨Ot,it⟩:=inB t hkp;exact(helt code h3.objs.size).elt A' E' i t m₂ (by exact hP1) hA hD hU hn' hma hmb Ot it⟩
  ·intro a h5 tk5 gs hb5 ha5 hsz5 hk5 W hat;have hlen:(passing (fun μ=>true) items.toArray.size 0).length=items.length:=by rw[Za0];simp
   rw[hlen]at W;have ha5':s.heap.objs.size<a:=Nat.lt_trans hsz3 ha5;have fr:∀b,s.heap.objs.size≤b→s.heap.get? b=none∧C.base.objs.size≤b:=fun b hb=>⟨ZH hb,Nat.le_trans (Yd O) hb⟩;refine hQ a _ _ _ s.gens.size _ ?_ (ZH (Nat.le_of_lt ha5')) {W with item:=fun i s' Q' E' hi' st h=>W.item i s' Q' E' hi' st fun v s'' hP=>h v s'' (by
     obtain⟨i',h1,h2⟩:=hP;rw[Za0]at h1;have:i'=i:=by
      rw[List.getElem?_eq_some_iff]at h1;obtain⟨_,h1⟩:=h1;simpa using h1.symm
     exact this▸h2)} hat ?_ List.mem_cons_self ?_ (Nat.le_refl _) fun i s' st=>st.1.typeIs
   ·refine⟨fun b o e n t=>hk5 b o (M3.keep b o e n t),fun b o e n=>?_,fun O' i'=>?_,fun k gs' e=>?_,?_,fun h=>?_,M3.os⟩
    ·obtain⟨o',e'⟩:=M3.live b o e n;exact⟨o',hk5 _ _ e'⟩
    ·exact⟨JO (S:=nox) O3 (fun b o e μ=>hk5 b o e) fun μ h=>h.elim,C.inv_step _ _ i3 fun b o e μ=>hk5 b o e⟩
    ·show(s.gens.push gs)[k]? =some gs';rw[Array.getElem?_push,if_neg (by have:=(Array.getElem?_eq_some_iff.mp e).1;lia)]
     exact e
    ·show s.gens.size≤(s.gens.push gs).size;simp
    ·exact AllBare.push h hb5
   ·intro b hb
    skip
    refine(hsz5).symm▸?_;rcases List.mem_cons.mp hb with rfl|hb
    ·exact Nat.lt_succ_self _
    ·rcases List.mem_cons.mp hb with rfl|hb
     ·exact Nat.lt_succ_of_lt ha5
     ·exact Nat.lt_succ_of_lt (Nat.lt_trans (List.mem_range.mp hb) ha5)
   ·intro b hb;rcases List.mem_cons.mp hb with rfl|hb
    ·exact fr _ (Nat.le_of_lt hsz3)
    ·have:b=s.heap.objs.size:=by simpa using hb
     exact fr _ (Nat.le_of_eq this.symm)
 cases hnf:codeAmong pos ps.toList with
 |none=>
  refine wpAny_genexprCodeX (s:={s with heap:=s.heap.push _}) hcode hc1 ht1 hnf fun c' h₃ tk₃ hx₃ hge hlt hcode₃ μ htab₃ μ=>?_;have hsz3:s.heap.objs.size<h₃.objs.size:=Nat.lt_of_lt_of_le (by rw[Heap.size_push];exact Nat.lt_succ_self _) (Nat.le_trans hge (Nat.le_of_lt hlt))
  exact key (.ref c') h₃ tk₃ (M1.trans (Mv.grow (s:={s with heap:=s.heap.push _}) PK.pf hT ht1 hcode₃ htab₃ hx₃)) hx₃ hsz3
 |some c'=>
  refine wpAny_genexprCode_hit (s:={s with heap:=s.heap.push _}) hcode hc1 hnf ?_;exact key c' _ s.toks M1 (Heap.ExtBut.refl _ _) (by rw[Heap.size_push];exact Nat.lt_succ_self _)
end
section
variable{C:Ctx}{A:Around}{s:Shared}{E:VP}{env:Env}{f:Str}{p pos:Pos}{v:Value}{Q:VP}
theorem nameG{M:Model}(hk:env.scope.kind= .function)(hx:env.kindOf f=some .globalImplicit)(hgl:env.globals=mainGlobals)(O:OldK C.base s.heap)(h0:C.mg f=some v)(hd:(f==("__debug__":Str))=false)(hQ:Q v s):wpAny M A (eval (.Name f p) env) Q E s:=
 Calls.Name_function_global hk hx (Calls.loadGlobal_global (by rw[hgl];exact YS O C.g (by decide)) h0 hQ) hd
theorem nameB{M:Model}(hk:env.scope.kind= .function)(hx:env.kindOf f=some .globalImplicit)(hgl:env.globals=mainGlobals)(hbl:env.builtins=builtinsNs)(O:OldK C.base s.heap)(h0:C.mg f=none)(h1:bootBuiltins f=some v)(h2:f≠"__name__")(hd:(f==("__debug__":Str))=false)(hQ:Q v s):
  wpAny M A (eval (.Name f p) env) Q E s:=
 Calls.Name_function_global hk hx (Calls.loadGlobal_builtin (by rw[hgl];exact YS O C.g (by decide)) h0 (by rw[hbl];exact YS O C.b (by decide)) (by rw[C.bi f h2];exact h1) hQ) hd
theorem Yb{id:String}{args:List Expr}(hk:env.scope.kind= .function)(hx:env.kindOf f=some .globalImplicit)(hgl:env.globals=mainGlobals)(hbl:env.builtins=builtinsNs)(O:OldK C.base s.heap)(h0:C.mg f=none)(h1:bootBuiltins f=some (.builtin id))(h2:f≠"__name__")(hd:(f==("__debug__":Str))=false)
  (hst:Z3 args=true)(h:wpAny (model C.prog C.w) A (spliced (backTo pos (starEach args env))) (fun vs s₁=>wpAny (model C.prog C.w) A (call (.builtin id) vs) Q E s₁) E s):
  wpAny (model C.prog C.w) A (eval (.Call (.Name f p) args [] pos) env) Q E s:=by
 refine Call_Name rfl (nameB hk hx hgl hbl O h0 h1 h2 hd ?_);exact Zf (ZC hst) (wpAny_mono h (fun vs s₁ h=>⟨Zg,h⟩) fun μ μ e=>e)
theorem Zb9{id:String}{args:List Expr}(hk:env.scope.kind= .function)(hx:env.kindOf f=some .globalImplicit)(hgl:env.globals=mainGlobals)(hbl:env.builtins=builtinsNs)(O:OldK C.base s.heap)(h0:C.mg f=none)(h1:bootBuiltins f=some (.type id))(h2:f≠"__name__")(hd:(f==("__debug__":Str))=false)
  (hst:Z3 args=true)(h:wpAny (model C.prog C.w) A (spliced (backTo pos (starEach args env))) (fun vs s₁=>wpAny (model C.prog C.w) A (call (.type id) vs) Q E s₁) E s):
  wpAny (model C.prog C.w) A (eval (.Call (.Name f p) args [] pos) env) Q E s:=by
 refine Call_Name rfl (nameB hk hx hgl hbl O h0 h1 h2 hd ?_);exact Zf (ZC hst) (wpAny_mono h (fun vs s₁ h=>⟨YY,h⟩) fun μ μ e=>e)
end
noncomputable abbrev ZoG(p0 p1 p2 p3 p4 p5 p6:Pos):Expr:= .BinOp (.Call (.Name "len" p0) [.Name "fws" p1] [] p2) .Add (.Call (.Name "len" p3) [.Name "part" p4] [] p5) p6
section
variable{C:Ctx}{K:Frag}{T:List (Addr×Addr)}{A:Around}{s:Shared}{E:VP}
theorem Zh8{p0 p1 p2 p3 p4 p5 p6:Pos}{D' U' n₀:Nat}{sa sb:Nat→Str}{ta tb:Nat→Tok}{cenv:Env}(hk:cenv.scope.kind= .function)(hl:cenv.kindOf "len"=some .globalImplicit)(ha:cenv.kindOf "fws"=some .local)(hb:cenv.kindOf "part"=some .local)
  (hgl:cenv.globals=mainGlobals)(hbl:cenv.builtins=builtinsNs)(h0:C.mg "len"=none)(hs:∀i,i<n₀→(sa i).length≤4096∧(sb i).length≤4096):
  GenElt C D' U' n₀ (fun i=> .str (sa i) (ta i)) (fun i=> .str (sb i) (tb i)) (ZoG p0 p1 p2 p3 p4 p5 p6) cenv (fun i y=>∃t,y= .int (((sa i).length+(sb i).length:Nat):Int) t) where
 elt:=fun A' E' i t m₂ hi hh hD hU hn ma mb O it=>by
  obtain⟨s1,s2⟩:=hs i hi;have b1:bootBuiltins "len"=some (.builtin "len"):=by kernel_rfl
  refine wpAny_BinOp ?_;refine Yb hk hl hgl hbl O h0 b1 (by decide) (by decide) rfl ?_
  refine wpAny_items_cons (wpAny_Name (wpAny_loadName_local hk ha hn ma (wpAny_items_nil ?_)));refine PyProof.Rows.len_str (by lia) ?_
  refine Yb (s:={t with toks:=_}) hk hl hgl hbl O h0 b1 (by decide) (by decide) rfl ?_
  refine wpAny_items_cons (wpAny_Name (wpAny_loadName_local (s:={t with toks:=_}) hk hb hn mb (wpAny_items_nil ?_)));refine PyProof.Rows.len_str (by lia) ?_
  exact wpAny_add_int ⟨⟨_,congrArg (fun z=>Value.int z _) (Int.natCast_add _ _).symm⟩,t.heap,_,rfl,fun μ μ e=>e⟩
end
noncomputable abbrev TT:=Addr×(Str×Tok)×(Str×Tok)
noncomputable abbrev tupO(t:TT):Obj:={cls:= .type "tuple",data:= .seq #[.str t.2.1.1 t.2.1.2, .str t.2.2.1 t.2.2.2]}
noncomputable abbrev wid(t:TT):Nat:=t.2.1.1.length+t.2.2.1.length
noncomputable def tP(ts:List TT)(j:Nat):Addr:=(ts[j]?.map fun t=>t.1).getD 0
noncomputable def tA(ts:List TT)(j:Nat):Str:=(ts[j]?.map fun t=>t.2.1.1).getD ⟨#[]⟩
noncomputable def tB(ts:List TT)(j:Nat):Str:=(ts[j]?.map fun t=>t.2.2.1).getD ⟨#[]⟩
noncomputable def tX(ts:List TT)(j:Nat):Tok:=(ts[j]?.map fun t=>t.2.1.2).getD 0
noncomputable def tY(ts:List TT)(j:Nat):Tok:=(ts[j]?.map fun t=>t.2.2.2).getD 0
noncomputable abbrev trefs(ts:List TT):List Value:=ts.map fun t=> .ref t.1
noncomputable def twid(ts:List TT):Nat:=(ts.map wid).sum
structure AccSt(h:Heap)(x ad:Addr)(ts:List TT)(sz:Int):Prop where
 inst:∃n od tk,InstAt h x (Zn cA ad (trefs ts) n) cA (some od)∧SizeD od (.int sz tk)
 tups:∀t∈ts,h.get? t.1=some (tupO t)
structure Small(ts:List TT)(sz:Int):Prop where
 w:twid ts≤4096
 n:ts.length≤4096
 lo:0≤sz
 hi:sz≤4096
theorem AccSt.el{h:Heap}{x ad:Addr}{ts:List TT}{sz:Int}(S:AccSt h x ad ts sz){R:Prop}(f:∀n od tk,InstAt h x (Zn cA ad (trefs ts) n) cA (some od)→SizeD od (.int sz tk)→R):R:=exE3 S.inst fun n od tk h=>f n od tk h.1 h.2
theorem AccSt.keep{h h':Heap}{x ad:Addr}{ts:List TT}{sz:Int}(a:AccSt h x ad ts sz)(k:∀a o,h.get? a=some o→h'.get? a=some o):AccSt h' x ad ts sz:=
 a.el fun n od tk I z=>⟨exI3 n od tk ⟨Zp I k,z⟩,fun t ht=>k _ _ (a.tups t ht)⟩
theorem Zor{C:Ctx}{p:Params}(PK:PG C p){h:Heap}(hi:C.inv h){a:Addr}{o:Obj}(e:h.get? a=some o)(hd:∀ps,o.data≠ .fields ps):a∉TB.map (·.2):=fun hm=>by
 obtain⟨q,hq,ea⟩:=List.mem_map.mp hm;exact(((PK.pf.inv _).mp hi).2.2 q hq).elim fun ps t=>hd ps (congrArg Obj.data (Option.some.inj (e.symm.trans (ea▸t.1))))
theorem Mv.keepD{C:Ctx}{p:Params}{S:Addr→Prop}{s s':Shared}(PK:PG C p)(hi:C.inv s.heap)(M:Mv C TB S s s'){a:Addr}{o:Obj}(e:s.heap.get? a=some o)(hS:¬S a)(hd:∀ps,o.data≠ .fields ps):s'.heap.get? a=some o:=
 M.keep a o e hS (Zor PK hi e hd)
theorem Mv.tup{C:Ctx}{p:Params}{S:Addr→Prop}{s s':Shared}(PK:PG C p)(hi:C.inv s.heap)(M:Mv C TB S s s')(hS:∀a,S a→∀xs,s.heap.get? a≠some (YE xs)):Ze s.heap s'.heap:=
 fun a xs e=>M.keepD PK hi e (fun h=>hS a h xs e) fun ps h=>by cases h
theorem ns_mv{C:Ctx}{p:Params}{S:Addr→Prop}{s s':Shared}{L:Addr}{m:Str→Option Value}(PK:PG C p)(hi:C.inv s.heap)(M:Mv C TB S s s')(hn:s.heap.Ns L m)(hS:¬S L):s'.heap.Ns L m:=by
 obtain⟨o,es,ep,ho,hd,r⟩:=hn;exact⟨o,es,ep,M.keepD PK hi ho hS (fun ps h=>by rw[hd]at h;cases h),hd,r⟩
theorem nsAt{h:Heap}{L a:Addr}{m:Str→Option Value}(hn:h.Ns L m)(e:h.get? a=none):a≠L:=fun q=>by
 obtain⟨o,_,_,ho,_⟩:=hn;exact nnO ((q▸e).symm.trans ho)
theorem SizeD.seq{od:Obj}{v:Value}(z:SizeD od v)(ps:Array Value)(n:Nat):od.data≠ .seq ps n:=fun h=>by
 obtain⟨c,d,hh,tk,n,sl,rfl⟩:=z;cases h
theorem ZeU{h:Heap}{x ad:Addr}{ts:List TT}{sz:Int}(S:AccSt h x ad ts sz):ad≠x:=S.el fun n od tk I z=>dtNe (show h.get? ad=some od from I.dict) I.at_ (z.seq _ _)
theorem SizeD.fields{od:Obj}{v:Value}(z:SizeD od v)(ps:Array Value):od.data≠ .fields ps:=fun h=>by
 obtain⟨c,d,hh,tk,n,sl,rfl⟩:=z;cases h
theorem AccSt.mv{C:Ctx}{p:Params}{S:Addr→Prop}{s s':Shared}{x ad:Addr}{ts:List TT}{sz:Int}(a:AccSt s.heap x ad ts sz)(PK:PG C p)(hi:C.inv s.heap)(M:Mv C TB S s s')(hx:¬S x)(hd:¬S ad)(ht:∀t∈ts,¬S t.1:=by intro μ μ h;exact h):AccSt s'.heap x ad ts sz:=
 a.el fun n od tk I z=>⟨exI3 n od tk ⟨⟨M.keepD PK hi I.at_ hx (fun ps h=>Data.noConfusion h),I.cls,I.no,M.keepD PK hi (show s.heap.get? ad=some od from I.dict) hd z.fields⟩,z⟩,fun t h=>M.keepD PK hi (a.tups t h) (ht t h) (fun ps h=>Data.noConfusion h)⟩
section
variable{C:Ctx}{p:Params}{A:Around}{s:Shared}{E:VP}{env:Env}{x ad:Addr}{ts:List TT}{sz:Int}
theorem Yi{y attr:Str}{p0 p1:Pos}{m:Str→Option Value}{v:Value}{Q:VP}(hk:env.scope.kind= .function)(l1:env.kindOf y=some .local)(hd:(y==("__debug__":Str))=false)(hn:s.heap.Ns env.locals m)(hv:m y=some v)
  (h:wpAny (model C.prog C.w) A (getAttr v attr true) Q E s):wpAny (model C.prog C.w) A (eval (.Attribute (.Name y p0) attr p1) env) Q E s:=by
 rw[arm_eval_Attribute];refine Wb (m:=eval (.Name y p0) env) (wpAny_Name (wpAny_loadName_local hk l1 hn hv ?_) hd);exact Wb (wpAny_standAt (Wb (wpAny_holding (wpAny_mono h (fun r s' h'=>Wb (Wp (Wp h'))) fun μ μ e=>e))))
theorem Zap{expr:Bool}{Q:VP}(X:(KK p).In s.heap)(S:AccSt s.heap x ad ts sz)(h:∀t,Q (.int sz t) {s with toks:=s.toks+1}):
  wpAny (model C.prog C.w) A (getAttr (.ref x) "_initial_size" expr) Q E s:=
 S.el fun n od tk I z=>Zkv X I Zpg (ZbL z) rfl (h _)
theorem preW(ts:List TT)(j:Nat)(hj:j<ts.length):((ts.take (j+1)).map wid).sum=((ts.take j).map wid).sum+wid ts[j]:=by
 rw[List.take_succ_eq_append_getElem hj,List.map_append,List.sum_append];simp
theorem preT(ts:List TT)(j:Nat):((ts.take j).map wid).sum≤twid ts:=by
 show _≤(ts.map wid).sum
 conv=>rhs;rw[←List.take_append_drop j ts]
 rw[List.map_append,List.sum_append];exact Nat.le_add_right _ _
theorem Zk8(ts:List TT)(j:Nat)(hj:j<ts.length):wid ts[j]≤twid ts:=Nat.le_trans (preW ts j hj▸Nat.le_add_left _ _) (preT ts (j+1))
theorem tAB(ts:List TT)(j:Nat)(hj:j<ts.length):(tA ts j).length+(tB ts j).length=wid ts[j]:=by simp[tA,tB,wid,hj]
theorem Zlh{n:Nat}(h:twid ts≤n)(j:Nat)(hj:j<(trefs ts).length):(tA ts j).length≤n∧(tB ts j).length≤n:=by
 have hj:j<ts.length:=by rw[List.length_map]at hj;exact hj
 have h:=Nat.le_trans (tAB ts j hj▸Zk8 ts j hj) h;exact⟨Nat.le_trans (Nat.le_add_right _ _) h,Nat.le_trans (Nat.le_add_left _ _) h⟩
theorem Zje{elt:Expr}{pa pb pt pi pos:Pos}{kt:Nat}{scope:Scope}{cda P:Addr}{m:Str→Option Value}{F:Nat→Value→Prop}{Q:VP}
  (PK:PG C p)(hT:(cda,P)∈TB)(hcode:env.code= .ref cda)(hgl:env.globals=mainGlobals)(hh:A.handled=none)(hgs:gsOK scope=true)(hroom:A.depth<recursionLimit)
  (hk:env.scope.kind= .function)(l1:env.scope.names.lookup ("self":Str)=some .local)(hn:s.heap.Ns env.locals m)(hv:m "self"=some (.ref x))
  (O:OldK C.base s.heap)(hi:C.inv s.heap)(S:AccSt s.heap x ad ts sz)
  (helt:∀code Cc,GenElt C (A.depth+1) (A.units+8) (trefs ts).length (fun i=> .str (tA ts i) (tX ts i)) (fun i=> .str (tB ts i) (tY ts i)) elt (genEnv scope [] Cc code builtinsNs env) F)
  (hQ:∀a s₅ fp wr g St,Mv C TB nox s s₅→s.heap.get? a=none→WalksS C.prog C.w A.in4 a fp wr (GenOnlyQ g) (trefs ts).length F St→St 0 s₅→(∀b∈fp,b<s₅.heap.objs.size)→a∈fp→(∀b∈wr,s.heap.get? b=none∧C.base.objs.size≤b)→s.gens.size≤g→
   (∀i s',St i s'→s'.TypeIs (.ref a) "generator")→Q (.ref a) s₅):
  wpAny (model C.prog C.w) A (eval (Zho elt pa pb pt pi pos kt scope) env) Q E s:=by
 refine S.el fun n od tk I z=>?_;refine ZgH (od:=some od) (Ts:=tP ts) PK hT hcode hgl hh hgs hroom hk l1 hn hv O hi I (fun j hj=>?_) (fun j hj=>?_) helt hQ
 ·have hj':j<ts.length:=by rw[List.length_map]at hj;exact hj
  simp[trefs,tP,hj']
 ·have hj':j<ts.length:=by rw[List.length_map]at hj;exact hj
  have:=S.tups ts[j] (List.getElem_mem hj');simpa[tP,tA,tB,tX,tY,hj']using this
theorem Zjc{Q:VP}(PK:PG C p)(O:OldK C.base s.heap)(hi:C.inv s.heap)(S:AccSt s.heap x ad ts sz)(Z:Small ts sz)(hroom:A.depth+1<recursionLimit)(hh:A.handled=none)
  (hQ:∀s' tk,Mv C TB nox s s'→Q (.int (sz+twid ts) tk) s'):wpAny (model C.prog C.w) A (call (.ref 202) [.ref x]) Q E s:=by
 refine enF fc202 (bc202 _) PK O hi (Nat.lt_of_succ_lt hroom) fun s₀ L hL P0 hn O0 i0=>?_;have S0:=S.keep fun a o e=>P0.keep a o e id;refine ks_wpAt_execs_cons (ks_wpAt_Return_some (_root_.PySem.wpAt_of_wpAny ?_));refine Yb (id:="sum") k202 Zkd rfl rfl O0 (ZoA PK) Zpc (by decide) (by decide) rfl ?_
 refine wpAny_items_cons ?_;refine Zje (F:=fun i y=>∃t,y= .int (((tA ts i).length+(tB ts i).length:Nat):Int) t) PK (.head _) rfl rfl hh (by kernel_rfl) hroom k202 Zdz hn (ZcX _) O0 i0 S0
  (fun code Cc=>Zh8 rfl rfl rfl rfl rfl rfl (Zds PK) (Zlh Z.w)) fun a s₅ fp wr g St M ha W hst hfp haf hwr hg hty=>?_
 have i5:=(M.old O0 i0).2;refine wpAny_items_cons ?_;refine Yi k202 Zdz (by decide) (ns_mv PK i0 M hn fun h=>h) (ZcX _) ?_
 refine Zap (inG PK i5) (S0.mv PK i0 M (fun h=>h) (fun h=>h)) fun t5=>?_;refine wpAny_items_nil ?_;have f5:=W.frame 0 s₅ s₅.heap (s₅.toks+1) hst (Nat.le_succ _) fun b μ o e=>e;have W4:=Z.w;have lo:=Z.lo;have hi:=Z.hi;refine ZcS ⟨Int.le_trans (by decide) Z.lo,Int.lt_of_le_of_lt Z.hi (by decide)⟩ (W.in4_1.self 0 _ _ _ f5 ?_)
 refine exI9 a fp wr (GenOnlyQ g) _ _ St (fun i=>((tA ts i).length+(tB ts i).length:Nat)) (fun i=>sz+((ts.take i).map wid).sum) ⟨rfl,W.in4_1,f5,hfp,fun i v h=>h,by simp,fun i hi'=>?_,fun i hi'=>?_,fun s' t' hm=>?_⟩
 ·have hj':i<ts.length:=by rw[List.length_map]at hi';exact hi'
  dsimp only
  rw[preW ts i hj',tAB ts i hj',Int.natCast_add,Int.add_assoc]
 ·have hj':i<ts.length:=by rw[List.length_map]at hi';exact hi'
  have h5:=Zk8 ts i hj';have h7:=preT ts i;have e1:((wid ts[i]:Nat):Int)≤4096:=Int.ofNat_le.mpr (Nat.le_trans h5 W4);have e2:(((ts.take i).map wid).sum:Int)≤4096:=Int.ofNat_le.mpr (Nat.le_trans h7 W4)
  dsimp only
  rw[tAB ts i hj'];exact⟨Int.le_trans (by decide) (Int.natCast_nonneg _),Int.lt_of_le_of_lt e1 (by decide),Int.le_trans (by decide) (Int.add_nonneg (Int.add_nonneg lo (Int.natCast_nonneg _)) (Int.natCast_nonneg _)),Int.lt_of_le_of_lt (Int.add_le_add (Int.add_le_add hi e2) e1) (by decide)⟩
 ·dsimp only
  rw[List.length_map,List.take_length];exact hQ _ _ ((Mv.plain0 P0).trans (Mv.moved (M.trans (Mv.plain0 (Plain.toks _ _ _))) hm hwr hg))
end
theorem Zee:∀l:List (Str×Tok),StrsAre (strValues l) (l.map (·.1))
 | []=> .nil
 |(s,t)::r=> .cons s t (Zee r)
section
variable{C:Ctx}{p:Params}{A:Around}{s:Shared}{E:VP}{env:Env}{x ad:Addr}{ts:List TT}{sz:Int}
theorem ZbC{o:Expr}{nm:Str}{w:Sem Value}(ho:Zbd o=false):attributeBase o nm env w=w:=by
 cases o<;>first|rfl|exact tfB ho
theorem YC{o:Expr}{nm:Str}{apos pos:Pos}{args:List Expr}{Q:VP}(hl:Nat.beq apos.endLine pos.line=true)(hst:Z3 args=true)(hn:Nat.blt args.length 20=true)(ho:Zbd o=false)
  (h:wpAny (model C.prog C.w) A (eval o env) (fun ov s₁=>∀pl,wpAny (model C.prog C.w) A (getMethod ov nm pl) (fun r s'=>wpAny (model C.prog C.w) A (callWith pos r.1 r.2 (backTo pos (starEach args env)) []) Q E s') E s₁) E s):
  wpAny (model C.prog C.w) A (eval (.Call (.Attribute o nm apos) args [] pos) env) Q E s:=by
 rw[arm_eval_Call];have e:attributeBase o nm env (eval o env)=eval o env:=ZbC ho;show wpAny _ _ (attributeBase o nm env (eval o env) >>= _) _ _ _;refine(e).symm▸?_;exact Wb (wpAny_mono h (fun ov s₁ h₁=>Wb (wpAny_standAt (ZK hst hl hn h₁))) fun μ μ x=>x)
noncomputable abbrev Zn4(p0 p1 p2 p3 p4 p5:Pos)(kt:Nat):Expr:= .Call (.Attribute (.Name "EMPTYSTRING" p0) "join" p1) [.Tuple [.Name "fws" p2, .Name "part" p3] kt p4] [] p5
theorem Zg9{te:Tok}{p0 p1 p2 p3 p4 p5:Pos}{kt:Nat}{D' U' n₀:Nat}{sa sb:Nat→Str}{ta tb:Nat→Tok}{cenv:Env}(hk:cenv.scope.kind= .function)(hl:cenv.kindOf "EMPTYSTRING"=some .globalImplicit)(ha:cenv.kindOf "fws"=some .local)(hb:cenv.kindOf "part"=some .local)
  (hgl:cenv.globals=mainGlobals)(h0:C.mg "EMPTYSTRING"=some (.str "" te))(hline:Nat.beq p1.endLine p5.line=true)(hs:∀i,i<n₀→(sa i).length≤4096∧(sb i).length≤4096):
  GenElt C D' U' n₀ (fun i=> .str (sa i) (ta i)) (fun i=> .str (sb i) (tb i)) (Zn4 p0 p1 p2 p3 p4 p5 kt) cenv (fun i y=>∃t,y= .str (Txt.join "" [sa i,sb i]) t) where
 elt:=fun A' E' i t m₂ hi hh hD hU hn ma mb O it=>by
  obtain⟨s1,s2⟩:=hs i hi;refine YC hline rfl rfl rfl ?_;refine nameG hk hl hgl O h0 (by decide+kernel) fun pl=>?_
  with_reducible refine GM.join ?_
  refine Zf rfl ?_;refine wpAny_items_cons (wpAny_Tuple_spliced ?_);refine wpAny_items_cons (wpAny_Name (wpAny_loadName_local hk ha hn ma ?_));refine wpAny_items_cons (wpAny_Name (wpAny_loadName_local hk hb hn mb ?_));refine wpAny_items_nil ⟨(by decide:2≤sizeLine),?_⟩
  refine wpAny_items_nil ⟨Zg,?_⟩;have ht:IsTup (t.heap.push {cls:= .type "tuple",data:= .seq #[.str (sa i) (ta i), .str (sb i) (tb i)]}) t.heap.objs.size #[.str (sa i) (ta i), .str (sb i) (tb i)]:=⟨_,Heap.get?_push_size _ rfl,rfl,0,rfl⟩
  have hv:StrsAre (#[Value.str (sa i) (ta i), .str (sb i) (tb i)]:Array Value).toList [sa i,sb i]:=Zee [(sa i,ta i),(sb i,tb i)]
  have h2:∀t' k,(fun(y:Value) (s₃:Shared)=>(∃t,y= .str (Txt.join "" [sa i,sb i]) t)∧Keeps t s₃) (.str (Txt.join "" [sa i,sb i]) t') {t with heap:=t.heap.push {cls:= .type "tuple",data:= .seq #[.str (sa i) (ta i), .str (sb i) (tb i)]},toks:=k}:=fun t' k=>⟨⟨t',rfl⟩,_,_,rfl,fun b o e=>Heap.get?_push_of_some _ e⟩
  refine join_tuple (s:={t with heap:=_}) ht hv ?_ h2;have e0:("":Str).length=0:=rfl;refine(e0).symm▸?_;simp only[List.map_cons,List.map_nil,List.sum_cons,List.sum_nil]
  lia
noncomputable def ttxt(ts:List TT):Str:=Txt.join "" (ts.map fun t=>Txt.join "" [t.2.1.1,t.2.2.1])
theorem ZdG(l:List Str):(Txt.join "" l).length≤(l.map (·.length)).sum:=by
 have:=StrLaws.join_length_le "" l;show(PySem.Builtin.Str.glued "" l).length≤_;rw[StrLaws.glued_eq_join];have e0:("":Str).length=0:=rfl;rw[e0]at this;exact this
theorem Zci:∀ts:List TT,(ts.map ((fun x:Str=>x.length) ∘ fun t:TT=>Txt.join "" [t.2.1.1,t.2.2.1])).sum≤(ts.map wid).sum
 | []=>Nat.le_refl _
 |t::r=>by
  have:=ZdG [t.2.1.1,t.2.2.1];simp only[List.map_cons,List.map_nil,List.sum_cons,List.sum_nil,Nat.add_zero]at this;rw[List.map_cons,List.sum_cons,List.map_cons,List.sum_cons];exact Nat.add_le_add this (Zci r)
theorem Zko{ts:List TT}{l:List (Str×Tok)}(h:ItemsOf (fun i y=>∃t,y=Value.str (Txt.join "" [tA ts i,tB ts i]) t) (strValues l).toArray ts.length):l.map (·.1)=ts.map fun t=>Txt.join "" [t.2.1.1,t.2.2.1]:=by
 obtain⟨h1,h2⟩:=h;have hl:l.length=ts.length:=by simpa[strValues]using h1
 apply List.ext_getElem?;intro i;by_cases hi:i<ts.length
 ·have hi':i<l.length:=by lia
  obtain⟨t,e⟩:=h2 i (.str l[i].1 l[i].2) (by simp[strValues,hi'])
  have e':=(Value.str.inj e).1;simp only[List.getElem?_map,List.getElem?_eq_getElem hi,List.getElem?_eq_getElem hi',Option.map_some];rw[e'];simp[tA,tB,hi]
 ·simp[hi,hl]
theorem Zja{Q:VP}(PK:PG C p)(O:OldK C.base s.heap)(hi:C.inv s.heap)(S:AccSt s.heap x ad ts sz)(Z:Small ts sz)(hroom:A.depth+1<recursionLimit)(hh:A.handled=none)
  (hQ:∀s' tk,Mv C TB nox s s'→Q (.str (ttxt ts) tk) s'):wpAny (model C.prog C.w) A (call (.ref 209) [.ref x]) Q E s:=by
 refine enF fc209 (bc209 _) PK O hi (Nat.lt_of_succ_lt hroom) fun s₀ L hL P0 hn O0 i0=>?_;have he:=PK.cf.mg "EMPTYSTRING" (some (.str "" 376)) (by kernel_rfl)
 refine ks_wpAt_execs_cons (ks_wpAt_Return_some (_root_.PySem.wpAt_of_wpAny ?_));refine YC rfl rfl rfl rfl ?_;refine nameG k209 ZmP rfl O0 he (by decide+kernel) fun pl=>?_
 with_reducible refine GM.join ?_
 refine Zf rfl ?_;refine wpAny_items_cons ?_;refine Zje (F:=fun i y=>∃t,y=Value.str (Txt.join "" [tA ts i,tB ts i]) t) PK (.tail _ (.head _)) rfl rfl hh (by kernel_rfl) hroom k209 Zid hn (ZgP _) O0 i0 (S.keep fun a o e=>P0.keep a o e id)
  (fun code Cc=>Zg9 rfl rfl rfl rfl rfl he rfl (Zlh Z.w)) fun a s₅ fp wr g St M ha W hst hfp haf hwr hg hty=>?_
 refine wpAny_items_nil ⟨Zg,?_⟩;rw[show(trefs ts).length=ts.length from List.length_map _]at W;refine SC.joinGen (A:=A.deeper _) W.in4_2 hty hst hfp haf (fun i v h=>let ⟨t,e⟩:=h;⟨_,t,e⟩) (fun s' l hm hit=>?_) (Nat.le_trans Z.n (by decide))
 rw[Zko hit];refine⟨joinOk_of ?_,fun t' k'=>?_⟩
 ·have e0:("":Str).length=0:=rfl;rw[e0,Nat.mul_zero,Nat.add_zero,List.map_map];exact Nat.le_trans (Zci ts) (Nat.le_trans Z.w (by decide))
 ·exact hQ {s' with toks:=k'} t' (((Mv.plain0 P0).trans (Mv.moved M hm hwr hg)).trans (Mv.plain0 (Plain.toks _ _ _)))
end
section
variable{prog:Program}{w:World}{M:Model}{p:Params}{A:Around}{s:Shared}{E:VP}{x ad:Addr}{od:Option Obj}{items:List Value}{n:Nat}{ox:Obj}
theorem ZnA(X:(KK p).In s.heap){Q:Bool→Shared→Prop}(h:Q false s)(l:List String):(∀n∈l,mroIn (KK p) cA (.type n)=some false)→wpAny M A (l.anyM fun n=>isSubtype (.ref cA) (.type n)) Q E s:=by
 induction l with
 |nil=>exact fun μ=>Wp h
 |cons n l ih=>exact fun hl=>Wb ((looks_mroIn X (hl n List.mem_cons_self)).here (ih fun m hm=>hl m (List.mem_cons_of_mem _ hm)))
theorem Zf4{k:Value}{name:Str}{Q:VP}(X:(KK p).In s.heap)(I:InstAt s.heap x ox cA od)(h:Q k s):wpAny M A (sequenceKey (.ref x) k name) Q E s:=
 Wb (I.type.here (Wb (ZnA X (Wp h) _ a_seq)))
theorem ZnR:typeOf (.builtin "list.__setitem__")=pure (.type "wrapper_descriptor"):=by show builtinType _=_;rw[builtinType_eq_fast];kernel_rfl
theorem ZkT(self:Value):bindSpecial (.builtin "list.__setitem__") self=pure (.builtin "list.__setitem__",[self]):=by
 unfold bindSpecial;rw[ZnR]
 rfl
theorem Zhn{sl e:Addr}{m:Nat}{Q:Unit→Shared→Prop}(X:(KK p).In s.heap)(I:InstAt s.heap x (Zn cA ad items n) cA od)(hz:items.length≤4096)(hs:s.heap.IsSliceOf sl .none .none .none)(he:s.heap.get? e=some (Zb [] m))
  (hQ:∀h' n',h'.get? x=some (Zn cA ad [] n')→Heap.SameBut x s.heap h'→Q () {s with heap:=h'}):wpAny (model prog w) A (setItem (.ref x) (.ref sl) (.ref e)) Q E s:=by
 refine wpAny_holding (Wb (Zf4 X I ?_));refine Wb (m:=callSpecial? (.ref x) "__setitem__" _) ?_;refine Wb (Wb (I.type.here ((looks_findIn X a_set).here ?_)));refine wpAny_holding ?_;rw[ZkT];refine Wb (Wp (Wb ?_));exact Zjf X I Jy hz hs he fun h' n' e1 sb=>Wp (Wp (hQ h' n' e1 sb))
end
section
variable{C:Ctx}{p:Params}{A:Around}{s:Shared}{E:VP}{x ad:Addr}{ts:List TT}{sz:Int}
theorem ZeS{Q:VP}(PK:PG C p)(O:OldK C.base s.heap)(hi:C.inv s.heap)(S:AccSt s.heap x ad ts sz)(hx:C.base.objs.size≤x)(hz:ts.length≤4096)(hroom:A.depth<recursionLimit)
  (hQ:∀s',AccSt s'.heap x ad [] 0→Plain (fun a=>a=x∨a=ad) s s'→Q .none s'):wpAny (model C.prog C.w) A (call (.ref 217) [.ref x]) Q E s:=by
 refine enF fc217 (bc217 _) PK O hi hroom fun s₀ L hL P0 hn O0 i0=>?_;refine ks_wpAt_execs_cons (ks_wpAt_If (_root_.PySem.wpAt_of_wpAny (PySem.wpAny_isTrue_Compare1 ?_)));refine wpAny_Name (wpAny_loadName_local k217 YX hn (Zch _) ?_);refine wpAny_Constant_none (is_none_none (wpAny_truthy_bool ?_));rw[if_pos rfl];refine ks_wpAt_execs_cons (ks_wpAt_Assign_Name (_root_.PySem.wpAt_of_wpAny ?_));refine wpAny_List_spliced (wpAny_items_nil ⟨(by decide:0≤sizeLine),?_⟩)
 have kp1:∀a o,s₀.heap.get? a=some o→(s₀.heap.push (Zb [] 0)).get? a=some o:=fun a o e=>Heap.get?_push_of_some _ e;refine PySem.wpAny_storeName_local YX (hn.keeps kp1) (fun h1 hn1 sb1=>?_) (by kernel_rfl)
 refine _root_.PySem.wpAt_of_wpAny (wpAny_execs_nil ?_);have k1:∀a o,s.heap.get? a=some o→h1.get? a=some o:=fun a o e=>(sb1.2 a (nsNe e hL)).trans (kp1 _ _ (P0.keep _ _ e id));have he1:h1.get? s₀.heap.objs.size=some (Zb [] 0):=(sb1.2 _ (nsAt hn (Zw _))).trans (Heap.get?_push_size _ rfl);refine S.el fun n od tk I z=>?_;have I1:=Zp I k1;refine ks_wpAt_execs_cons (_root_.PySem.wpAt_of_wpAny ?_);rw[exec_Assign_Subscript _ _ _ _ _ rfl];refine Wb (wpAny_standAt (Wb (wpAny_Name (wpAny_loadName_local k217 YX hn1 rfl ?_))));rw[assign_Subscript];refine Wb (Wb (wpAny_holding (wpAny_Name (wpAny_loadName_local k217 Zdy hn1 (ZcW _) (Wb (wpAny_holding (wpAny_Slice ?_)))))));rw[evalPart_none];refine Wp (Wp (Wp ?_));refine Wb (wpAny_standAt (Wb (wpAny_holding ?_)));have kp2:∀a o,h1.get? a=some o→(h1.push {cls:= .type "slice",data:= .fields #[.none, .none, .none]}).get? a=some o:=fun a o e=>Heap.get?_push_of_some _ e
 refine Zhn (m:=0) (inG PK (C.inv_step _ _ hi fun a o e μ=>kp2 a o (k1 a o e))) (Zp I1 kp2) (by rw[List.length_map];exact hz) ⟨_,Heap.get?_push_size _ rfl,rfl,rfl⟩ (kp2 _ _ he1) fun h2 n2 e2 sb2=>?_
 refine wpAny_release (Wp ?_);have k2:∀a o,s.heap.get? a=some o→a≠x→h2.get? a=some o:=fun a o e q=>(sb2.2 a q).trans (kp2 _ _ (k1 a o e));refine ks_wpAt_execs_cons (ks_wpAt_Assign_Attr (_root_.PySem.wpAt_of_wpAny (wpAny_Constant_int ?_)));refine wpAny_Name (wpAny_loadName_local k217 Zdy ((hn1.keeps kp2).sameBut sb2 (nsNe I.at_ hL).symm) (ZcW _) ?_);refine Ze4 (v0:= .int sz tk) (inG PK (C.inv_step _ _ hi fun a o e hb=>k2 a o e fun q=>absurd (q▸hx) (Nat.not_le.mpr hb))) ⟨e2,rfl,I.no,k2 ad od I.dict (ZeU S)⟩ (.inl z) fun h3 od3 z3 I3 sb3=>?_;refine _root_.PySem.wpAt_of_wpAny (wpAny_execs_nil ?_);exact hQ _ ⟨exI3 n2 od3 _ ⟨I3,z3⟩,fun t ht=>nomatch ht⟩ ⟨fun a o e q=>(sb3.2 a fun z=>q (.inr z)).trans (k2 a o e fun z=>q (.inl z)),P0.gens,P0.os⟩
end
section
variable{C:Ctx}{p:Params}{A:Around}{s:Shared}{E:VP}{x ad:Addr}{ts:List TT}{sz:Int}
theorem a_len:findIn (KK p) (.ref cA) "__len__"=some (some (.ref 202)):=by kernel_rfl
theorem t_202:typeIn (KK p) (.ref 202)=some (.type "function"):=by kernel_rfl
theorem len_b{Q:VP}(PK:PG C p)(O:OldK C.base s.heap)(hi:C.inv s.heap)(S:AccSt s.heap x ad ts sz)(Z:Small ts sz)(hr:A.depth+1<recursionLimit)(hh:A.handled=none)
  (h:∀s' tk,Mv C TB nox s s'→Q (.int (sz+twid ts) tk) s'):wpAny (model C.prog C.w) A (Builtin.«len» ⟨[.ref x],[]⟩) (fun fin s'=>∃v,fin= .done (.ret v)∧Q v s') E s:=by
 refine S.el fun n od tk I z=>?_;refine Wb (m:=oneArg "len" _) (Wp ?_);refine Wb (m:=callSpecial? (.ref x) (Str.ofString "__len__")) (special_fn (inG PK hi) I a_len t_202 (Zjc PK O hi S Z hr hh fun s' tk M=>?_));have lo:=Z.lo;refine Wb (wpAny_holding (Wp ?_));refine Wb (wpAny_letGo ?_);have e1:(0:Int)≤sz+twid ts:=Int.add_nonneg lo (Int.natCast_nonneg _);have e2:sz+(twid ts:Int)≤8192:=Int.add_le_add Z.hi (Int.ofNat_le.mpr Z.w);rw[if_neg (by lia)]
 rw[if_neg (by lia)]
 exact Wb (wpAny_mkInt (Wp ⟨_,rfl,h _ _ (M.trans (Mv.plain0 (Plain.toks _ _ _)))⟩))
theorem Jn{Q:VP}(PK:PG C p)(O:OldK C.base s.heap)(hi:C.inv s.heap)(S:AccSt s.heap x ad ts sz)(Z:Small ts sz)(hr:A.depth+1<recursionLimit)(hh:A.handled=none)
  (h:∀s' tk,Mv C TB nox s s'→Q (.int (sz+twid ts) tk) s'):wpAny (model C.prog C.w) A (call (.builtin "len") [.ref x]) Q E s:=
 Calls.call_function_entry PySem.kind_len PySem.plain_len entry_len (args_len1 _) (len_b (A:=A.in1) PK O hi S Z hr hh h)
theorem ZgE{Q:Bool→Shared→Prop}(PK:PG C p)(O:OldK C.base s.heap)(hi:C.inv s.heap)(S:AccSt s.heap x ad ts sz)(Z:Small ts sz)(hr:A.depth+1<recursionLimit)(hh:A.handled=none)
  (h:∀s',Mv C TB nox s s'→Q (sz+(twid ts:Int) !=0) s'):wpAny (model C.prog C.w) A (truthy (.ref x)) Q E s:=by
 refine S.el fun n od tk I z=>?_;have X:=inG PK hi;unfold truthy;refine Wb (m:=callSpecial? (.ref x) (Str.ofString "__bool__")) (Wb (Wb (I.type.here ((looks_findIn X (by kernel_rfl:findIn (KK p) (.ref cA) "__bool__"=some none)).here (Wp ?_)))))
 refine Wb (Wb (I.type.here ((looks_findIn X a_len).here ?_)))
 dsimp only[Option.isNone_some]
 rw[if_neg (by decide)]
 refine Wb ?_;refine runValue_entry entry_len ?_;rw[Around.under_plainId PySem.plain_len];refine len_b (A:=A.in1) PK O hi S Z hr hh fun s' tk M=>?_;exact Wp (h _ M)
theorem Zay{Q:VP}(PK:PG C p)(O:OldK C.base s.heap)(hi:C.inv s.heap)(S:AccSt s.heap x ad ts sz)(Z:Small ts sz)(hr:A.depth+1<recursionLimit)(hu:A.in1.in1.units<cLine)(hh:A.handled=none)
  (h:∀s' tk,Mv C TB nox s s'→Q (.str (ttxt ts) tk) s'):wpAny (model C.prog C.w) A (call (.type "str") [.ref x]) Q E s:=
 S.el fun n od tk I z=>kso_call hu (inG PK hi) I (by kernel_rfl:findIn (KK p) (.ref cA) "__str__"=some (some (.ref 209))) (by kernel_rfl:isFn (KK p) (.ref 209)=true) (Zja (A:=A.in1.in1) PK O hi S Z hr hh fun s' tk M=>h s' tk M)
end
section
variable{C:Ctx}{p:Params}{A:Around}{s:Shared}{E:VP}{x ad:Addr}{ts:List TT}{sz:Int}
theorem ZfT{env:Env}{o:Expr}{nm:Str}{apos pos:Pos}{args:List Expr}{Q:VP}(hl:Nat.beq apos.endLine pos.line=true)(hst:Z3 args=true)(hn:Nat.blt args.length 20=true)(hb:∀w,attributeBase o nm env w=w)
  (h:wpAny (model C.prog C.w) A (eval o env) (fun ov s₁=>∀pl,wpAny (model C.prog C.w) A (getMethod ov nm pl) (fun r s'=>wpAny (model C.prog C.w) A (callWith pos r.1 r.2 (backTo pos (starEach args env)) []) Q E s') E s₁) E s):
  wpAny (model C.prog C.w) A (eval (.Call (.Attribute o nm apos) args [] pos) env) Q E s:=by
 rw[arm_eval_Call];show wpAny _ _ (attributeBase o nm env (eval o env) >>= _) _ _ _;rw[hb];exact Wb (wpAny_mono h (fun ov s₁ h₁=>Wb (wpAny_standAt (ZK hst hl hn h₁))) fun μ μ x=>x)
theorem and2{a b:Expr}{pos:Pos}{env:Env}{M:Model}{Q:VP}(h:wpAny M A (eval a env) (fun v s₁=>wpAny M A (truthy v) (fun t s₂=>match t with
  |true=>wpAny M A (eval b env) Q E s₂
  |false=>Q v s₂) E s₁) E s):wpAny M A (eval (.BoolOp .And [a,b] pos) env) Q E s:=by
 rw[arm_eval_BoolOp];show wpAny M A (boolOp pos .And [eval a env,eval b env]) Q E s;rw[JG];refine Wb (wpAny_mono h (fun v s₁ h=>Wb (wpAny_standAt (Wb (wpAny_holding (wpAny_mono h (fun t s₂ h=>?_) fun μ μ e=>e))))) fun μ μ e=>e);cases t with
 |true=>exact h
 |false=>exact Wp h
theorem or2{a b:Expr}{pos:Pos}{env:Env}{M:Model}{Q:VP}(h:wpAny M A (eval a env) (fun v s₁=>wpAny M A (truthy v) (fun t s₂=>match t with
  |true=>Q v s₂
  |false=>wpAny M A (eval b env) Q E s₂) E s₁) E s):wpAny M A (eval (.BoolOp .Or [a,b] pos) env) Q E s:=by
 rw[arm_eval_BoolOp];show wpAny M A (boolOp pos .Or [eval a env,eval b env]) Q E s;rw[JG];refine Wb (wpAny_mono h (fun v s₁ h=>Wb (wpAny_standAt (Wb (wpAny_holding (wpAny_mono h (fun t s₂ h=>?_) fun μ μ e=>e))))) fun μ μ e=>e);cases t with
 |true=>exact Wp h
 |false=>exact h
noncomputable def nlWs(ts:List TT)(sz:Int):Bool:=decide (sz=0)&&(!(sz+(twid ts:Int) !=0) || Txt.isspace (ttxt ts))
theorem Zk5{Q:VP}(PK:PG C p)(O:OldK C.base s.heap)(hi:C.inv s.heap)(S:AccSt s.heap x ad ts sz)(Z:Small ts sz)(hroom:A.depth+2<recursionLimit)(hh:A.handled=none)(hu:A.units+40<cLine)
  (hQ:∀s',Mv C TB nox s s'→Q (.bool (nlWs ts sz)) s'):wpAny (model C.prog C.w) A (call (.ref 224) [.ref x]) Q E s:=by
 refine enF fc224 (bc224 _) PK O hi (Nat.lt_of_succ_lt (Nat.lt_of_succ_lt hroom)) fun s₀ L hL P0 hn O0 i0=>?_;have S0:=S.keep fun a o e=>P0.keep a o e id;have M0:Mv C TB nox s s₀:=Mv.plain0 P0;have fin:∀b,nlWs ts sz=b→∀s',Mv C TB nox s s'→Q (.bool b) s':=fun b e s' M=>e▸hQ s' M;refine ks_wpAt_execs_cons (ks_wpAt_Return_some (_root_.PySem.wpAt_of_wpAny ?_));refine and2 (wpAny_Compare1 ?_);refine Yi k224 Za8 (by decide) hn (ZaN _) ?_
 refine Zap (inG PK i0) S0 fun t5=>?_;refine wpAny_Constant_int (PyProof.Rows.eq_int ?_);refine wpAny_truthy_bool ?_;cases hz:decide (sz=0)with
 |false=>
  rw[show(sz==0)=false from hz];exact fin false (by unfold nlWs;rw[hz];rfl) _ (M0.trans (Mv.plain0 (Plain.toks _ _ _)))
 |true=>
  rw[show(sz==0)=true from hz];refine or2 (wpAny_UnaryOp (wpAny_Name (wpAny_loadName_local (s:={s₀ with toks:=_}) k224 Za8 hn (ZaN _) ?_)));unfold unaryOp;refine wpAny_holding ?_
  dsimp only
  rw[if_pos (by decide)]
  refine Wb (ZgE (s:={s₀ with toks:=_}) PK O0 i0 S0 Z hroom hh fun s1 M=>Wp ?_);have M1:=(Mv.plain0 (T:=TB) (S:=nox) (Plain.toks _ _ _)).trans M;refine wpAny_truthy_bool ?_;cases hb:(sz+(twid ts:Int) !=0)with
  |false=>exact fin true (by unfold nlWs;rw[hz,hb];rfl) _ (M0.trans M1)
  |true=>
   have O1:=M1.old O0 i0;refine ZfT rfl rfl rfl (fun w=>rfl) ?_;refine Zb9 (id:="str") k224 Zkc rfl rfl O1.1 (Zlx PK) ZlP (by decide) (by decide) rfl ?_
   refine wpAny_items_cons (wpAny_Name (wpAny_loadName_local k224 Za8 (ns_mv PK i0 M1 hn fun h=>h) (ZaN _) (wpAny_items_nil ?_)));refine Zay PK O1.1 O1.2 (S0.mv PK i0 M1 (fun h=>h) (fun h=>h)) Z hroom (Nat.lt_of_le_of_lt (Nat.add_le_add_left (by decide:5≤40) _) hu) hh fun s2 tk M3 pl=>?_
   with_reducible refine GM.isspace ?_
   refine Zf rfl (PySem.Calls.spliced_nil ⟨Zg,?_⟩);refine SC.isspace ?_;exact fin _ (by unfold nlWs;rw[hz,hb];rfl) _ ((M0.trans M1).trans M3)
end
end Mine
end
noncomputable section
open PySem PyProof.Rows PySem.W PySem.Calls PySem.Builtin PySem.Builtin.ObjectAttr
namespace Mine
set_option backward.match.sparseCases true
theorem ifn{α:Type}{M:Model}{A:Around}{Q:α→Shared→Prop}{E:VP}{s:Shared}{c:Prop}{_:Decidable c}{a b:Sem α}(hc:¬c)(h:wpAny M A b Q E s):wpAny M A (ite c a b) Q E s:=(if_neg hc).symm▸h
theorem ifp{α:Type}{M:Model}{A:Around}{Q:α→Shared→Prop}{E:VP}{s:Shared}{c:Prop}{_:Decidable c}{a b:Sem α}(hc:c)(h:wpAny M A a Q E s):wpAny M A (ite c a b) Q E s:=(if_pos hc).symm▸h
theorem ZmI:builtinKind "list.__new__"=some .builtinFn:=by decide+kernel
theorem Zj9:splitId "list.__new__"=some ("list","__new__"):=by decide+kernel
section
variable{M:Model}{p:Params}{h:Heap}
theorem ZcD:(KK p).lookup cA=some ⟨.type "type",none, .cls (clsA p), #[some (.ref 156),none,some (.str "_Accumulator" 486),some (.str "_Accumulator" 494),some (.builtin "list.__new__"),some (.bool true)]⟩:=by kernel_rfl
theorem mroA:(clsA p).mro=[.ref cA, .type "list", .type "object"]:=by kernel_rfl
theorem delA:(clsA p).hasDel=false:=by kernel_rfl
theorem Zdr(X:(KK p).In h):Looks M h (mroOf (.ref cA)) [.ref cA, .type "list", .type "object"]:=mroA (p:=p)▸(looks_clsIn X a_cls).andThen .now
theorem J5(X:(KK p).In h):Looks M h (Bind.madeBy (.ref cA)) (some "list.__new__"):=by
 intro A Q E s k q;refine Wb (Zdr X A _ E s k ?_);rw[List.forIn_cons];exact Wb (Wb (Wb (Wb (wpAny_loadPart (k _ _ (X _ _ ZcD)) (Wp (Wp (Wp (Wp q))))))))
theorem Zce(X:(KK p).In h):Looks M h (Bind.staticBase (.ref cA)) (.ref cA):=by
 intro A Q E s k q;refine Wb (Zdr X A _ E s k ?_);rw[List.forIn_cons];exact Wb (Wb (Wb (J5 X A _ E s k (Wp (Wp (Wp q))))))
end
section
variable{prog:Program}{w:World}{A:Around}{p:Params}{R:Result→Shared→Prop}{h:Heap}{g:Array GenState}{d:Drawn}{t:Nat}{os:OsState}
theorem new_L{v:Value}(X:(KK p).In h)
  (hq:R (.ok (.ret (.ref (h.objs.size+1)))) ⟨(h.push emptyDict).push (Zn cA h.objs.size [] 0),g,d,t,os⟩):
  codeAny (model prog w) A (.call (.builtin "list.__new__") ⟨[.ref cA,v],[]⟩) R ⟨h,g,d,t,os⟩:=by
 have hC:=X _ _ ZcD;refine codeAny_call_builtin_code (plainId_quiet F.plain_list_new _) ?_
 delta checkBuiltinCall
 rw[ZmI,Zj9];have hty:Looks (model prog w) h (isType (.ref cA)) true:=fun A Q E s k q=>ks_wpAny_isType_cls (k _ _ hC) rfl q;have top:=looks_mroIn (M:=model prog w) X Jy;have hargs:(match Manifest.signature? "list.__new__" with|some sig=>Bind.checkArgs "list.__new__" sig ⟨[.ref cA,v],[]⟩|x=>pure ())=(pure ():Sem Unit):=by kernel_rfl
 refine ifp (by decide) ?_
 refine Wb (hty.here (ifn (by decide) ?_))
 refine Wb (top.here (ifn (by decide) ?_))
 refine Wb ((Zce X).here ?_);refine Wb ((J5 X).here ?_);refine ifn (by rw[bne_self_eq_false];decide) ?_
 refine wpAny_of_eq hargs ?_;refine codeAny_builtin_stack PySem.F.entry_list_new rfl fun pp st=>?_;refine(Around.under_plainId PySem.F.plain_list_new _).symm▸?_;simp only[owner_list_new];refine Wb (hty.here (ifn (by decide) ?_))
 refine Wb (top.here (ifn (by decide) ?_))
 refine Wb (Wp (ifn (by rw[show typeHasDict (.ref cA)=true from rfl];decide) ?_))
 refine Wb (m:=newDict) ?_;show wpAny _ _ (alloc emptyDict >>= fun x=>pure (Value.ref x)) _ _ _;refine Wb (wpAny_alloc (Wp ?_));refine Wb ?_
 delta newObj
 refine ifn (by decide) ?_
 delta newObjAsIs classHasDel
 refine Wb (wpAny_alloc (Wb (Wb (wpAny_load (Heap.get?_push_of_some _ (Heap.get?_push_of_some _ hC)) (Wp ?_)))));refine ifn (Bool.not_eq_true _▸delA) (Wp (Wp ?_));show R _ _;rw[Heap.size_push];exact hq
theorem Zgy{M:Model}(X:(KK p).In h):Looks M h (specialOf (.ref cA) "__call__") (some (.builtin "type.__call__")):=looks_specialIn X (by kernel_rfl)
theorem ZgX{M:Model}(X:(KK p).In h):Looks M h (isInstance (.ref cA) (.type "type")) true:=looks_instIn X (by kernel_rfl)
theorem ZoB{v init:Value}(X:(KK p).In h)(hi:Looks (model prog w) h (typeLookup (.ref cA) "__init__") (some init))
  (hb:∀self,Looks (model prog w) h (bindSpecial init self) (init,[self]))
  (hq:codeAny (model prog w) (A.under (.builtin "type.__call__" ⟨[.ref cA,v],[]⟩)) (.call init ⟨[.ref (h.objs.size+1),v],[]⟩) (InitBack (h.objs.size+1) R) ⟨(h.push emptyDict).push (Zn cA h.objs.size [] 0),g,d,t,os⟩):
  codeAny (model prog w) A (.call (.ref cA) ⟨[v],[]⟩) R ⟨h,g,d,t,os⟩:=by
 have hC:=X _ _ ZcD;refine codeAny_of_tree ?_;show wpAny _ _ (callAny (.ref cA) _) _ _ _;refine nd_load hC ?_;show wpAny _ _ (callAny.viaDunder (.ref cA) _) _ _ _
 delta callAny.viaDunder
 refine Wb ((Zgy X).at ?_)
 dsimp only
 rw[tc_bind];refine Wb (Wp (Wb (Wp ?_)));refine Wp (a:=Fin.again (.call (.builtin "type.__call__") ⟨[.ref cA,v],[]⟩)) (And.intro rfl ?_);refine codeAny_call_builtin_at (Code.quiet_builtin _ (by decide+kernel)) entry_typeCall (check_slot tc_kind tc_split (ZgX X) (tc_args _ _ _) ?_)
 delta Builtin.«type.__call__»
 have hm:Looks (model prog w) h (mroOf (.ref cA)) (clsA p).mro:=((Looks.ld (part:=none) hC).andThen .now).andThen .now;have e4:(clsA p).mro.isEmpty=false:=by kernel_rfl
 have e1:(clsA p).abstract=false:=by kernel_rfl
 have made:=J5 (M:=model prog w) X;have base:=Zce (M:=model prog w) X;have self:=looks_mroIn (M:=model prog w) X ZlS;have top:=looks_mroIn (M:=model prog w) X Jy
 repeat (first|simp only[e4,Bool.false_eq_true,if_false]|with_reducible refine wpAny_call ?_|lk)
 refine new_L X ?_;have k:∀b o,h.get? b=some o→((h.push emptyDict).push (Zn cA h.objs.size [] 0)).get? b=some o:=fun b o e=>Heap.get?_push_of_some _ (Heap.get?_push_of_some _ e);have hx:((h.push emptyDict).push (Zn cA h.objs.size [] 0)).get? (h.objs.size+1)=some (Zn cA h.objs.size [] 0):=by
  have:=Heap.get?_push_size (o:=Zn cA h.objs.size [] 0) (h.push emptyDict) rfl;rwa[Heap.size_push]at this
 have t1:Looks (model prog w) ((h.push emptyDict).push (Zn cA h.objs.size [] 0)) (typeOf (.ref (h.objs.size+1))) (.ref cA):=(Looks.ld hx).andThen .now;have s1:=self.keeps k;have i1:=hi.keeps k;have b1:=(hb (.ref (h.objs.size+1))).keeps k
 delta isInstance callSpecial? specialOf
 repeat (first|with_reducible refine wpAny_call ?_|lk)
 refine codeAny_mono hq fun r s' z=>?_;rcases r with e|(v|_|_|_)<;>first|exact z|exact z.elim|skip
 obtain⟨rfl,z⟩:=z;exact Wp (Wp z)
end
end Mine
end
noncomputable section
open PySem PyProof.Rows PySem.W
namespace Mine
set_option backward.match.sparseCases true
theorem Zjo{A:Around}{a:Addr}{v:Value}:(A.under (.builtin "type.__call__" ⟨[.ref a,v],[]⟩)).depth=A.depth+1:=by
 skip
 rfl
section
variable{C:Ctx}{p:Params}{A:Around}{s:Shared}{E:VP}
theorem Zj6{i:Int}{ti:Tok}{Q:VP}(PK:PG C p)(O:OldK C.base s.heap)(hi:C.inv s.heap)(hr:A.depth+2<recursionLimit)
  (hQ:∀x ad s',s.heap.objs.size≤x→s.heap.objs.size≤ad→x≠ad→AccSt s'.heap x ad [] i→Plain nox s s'→Q (.ref x) s'):wpAny (model C.prog C.w) A (call (.ref cA) [.int i ti]) Q E s:=by
 have X:=inG PK hi;obtain⟨h,g,d,t,os⟩:=s;refine wpAny_call (ZoB X (looks_findIn X (by kernel_rfl:findIn (KK p) (.ref cA) "__init__"=some (some (.ref 172)))) (fun self=>bind_fn X self (by kernel_rfl)) ?_)
 have P:Plain nox ⟨h,g,d,t,os⟩ ⟨(h.push emptyDict).push (Zn cA h.objs.size [] 0),g,d,t,os⟩:=⟨fun a o e μ=>Heap.get?_push_of_some _ (Heap.get?_push_of_some _ e),rfl,rfl⟩;have hx:((h.push emptyDict).push (Zn cA h.objs.size [] 0)).get? (h.objs.size+1)=some (Zn cA h.objs.size [] 0):=by
  have:=Heap.get?_push_size (o:=Zn cA h.objs.size [] 0) (h.push emptyDict) rfl;rwa[Heap.size_push]at this
 have hd:((h.push emptyDict).push (Zn cA h.objs.size [] 0)).get? h.objs.size=some emptyDict:=Heap.get?_push_of_some _ (Heap.get?_push_size _ rfl);refine ZgF (s:=⟨_,g,d,t,os⟩) PK (Zu O P fun μ h=>h.elim) (C.inv_step _ _ hi fun a o e μ=>P.keep a o e id) ⟨hx,rfl,rfl,hd⟩ (Yd O) (by rw[Zjo];exact hr) fun s' od' n' z e1 e2 P2=>⟨rfl,?_⟩
 refine hQ (h.objs.size+1) h.objs.size s' (Nat.le_succ _) (Nat.le_refl _) (Nat.succ_ne_self _) ⟨exI3 n' od' ti ⟨⟨e1,rfl,rfl,e2⟩,z⟩,fun t ht=>nomatch ht⟩ ⟨fun a o e μ=>P2.keep a o (P.keep a o e id) ?_,P2.gens,P2.os⟩;have h':a<h.objs.size:=Heap.lt_size e
 rintro(q|q)
 ·exact Nat.lt_irrefl _ (Nat.lt_of_succ_lt (q▸h'))
 ·exact Nat.lt_irrefl _ (q▸h')
end
theorem Zjg{h:Heap}{x ad:Addr}{ts:List TT}{sz:Int}(S:AccSt h x ad ts sz)(t:TT)(ht:t∈ts):t.1≠x∧t.1≠ad:=
 S.el fun n od tk I z=>⟨dtNe' (S.tups t ht) I.at_ fun e=>Value.noConfusion e,dtNe (S.tups t ht) (show h.get? ad=some od from I.dict) fun e=>z.seq _ _ e.symm⟩
section
variable{C:Ctx}{p:Params}{A:Around}{s:Shared}{E:VP}{x ad:Addr}{ts:List TT}{sz:Int}
theorem ZbG(ts:List TT)(t:TT):trefs (ts++[t])=trefs ts++[.ref t.1]:=List.map_append
theorem ZhE{a b:Str}{ta tb:Tok}{R:Result→Shared→Prop}(PK:PG C p)(O:OldK C.base s.heap)(hi:C.inv s.heap)(S:AccSt s.heap x ad ts sz)(hz:ts.length≤4096)(hr:A.depth<recursionLimit)
  (hQ:∀s' t,s.heap.get? t=none→AccSt s'.heap x ad (ts++[(t,(a,ta),(b,tb))]) sz→Plain (· =x) s s'→R (.ok (.ret .none)) s'):codeAny (model C.prog C.w) A (.call (.ref 179) ⟨[.ref x, .str a ta, .str b tb],[]⟩) R s:=by
 refine S.el fun n od tk I z=>?_;refine Zk6 PK (Yt z (by decide)) (by rw[List.length_map];exact Nat.le_trans hz (by decide)) O hi I hr fun s' t n' h1 h3 h4 P=>?_
 refine hQ s' t h1 ⟨exI3 n' od tk ⟨⟨by rw[ZbG];exact h4,rfl,I.no,P.keep ad od I.dict (ZeU S)⟩,z⟩,fun t' ht'=>?_⟩ P
 rcases List.mem_append.mp ht' with h|h
 ·exact P.keep _ _ (S.tups t' h) (Zjg S t' h).1
 ·rw[List.mem_singleton.mp h];exact h3
theorem pop_m{Q:VP}(PK:PG C p)(O:OldK C.base s.heap)(hi:C.inv s.heap)(S:AccSt s.heap x ad ts sz)(hz:ts.length≤4096)(hr:A.depth+1<recursionLimit)
  (hQ1:ts=[]→∀s' t a b,s.heap.get? t=none→s'.heap.get? t=some (tupO (t,("",a),("",b)))→AccSt s'.heap x ad [] sz→Plain (· =x) s s'→Q (.ref t) s')
  (hQ2:∀r t,ts=r++[t]→∀s',AccSt s'.heap x ad r sz→Plain (· =x) s s'→Q (.ref t.1) s'):wpAny (model C.prog C.w) A (call (.ref 195) [.ref x]) Q E s:=by
 refine S.el fun n od tk I z=>?_;rcases List.eq_nil_or_concat ts with e|⟨r,t,e⟩
 ·subst e;refine ZeT PK (Yt z (by decide)) O hi I hr fun s' t a b h1 h2 P=>?_
  exact hQ1 rfl s' t a b h1 h2 (S.keep fun a o e=>P.keep a o e id) ⟨fun a o e μ=>P.keep a o e id,P.gens,P.os⟩
 ·rw[List.concat_eq_append]at e;rw[e,ZbG]at I;have hz':(trefs r).length+1≤4096:=by rw[e,List.length_append]at hz;rw[List.length_map];exact hz
  have sub:∀t'∈r,t'∈ts:=fun t' h=>e▸List.mem_append_left _ h;refine Zd6 PK (Yt z (by decide)) (Nat.le_trans hz' (by decide)) O hi I hr fun s' n' h1 P=>?_
  exact hQ2 r t e s' ⟨exI3 n' od tk ⟨⟨h1,rfl,I.no,P.keep ad od I.dict (ZeU S)⟩,z⟩,fun t' ht'=>P.keep _ _ (S.tups t' (sub t' ht')) (Zjg S t' (sub t' ht')).1⟩ P
end
inductive ER:List DictEntry→List (Str×Value)→Prop
 |nil:ER [] []
 |cons (h:Int) (x:Str) (tk:Tok) (v:Value) (es:List DictEntry) (l:List (Str×Value)):ER es l→ER (⟨h, .str x tk,v⟩::es) ((x,v)::l)
noncomputable def OD(od:Obj)(l:List (Str×Value)):Prop:=∃c d n sl es,od=⟨c,d, .dict es n,sl⟩∧ER es.toList l
theorem Zgm(x:Str)(tk:Tok):(Value.str x tk).isStr x=true:=by simp[Value.isStr]
theorem Zfp{x y:Str}(tk:Tok)(h:x≠y):(Value.str x tk).isStr y=false:=by simpa[Value.isStr]using h
theorem ER.noref{es:List DictEntry}{l:List (Str×Value)}(r:ER es l):es.any (·.refKey)=false:=by
 induction r with
 |nil=>rfl
 |cons _ _ _ _ _ _ _ ih=>exact ih
theorem ER.find{es:List DictEntry}{l:List (Str×Value)}{x:Str}(r:ER es l):(es.find? (·.key.isStr x)).map (·.val)=l.lookup x:=by
 induction r with
 |nil=>rfl
 |cons h y tk v es l r ih=>
  by_cases e:y=x
  ·subst e;rw[List.find?_cons_of_pos (by exact Zgm y tk),List.lookup_cons_self];rfl
  ·rw[List.find?_cons_of_neg (by show¬(Value.str y tk).isStr x=true;rw[Zfp tk e];decide),ih,List.lookup_cons,beq_eq_false_iff_ne.mpr (Ne.symm e)]
theorem YB{od:Obj}{l:List (Str×Value)}{x:Str}(h:OD od l):lookIn x od=some (l.lookup x):=by
 obtain⟨c,d,n,sl,es,rfl,r⟩:=h;unfold lookIn
 dsimp only
 have e:=r.find (x:=x);cases q:es.toList.find? (·.key.isStr x)with
 |some en=>rw[q]at e;rw[←e];rfl
 |none=>rw[q]at e;rw[←e,r.noref];rfl
theorem ZhP{od:Obj}{l:List (Str×Value)}{x:Str}(h:OD od l)(hl:l.lookup x=none):shadowIn (some od) x=some false:=by
 show(lookIn x od).map (·.isSome)=some false;rw[YB h,hl];rfl
theorem ER.snoc{x:Str}{v:Value}{hh:Int}{tk:Tok}{es:List DictEntry}{l:List (Str×Value)}(r:ER es l):ER (es++[⟨hh, .str x tk,v⟩]) (l++[(x,v)]):=by
 induction r with
 |nil=>exact .cons _ _ _ _ _ _ .nil
 |cons h y t w es l r ih=>exact .cons _ _ _ _ _ _ ih
theorem ER.notFound{x:Str}{es:List DictEntry}{l:List (Str×Value)}(r:ER es l):l.lookup x=none→es.findIdx? (·.key.isStr x)=none:=by
 induction r with
 |nil=>exact fun μ=>rfl
 |cons h y tk v es l r ih=>
  intro e;by_cases hy:y=x
  ·rw[hy,List.lookup_cons_self]at e;exact nnO e.symm
  ·rw[List.lookup_cons,beq_eq_false_iff_ne.mpr (Ne.symm hy)]at e;rw[List.findIdx?_cons,if_neg (by show¬(Value.str y tk).isStr x=true;rw[Zfp tk hy];decide),ih e];rfl
theorem Zls{od:Obj}{l:List (Str×Value)}{x:Str}{v:Value}{hh:Int}{tk:Tok}(h:OD od l)(hl:l.lookup x=none):OD (Obj.putName x hh (.str x tk) v od) (l++[(x,v)]):=by
 obtain⟨c,d,n,sl,es,rfl,r⟩:=h;refine(Obj.putName_eq).symm▸?_;unfold Obj.putNameByArray
 dsimp only
 have e:=r.notFound hl;have e':es.findIdx? (·.key.isStr x)=none:=by rw[←List.findIdx?_toArray]at e;exact e
 refine(e').symm▸?_;exact⟨c,d,n+1,sl,_,rfl,by refine(Array.toList_push).symm▸?_;exact r.snoc⟩
theorem ZjX:OD emptyDict []:=⟨_,_,_,_, #[],rfl, .nil⟩
structure PV where
 ws:Str
 lead:Int
 sp:Str
noncomputable def pgL(pv:PV)(tm tw tl ts:Tok)(ln x:Addr):List (Str×Value):=
 [("_maxlen", .int 40 tm),("_continuation_ws", .str pv.ws tw),("_continuation_ws_len", .int pv.lead tl),("_splitchars", .str pv.sp ts),("_lines", .ref ln),("_current_line", .ref x)]
structure PgSt(h:Heap)(pg pd x ad ln:Addr)(ts:List TT)(sz:Int)(ls:List (Str×Tok))(pv:PV):Prop where
 inst:∃od tm tw tl tp,InstAt h pg (instObj cP pd) cP (some od)∧OD od (pgL pv tm tw tl tp ln x)
 acc:AccSt h x ad ts sz
 lines:∃n,h.get? ln=some (Zb (strValues ls) n)
theorem PgSt.el{h:Heap}{pg pd x ad ln:Addr}{ts:List TT}{sz:Int}{ls:List (Str×Tok)}{pv:PV}(S:PgSt h pg pd x ad ln ts sz ls pv){R:Prop}(f:∀od tm tw tl tp,InstAt h pg (instObj cP pd) cP (some od)→OD od (pgL pv tm tw tl tp ln x)→R):R:=exE5 S.inst fun od tm tw tl tp h=>f od tm tw tl tp h.1 h.2
section
variable{C:Ctx}{p:Params}{A:Around}{s:Shared}{E:VP}{pg pd x ad ln:Addr}{ts:List TT}{sz:Int}{ls:List (Str×Tok)}{pv:PV}
theorem Zfb{nm:Str}{v:Value}{expr:Bool}{Q:VP}{od:Obj}{l:List (Str×Value)}(X:(KK p).In s.heap)(I:InstAt s.heap pg (instObj cP pd) cP (some od))(z:OD od l)(hn:findIn (KK p) (.ref cP) nm=some none)(hl:l.lookup nm=some v)(hv:handedIn v=true)
  (h:Q v {s with toks:=s.toks+1}):wpAny (model C.prog C.w) A (getAttr (.ref pg) nm expr) Q E s:=
 Znb X I hn (by rw[YB z,hl]) hv h
theorem Zkw{expr:Bool}{Q:VP}(X:(KK p).In s.heap)(S:PgSt s.heap pg pd x ad ln ts sz ls pv)(h:Q (.ref x) {s with toks:=s.toks+1}):wpAny (model C.prog C.w) A (getAttr (.ref pg) "_current_line" expr) Q E s:=
 S.el fun μ μ μ μ μ I z=>Zfb X I z (by kernel_rfl) rfl rfl h
theorem Ziq{expr:Bool}{Q:VP}(X:(KK p).In s.heap)(S:PgSt s.heap pg pd x ad ln ts sz ls pv)(h:Q (.ref ln) {s with toks:=s.toks+1}):wpAny (model C.prog C.w) A (getAttr (.ref pg) "_lines" expr) Q E s:=
 S.el fun μ μ μ μ μ I z=>Zfb X I z (by kernel_rfl) rfl rfl h
theorem ZeE{expr:Bool}{Q:VP}(X:(KK p).In s.heap)(S:PgSt s.heap pg pd x ad ln ts sz ls pv)(h:∀t,Q (.int 40 t) {s with toks:=s.toks+1}):wpAny (model C.prog C.w) A (getAttr (.ref pg) "_maxlen" expr) Q E s:=
 S.el fun μ μ μ μ μ I z=>Zfb X I z (by kernel_rfl) rfl rfl (h _)
theorem Zna{expr:Bool}{Q:VP}(X:(KK p).In s.heap)(S:PgSt s.heap pg pd x ad ln ts sz ls pv)(h:∀t,Q (.int pv.lead t) {s with toks:=s.toks+1}):wpAny (model C.prog C.w) A (getAttr (.ref pg) "_continuation_ws_len" expr) Q E s:=
 S.el fun μ μ μ μ μ I z=>Zfb X I z (by kernel_rfl) rfl rfl (h _)
theorem PgSt.keep{h h':Heap}(a:PgSt h pg pd x ad ln ts sz ls pv)(k:∀a o,h.get? a=some o→h'.get? a=some o):PgSt h' pg pd x ad ln ts sz ls pv:=
 a.el fun od tm tw tl tp I z=>⟨exI5 od tm tw tl tp ⟨Zp I k,z⟩,a.acc.keep k,a.lines.imp fun n e=>k _ _ e⟩
theorem OD.data{od:Obj}{l:List (Str×Value)}(z:OD od l):∀ps,od.data≠ .fields ps:=fun ps h=>by
 obtain⟨c,d,n,sl,es,rfl,r⟩:=z;cases h
theorem OD.seq{od:Obj}{l:List (Str×Value)}(z:OD od l):∀a n,od.data≠ .seq a n:=fun ps n h=>by
 obtain⟨c,d,n,sl,es,rfl,r⟩:=z;cases h
theorem SizeD.od{od:Obj}{v:Value}(z:SizeD od v):OD od [("_initial_size",v)]:=by
 obtain⟨c,d,hh,tk,n,sl,rfl⟩:=z;exact⟨c,d,n,sl,_,rfl, .cons _ _ _ _ _ _ .nil⟩
structure Far(pg pd x ad ln:Addr):Prop where
 a1:pg≠pd∧pg≠x∧pg≠ad∧pg≠ln
 a2:pd≠x∧pd≠ad∧pd≠ln
 a3:x≠ad∧x≠ln∧ad≠ln
theorem odNe{o o':Obj}{l:List (Str×Value)}(z:OD o l)(h:∀es n,o'.data≠ .dict es n):o'.data≠o.data:=fun e=>by
 obtain⟨c,d,n,sl,es,rfl,r⟩:=z;exact h es n e
theorem PgSt.far{h:Heap}(S:PgSt h pg pd x ad ln ts sz ls pv):Far pg pd x ad ln:=by
 refine S.el fun od tm tw tl tp I z=>S.acc.el fun n oa tk J y=>S.lines.elim fun m hl=>?_;have h2:h.get? pd=some od:=I.dict;have h4:h.get? ad=some oa:=J.dict;have y':=y.od;have c1:∀(es:Array DictEntry) n,(instObj cP pd).data≠ .dict es n:=fun μ μ e=>Data.noConfusion e;refine⟨⟨dtNe I.at_ h2 (odNe z c1),dtNe I.at_ J.at_ fun e=>Data.noConfusion e,dtNe I.at_ h4 (odNe y' c1),dtNe I.at_ hl fun e=>Data.noConfusion e⟩,⟨dtNe h2 J.at_ (z.seq _ _),fun e=>?_,dtNe h2 hl (z.seq _ _)⟩,dtNe J.at_ h4 fun e=>y'.seq _ _ e.symm,dtNe' J.at_ hl fun e=>Value.noConfusion e,dtNe h4 hl (y'.seq _ _)⟩;have e:=Option.some.inj (h2.symm.trans (e▸h4));have a:=YB z (x:="_maxlen");rw[e,YB y']at a;exact nnO (Option.some.inj a)
theorem PgSt.mv{S:Addr→Prop}{s s':Shared}(a:PgSt s.heap pg pd x ad ln ts sz ls pv)(PK:PG C p)(hi:C.inv s.heap)(M:Mv C TB S s s')(h1:¬S pg)(h2:¬S pd)(h3:¬S x)(h4:¬S ad)(h5:¬S ln)(ht:∀t∈ts,¬S t.1):PgSt s'.heap pg pd x ad ln ts sz ls pv:=
 a.el fun od tm tw tl tp I z=>⟨exI5 od tm tw tl tp ⟨⟨M.keepD PK hi I.at_ h1 (fun ps h=>Data.noConfusion h),I.cls,I.no,M.keepD PK hi (show s.heap.get? pd=some od from I.dict) h2 z.data⟩,z⟩,a.acc.mv PK hi M h3 h4 ht,a.lines.imp fun n e=>M.keepD PK hi e h5 fun ps h=>Data.noConfusion h⟩
theorem PgSt.line{s s':Shared}{ts':List TT}{sz':Int}(a:PgSt s.heap pg pd x ad ln ts sz ls pv)(P:Plain (fun b=>b=x∨b=ad) s s')(b:AccSt s'.heap x ad ts' sz'):PgSt s'.heap pg pd x ad ln ts' sz' ls pv:=by
 have f:=a.far;exact a.el fun od tm tw tl tp I z=>⟨exI5 od tm tw tl tp ⟨⟨P.keep _ _ I.at_ (not_or.mpr ⟨f.a1.2.1,f.a1.2.2.1⟩),I.cls,I.no,P.keep pd od I.dict (not_or.mpr ⟨f.a2.1,f.a2.2.1⟩)⟩,z⟩,b,a.lines.imp fun n e=>P.keep _ _ e (not_or.mpr ⟨f.a3.2.1.symm,f.a3.2.2.symm⟩)⟩
theorem Plain.weak{S S':Addr→Prop}{s s':Shared}(P:Plain S s s')(h:∀a,S a→S' a):Plain S' s s':=⟨fun a o e n=>P.keep a o e fun q=>n (h a q),P.gens,P.os⟩
theorem Zey{nm:Str}{f:Addr}{pl:Sem Bool}{Q:Value×List Value→Shared→Prop}(X:(KK p).In s.heap)(S:AccSt s.heap x ad ts sz)(hf:findIn (KK p) (.ref cA) nm=some (some (.ref f)))(ht:typeIn (KK p) (.ref f)=some (.type "function"))(hne:(("_initial_size":Str)==nm)=false)
  (h:Q (.ref f,[.ref x]) s):wpAny (model C.prog C.w) A (getMethod (.ref x) nm pl) Q E s:=
 S.el fun n od tk I z=>ZbP X I a_ga a_gt hf ht (Yt z hne) h
end
noncomputable abbrev lineE(p0 p1:Pos):Expr:= .Attribute (.Name "self" p0) "_current_line" p1
noncomputable abbrev ZoF(p0 p1:Pos):Expr:= .Attribute (.Name "self" p0) "_lines" p1
structure PgEnv(C:Ctx)(env:Env)(s:Shared)(pg:Addr)(m:Str→Option Value):Prop where
 kind:env.scope.kind= .function
 self:env.kindOf "self"=some .local
 ns:s.heap.Ns env.locals m
 val:m "self"=some (.ref pg)
 old:OldK C.base s.heap
 inv:C.inv s.heap
section
variable{C:Ctx}{p:Params}{A:Around}{s:Shared}{E:VP}{env:Env}{m:Str→Option Value}{pg pd x ad ln:Addr}{ts:List TT}{sz:Int}{ls:List (Str×Tok)}{pv:PV}
theorem PgEnv.mv{S:Addr→Prop}{s s':Shared}(V:PgEnv C env s pg m)(PK:PG C p)(M:Mv C TB S s s')(h:¬S env.locals):PgEnv C env s' pg m:=
 ⟨V.kind,V.self,ns_mv PK V.inv M V.ns h,V.val,(M.old V.old V.inv).1,(M.old V.old V.inv).2⟩
theorem PgEnv.toks(V:PgEnv C env s pg m)(t:Nat):PgEnv C env {s with toks:=t} pg m:=⟨V.kind,V.self,V.ns,V.val,V.old,V.inv⟩
theorem Mv.toks{S:Addr→Prop}(t:Nat):Mv C TB S s {s with toks:=t}:=Mv.plain0 (Plain.toks _ _ _)
theorem Zac{p0 p1:Pos}{Q:VP}(PK:PG C p)(V:PgEnv C env s pg m)(S:PgSt s.heap pg pd x ad ln ts sz ls pv)(h:Q (.ref x) {s with toks:=s.toks+1}):wpAny (model C.prog C.w) A (eval (lineE p0 p1) env) Q E s:=
 Yi V.kind V.self (by decide) V.ns V.val (Zkw (inG PK V.inv) S h)
theorem ZaI{p0 p1:Pos}{Q:VP}(PK:PG C p)(V:PgEnv C env s pg m)(S:PgSt s.heap pg pd x ad ln ts sz ls pv)(h:Q (.ref ln) {s with toks:=s.toks+1}):wpAny (model C.prog C.w) A (eval (ZoF p0 p1) env) Q E s:=
 Yi V.kind V.self (by decide) V.ns V.val (Ziq (inG PK V.inv) S h)
structure LM(p:Params)(nm:Str)(f:Addr):Prop where
 find:findIn (KK p) (.ref cA) nm=some (some (.ref f))
 typ:typeIn (KK p) (.ref f)=some (.type "function")
 func:∃oc od fd osl,(KK p).lookup f=some ⟨oc,od, .func fd,osl⟩
 ne:(("_initial_size":Str)==nm)=false
theorem ZdD{M:Model}{f:Addr}{s:Shared}{oc:Value}{od:Option Addr}{fd:FuncData}{osl:Array (Option Value)}(h:(KK p).lookup f=some ⟨oc,od, .func fd,osl⟩)(X:(KK p).In s.heap):∀Q':Keeper→Shared→Prop,(∀k,Q' k s)→wpAny M A (keeperOf (.ref f)) Q' E s:=ZZ (X _ _ h) rfl
theorem ZcF:LM p "push" 179:=⟨by kernel_rfl,by kernel_rfl,exI4 _ _ _ _ fc179.look,by decide⟩
theorem ZoE:LM p "pop" 195:=⟨by kernel_rfl,by kernel_rfl,exI4 _ _ _ _ fc195.look,by decide⟩
theorem Zka:LM p "reset" 217:=⟨by kernel_rfl,by kernel_rfl,exI4 _ _ _ _ fc217.look,by decide⟩
theorem lm_ws:LM p "is_onlyws" 224:=⟨by kernel_rfl,by kernel_rfl,exI4 _ _ _ _ fc224.look,by decide⟩
theorem Jf{p0 p1 p2 p3:Pos}{nm:Str}{f:Addr}{args:List Expr}{Q:VP}(L:LM p nm f)(PK:PG C p)(V:PgEnv C env s pg m)(S:PgSt s.heap pg pd x ad ln ts sz ls pv)(hl:Nat.beq p2.endLine p3.line=true)(hst:Z3 args=true)(hn:Nat.blt args.length 20=true)
  (h:wpAny (model C.prog C.w) A (spliced (backTo p3 (starEach args env))) (fun vs s₁=>(KK p).In s₁.heap∧wpAny (model C.prog C.w) A (call (.ref f) (.ref x::vs)) Q E s₁) E {s with toks:=s.toks+1}):
  wpAny (model C.prog C.w) A (eval (.Call (.Attribute (lineE p0 p1) nm p2) args [] p3) env) Q E s:=by
 refine YC hl hst hn rfl (Zac PK V S fun pl=>?_);refine Zey (inG PK V.inv) S.acc L.find L.typ L.ne ?_;exact Zf (ZC hst) (wpAny_mono h (fun vs s₁ h=>exE4 L.func fun μ μ μ μ e=>⟨ZdD e h.1,h.2⟩) fun μ μ e=>e)
theorem PgSt.push{a b:Str}{ta tb:Tok}{t:Addr}{s s':Shared}(S:PgSt s.heap pg pd x ad ln ts sz ls pv)(P:Plain (· =x) s s')(N:AccSt s'.heap x ad (ts++[(t,(a,ta),(b,tb))]) sz):PgSt s'.heap pg pd x ad ln (ts++[(t,(a,ta),(b,tb))]) sz ls pv:=
 S.line (P.weak fun μ h=> .inl h) N
theorem Zmr{Q:VP}(PK:PG C p)(O:OldK C.base s.heap)(hi:C.inv s.heap)(S:PgSt s.heap pg pd x ad ln ts sz ls pv)(hz:ts.length≤4096)(hr:A.depth+1<recursionLimit)
  (hQ:∀s' t a b,s.heap.get? t=none→PgSt s'.heap pg pd x ad ln (ts++[((t,((" ":Str),a),(("":Str),b)):TT)]) sz ls pv→Plain (· =x) s s'→Q .none s'):wpAny (model C.prog C.w) A (call (.ref 120) [.ref pg]) Q E s:=by
 refine enF fc120 (bc120 _) PK O hi (Nat.le_of_succ_le hr) fun s₀ L hL P0 hn O0 i0=>?_;have S0:=S.keep fun a o e=>P0.keep a o e id;refine ks_wpAt_execs_cons (ks_wpAt_Expr_any (_root_.PySem.wpAt_of_wpAny ?_) rfl);refine Jf ZcF PK ⟨k120,Zig,hn,ZgT _,O0,i0⟩ S0 rfl rfl rfl ?_;refine wpAny_items_cons (wpAny_Constant_str (wpAny_items_cons (wpAny_Constant_str (wpAny_items_nil ⟨inG PK i0,?_⟩))));refine wpAny_call (ZhE (s:={s₀ with toks:=_}) PK O0 i0 S0.acc hz hr fun s1 t h1 N P1=>?_);refine _root_.PySem.wpAt_of_wpAny (wpAny_execs_nil ?_);have P:Plain (· =x) s₀ s1:=(Plain.toks _ _ _).trans P1;exact hQ s1 t _ _ (noAt (fun a o e=>P0.keep a o e id) h1) (S0.push P N) ((P0.weak fun μ h=>h.elim).trans P)
theorem JJ(ts:List TT)(t:TT):twid (ts++[t])=twid ts+wid t:=by simp[twid]
theorem Zms{a b:Str}{ta tb:Tok}{Q:VP}(PK:PG C p)(O:OldK C.base s.heap)(hi:C.inv s.heap)(S:PgSt s.heap pg pd x ad ln ts sz ls pv)(hz:ts.length+1≤4096)(h0:0≤sz)(hfit:sz+twid ts+a.length+b.length≤40)(hx:C.base.objs.size≤x)(hr:A.depth+2<recursionLimit)(hh:A.handled=none)
  (hQ:∀s' t,s.heap.get? t=none→PgSt s'.heap pg pd x ad ln (ts++[(t,(a,ta),(b,tb))]) sz ls pv→Mv C TB (· =x) s s'→Q .none s'):wpAny (model C.prog C.w) A (call (.ref 148) [.ref pg, .str a ta, .str b tb]) Q E s:=by
 refine enF fc148 (bc148 _ _ _) PK O hi (Nat.lt_of_succ_lt (Nat.lt_of_succ_lt hr)) fun s₀ L hL P0 hn O0 i0=>?_;have S0:=S.keep fun a o e=>P0.keep a o e id;have V:PgEnv C (fE (KH.M 13 8) "_ValueFormatter._append_chunk" 148 (KH.r 147) [] L) s₀ pg _:=⟨k148,Zif,hn,ZgR _ _ _,O0,i0⟩;refine ks_wpAt_execs_cons (ks_wpAt_Expr_any (_root_.PySem.wpAt_of_wpAny ?_) rfl);refine Jf ZcF PK V S0 rfl rfl rfl ?_;refine wpAny_items_cons (wpAny_Name (wpAny_loadName_local (s:={s₀ with toks:=_}) k148 Zkh hn (Zjn _ _ _) ?_));refine wpAny_items_cons (wpAny_Name (wpAny_loadName_local (s:={s₀ with toks:=_}) k148 ZeB hn (Zeb _ _ _) (wpAny_items_nil ⟨inG PK i0,?_⟩)));refine wpAny_call (ZhE (s:={s₀ with toks:=_}) PK O0 i0 S0.acc (Nat.le_of_succ_le hz) (Nat.lt_of_succ_lt hr) fun s1 t h1 N P1=>?_);have P:Plain (· =x) s₀ s1:=(Plain.toks _ _ _).trans P1;have S1:=S0.push P N;have Mx:Mv C TB (· =x) s₀ s1:=Mv.plain P fun a h=>h▸hx;have V1:=V.mv PK Mx (S.acc.el fun n od tk I z=>(nsNe I.at_ hL).symm);have e1:(twid (ts++[(t,(a,ta),(b,tb))]):Int)=twid ts+a.length+b.length:=by rw[JJ];simp only[wid];lia
 have Z1:Small (ts++[(t,(a,ta),(b,tb))]) sz:=⟨by lia,by rw[List.length_append];exact hz,h0,by lia⟩
 refine ks_wpAt_execs_cons (ks_wpAt_If (_root_.PySem.wpAt_of_wpAny (PySem.wpAny_isTrue_Compare1 ?_)));refine Yb (id:="len") k148 Zkg rfl rfl V1.old (Zds PK) ZfL (by decide) (by decide) rfl ?_
 refine wpAny_items_cons (Zac PK V1 S1 (wpAny_items_nil ?_));refine Jn (s:={s1 with toks:=_}) PK V1.old V1.inv S1.acc Z1 hr hh fun s2 tk M2=>?_;have M2':Mv C TB nox s1 s2:=(Mv.toks _).trans M2;have S2:=S1.mv PK V1.inv M2' id id id id id fun μ μ h=>h;have V2:=V1.mv PK M2' id;refine Yi V2.kind V2.self (by decide) V2.ns V2.val (ZeE (inG PK V2.inv) S2 fun tm=>?_)
 refine PyProof.Rows.gt_int ?_;refine wpAny_truthy_bool ?_;rw[e1,decide_eq_false (by lia),if_neg (by decide)]
 refine _root_.PySem.wpAt_of_wpAny (wpAny_execs_nil (_root_.PySem.wpAt_of_wpAny (wpAny_execs_nil ?_)));exact hQ {s2 with toks:=_} t (noAt (fun a o e=>P0.keep a o e id) h1) S2 (((Mv.plain0 P0).trans Mx).trans ((M2'.trans (Mv.toks _)).weaken fun μ h=>h.elim))
end
section
variable{C:Ctx}{p:Params}{A:Around}{s:Shared}{E:VP}{env:Env}{m:Str→Option Value}{pg pd x ad ln:Addr}{ts:List TT}{sz:Int}{ls:List (Str×Tok)}{pv:PV}
theorem ZnU{p q:Addr}{a b c d:Str}{ta tb tc td:Tok}{Q:VP}(h1:s.heap.get? p=some (tupO (p,(a,ta),(b,tb))))(h2:s.heap.get? q=some (tupO (q,(c,tc),(d,td))))(hu:A.units<cLine)
  (h:Q (.bool (!((a==c)&&(b==d)))) s):wpAny (model C.prog C.w) A (compareOp .NotEq (.ref p) (.ref q)) Q E s:=by
 have R:=SeqAt.RcNeAt.tuples (A:=A) (s:=s) (l:=p) (b:=q) (items:= #[.str a ta, .str b tb]) (items2:= #[.str c tc, .str d td]) (e:=fun j=>if j=0 then a==c else b==d) ⟨_,h1,rfl,_,rfl⟩ ⟨_,h2,rfl,_,rfl⟩ hu (fun j hj μ=>by
  have:j=0∨j=1:=by simp at hj;lia
  rcases this with rfl|rfl
  ·exact SeqAt.EqAt.str_str a ta c tc
  ·exact SeqAt.EqAt.str_str b tb d td)
 refine R C.prog C.w E Q ?_;have e:(List.range (min (#[Value.str a ta, .str b tb]:Array Value).size (#[Value.str c tc, .str d td]:Array Value).size)).all (fun j=>if j=0 then a==c else b==d)=((a==c)&&(b==d)):=by
  show([0,1]:List Nat).all _=_;simp
 refine(e).symm▸?_;simpa using h
theorem Zjz{p:Addr}{a b:Str}{ta tb:Tok}{Q:List Value→Shared→Prop}(h1:s.heap.get? p=some (tupO (p,(a,ta),(b,tb))))(h:∀h',(∀b o,s.heap.get? b=some o→h'.get? b=some o)→Q [.str a ta, .str b tb] {s with heap:=h'}):
  StarOf (model C.prog C.w) A E (.ref p) Q s:=by
 have hT':s.TypeIs (.ref p) "tuple":=⟨_,h1,rfl⟩;have z:wpAny (model C.prog C.w) A (collect (.ref p)) Q E s:=wpAny_collect_seq p (.inr rfl) h1 rfl rfl (fun h' hk=>h h' hk) (by show 2≤sizeLine;decide)
 skip
 exact Wb (wpAny_specialOf hT' PySem.F.slot_tuple_iter.lookup (Wp ⟨rfl,z⟩))
theorem Zhc{p0 p1 p2 p3 q0 q1:Pos}{t:Addr}{a b:Str}{ta tb:Tok}{Q:VP}(PK:PG C p)(V:PgEnv C env s pg m)(S:PgSt s.heap pg pd x ad ln ts sz ls pv)
  (l1:env.kindOf "end_of_line"=some .local)(hv:m "end_of_line"=some (.ref t))(htup:s.heap.get? t=some (tupO (t,(a,ta),(b,tb))))
  (h:∀s',Plain nox s s'→codeAny (model C.prog C.w) A (.call (.ref 179) ⟨[.ref x, .str a ta, .str b tb],[]⟩) (fun r s'=>match r with| .ok (.ret v)=>Q v s'| .ok _=>False| .error e=>E e s') s'):
  wpAny (model C.prog C.w) A (eval (.Call (.Attribute (lineE p0 p1) "push" p2) [.Starred (.Name "end_of_line" q0) q1] [] p3) env) Q E s:=by
 refine S.acc.el fun n od tk I z=>?_;rw[arm_eval_Call];refine Wb (m:=eval (lineE p0 p1) env) (Zac PK V S (Wb (wpAny_standAt ?_)));unfold methodCall;have hform:methodCallForm ([Expr.Starred (.Name "end_of_line" q0) q1].length+([]:List Keyword).length) (backTo p3 (starEach [Expr.Starred (.Name "end_of_line" q0) q1] env)) (backToKw p3 (keywordEach [] env))=false:=rfl;refine(hform).symm▸?_;refine Wb (wpAny_holding ?_);unfold calleeOf;rw[if_neg (by decide)]
 refine Wb (Zis (od:=some od) (inG PK V.inv) I a_ga a_gt Jy (findObj_fn (by kernel_rfl) (ZcF (p:=p)).find (by kernel_rfl) (by kernel_rfl) (by decide+kernel) (by rw[YB z.od];rfl)) (fun {A E R} hR=>wpAny_call (fn_get (s:={s with toks:=_}) (inG PK V.inv) (ZcF (p:=p)).typ ⟨rfl,hR _ _ ?_⟩)))
 have hpos:methodCallPos false (lineE p0 p1) env p2 p3=pure p3:=rfl;refine Wp (Wb (wpAny_of_eq hpos ?_));have hq:(s.heap.push (methodObj (.ref 179) (.ref x))).get? s.heap.objs.size=some (methodObj (.ref 179) (.ref x)):=Heap.get?_push_size _ rfl;have kp:∀a o,s.heap.get? a=some o→(s.heap.push (methodObj (.ref 179) (.ref x))).get? a=some o:=fun a o e=>Heap.get?_push_of_some _ e;have i1:C.inv (s.heap.push (methodObj (.ref 179) (.ref x))):=C.inv_step _ _ V.inv fun a o e μ=>kp a o e;refine ks_call (P:=fun h=>h.get? s.heap.objs.size=some (methodObj (.ref 179) (.ref x))∧(KK p).In h) rfl (fun h hP=>⟨.boundFrame, .inr (.inr rfl),fun A Q E s k q=>?_⟩) (ks_lone ?_)
 ·unfold keeperOf;exact Wb (wpAny_load (k _ _ hP.1) (Wb (wpAny_load (k _ _ (hP.2 _ _ fc179.look)) (Wp q))))
 refine wpAny_Name (wpAny_loadName_local (s:={s with heap:=_,toks:=_}) V.kind l1 (V.ns.keeps kp) hv ?_);refine Zjz (s:={s with heap:=_,toks:=_}) (kp _ _ htup) fun h' k'=>?_;refine⟨⟨k' _ _ hq,inG PK (C.inv_step _ _ i1 fun a o e μ=>k' a o e)⟩,?_⟩;refine wpAny_call (method_call (s:={s with heap:=_,toks:=_}) (k' _ _ hq) ?_);exact h _ ⟨fun a o e μ=>k' _ _ (kp a o e),rfl,rfl⟩
end
noncomputable def Zia(t:TT):Bool:=(t.2.1.1==(" ":Str))&&(t.2.2.1==("":Str))
noncomputable def NlRel(ts ts':List TT):Prop:=(ts=[]∧∃t a b,ts'=[(t,(("":Str),a),(("":Str),b))])∨(∃r t,ts=r++[t]∧((Zia t=true∧ts'=r)∨(Zia t=false∧∃t':TT,t'.2=t.2∧ts'=r++[t'])))
noncomputable abbrev nlB:List Stmt:=KH.fBody (KH.M 13 3)
noncomputable abbrev eN(L:Addr):Env:=fE (KH.M 13 3) "_ValueFormatter.newline" 113 (KH.r 112) [] L
noncomputable abbrev eolM(m:Str→Option Value)(v:Value):Str→Option Value:=fun y=>if y="end_of_line" then some v else m y
structure Loc5(pg pd x ad ln L:Addr):Prop where
 pg:pg≠L
 pd:pd≠L
 x:x≠L
 ad:ad≠L
 ln:ln≠L
section
variable{C:Ctx}{p:Params}{A:Around}{s:Shared}{E:VP}{m:Str→Option Value}{L pg pd x ad ln:Addr}{ts:List TT}{sz:Int}{ls:List (Str×Tok)}{pv:PV}
theorem PgSt.loc(S:PgSt s.heap pg pd x ad ln ts sz ls pv)(hL:s.heap.get? L=none):Loc5 pg pd x ad ln L:=
 S.el fun od tm tw tl tp I z=>S.acc.el fun n oa tk J y=>S.lines.elim fun n' e=>⟨nsNe I.at_ hL,nsNe (show s.heap.get? pd=some od from I.dict) hL,nsNe J.at_ hL,nsNe (show s.heap.get? ad=some oa from J.dict) hL,nsNe e hL⟩
theorem nl_if{c:Code}{t:Addr}{a b:Str}{ta tb:Tok}{Q:Flow→Shared→Prop}(PK:PG C p)(V:PgEnv C (eN L) s pg m)(S:PgSt s.heap pg pd x ad ln ts sz ls pv)(hxL:x≠L)(hx:C.base.objs.size≤x)(hr:A.depth<recursionLimit)(hu:A.units+40<cLine)
  (ht:s.heap.get? t=some (tupO (t,(a,ta),(b,tb))))(hm:m "end_of_line"=some (.ref t))(hz:ts.length≤4096)
  (hQ:∀s' ts',(((a==(" ":Str))&&(b==("":Str)))=true∧ts'=ts∨((a==(" ":Str))&&(b==("":Str)))=false∧∃t',ts'=ts++[(t',(a,ta),(b,tb))])→PgEnv C (eN L) s' pg m→PgSt s'.heap pg pd x ad ln ts' sz ls pv→Plain (· =x) s s'→_root_.PySem.wpAt (model C.prog C.w) A c (execs (nlB.drop 2) (eN L)) Q E s'):
  _root_.PySem.wpAt (model C.prog C.w) A c (execs (nlB.drop 1) (eN L)) Q E s:=by
 refine ks_wpAt_execs_cons (ks_wpAt_If (_root_.PySem.wpAt_of_wpAny (PySem.wpAny_isTrue_Compare1 ?_)));refine wpAny_Name (wpAny_loadName_local k113 ZcG V.ns hm ?_);refine wpAny_Tuple_spliced (wpAny_items_cons (wpAny_Constant_str (wpAny_items_cons (wpAny_Constant_str (wpAny_items_nil ⟨(by decide:2≤sizeLine),?_⟩)))))
 have kp3:∀a o,s.heap.get? a=some o→(s.heap.push (tupO (0,(" ",s.toks),("",s.toks+1)))).get? a=some o:=fun a o e=>Heap.get?_push_of_some _ e;refine ZnU (s:={s with heap:=s.heap.push _,toks:=_}) (p:=t) (q:=s.heap.objs.size) (c:=(" ":Str)) (d:=("":Str)) (tc:=s.toks) (td:=s.toks+1) (kp3 _ _ ht) (Heap.get?_push_size _ rfl) (Nat.lt_of_le_of_lt (Nat.le_add_right _ 40) hu) ?_;refine wpAny_truthy_bool ?_;have P3:∀tk,Plain nox s {s with heap:=s.heap.push (tupO (0,(" ",s.toks),("",s.toks+1))),toks:=tk}:=fun tk=>Plain.push _ _ _ _;have V3:=fun tk=>V.mv PK (Mv.plain0 (T:=TB) (S:=nox) (P3 tk)) id;have S3:=S.keep kp3;cases hc:((a==(" ":Str))&&(b==("":Str)))with
 |true=>exact _root_.PySem.wpAt_of_wpAny (wpAny_execs_nil (hQ _ ts (.inl ⟨hc,rfl⟩) (V3 _) S3 ((P3 _).weak fun μ h=>h.elim)))
 |false=>
  refine ks_wpAt_execs_cons (ks_wpAt_Expr_any (_root_.PySem.wpAt_of_wpAny ?_) rfl);refine Zhc PK (V3 _) S3 ZcG hm (kp3 _ _ ht) fun s4 P4=>?_;have V4:=(V3 _).mv PK (Mv.plain0 (T:=TB) (S:=nox) P4) id;have S4:=S3.keep fun a o e=>P4.keep a o e id;refine ZhE PK V4.old V4.inv S4.acc hz hr fun s5 t5 ht5 N5 P5=>?_;refine _root_.PySem.wpAt_of_wpAny (wpAny_execs_nil ?_);exact hQ s5 _ (.inr ⟨hc,t5,rfl⟩) (V4.mv PK (Mv.plain P5 fun a h=>h▸hx) hxL.symm) (S4.push P5 N5) ((((P3 _).trans P4).weak fun μ h=>h.elim).trans P5)
theorem Zmw{c:Code}{t:Addr}{a b:Str}{ta tb:Tok}{Q:Flow→Shared→Prop}(PK:PG C p)(V:PgEnv C (eN L) s pg m)(S:PgSt s.heap pg pd x ad ln ts sz ls pv)(F:Loc5 pg pd x ad ln L)(hL:C.base.objs.size≤L)(hx:C.base.objs.size≤x)(hr:A.depth<recursionLimit)(hu:A.units+40<cLine)
  (ht:s.heap.get? t=some (tupO (t,(a,ta),(b,tb))))(htL:t≠L)(hz:ts.length≤4096)(hrL:∀q∈ts,q.1≠L)
  (hQ:∀s' ts',(((a==(" ":Str))&&(b==("":Str)))=true∧ts'=ts∨((a==(" ":Str))&&(b==("":Str)))=false∧∃t',ts'=ts++[(t',(a,ta),(b,tb))])→PgEnv C (eN L) s' pg (eolM m (.ref t))→PgSt s'.heap pg pd x ad ln ts' sz ls pv→Plain (fun b=>b=x∨b=L) s s'→_root_.PySem.wpAt (model C.prog C.w) A c (execs (nlB.drop 2) (eN L)) Q E s'):
  wpAny (model C.prog C.w) A (storeName (eN L) "end_of_line" (.ref t)) (fun μ s'=>_root_.PySem.wpAt (model C.prog C.w) A c (execs (nlB.drop 1) (eN L)) Q E s') E s:=by
 refine PySem.wpAny_storeName_local ZcG V.ns (fun h2 hn2 sb2=>?_) (by kernel_rfl)
 have P2:Plain (· =L) s {s with heap:=h2,toks:=s.toks+1}:=Plain.but sb2 _;have M2:Mv C TB (· =L) s {s with heap:=h2,toks:=s.toks+1}:=Mv.plain P2 fun a h=>h▸hL;have O2:=M2.old V.old V.inv;exact nl_if PK ⟨k113,ZdB,hn2,V.val,O2.1,O2.2⟩ (S.mv PK V.inv M2 F.pg F.pd F.x F.ad F.ln hrL) F.x hx hr hu (P2.keep _ _ ht htL) rfl hz fun s' ts' h V' S' P'=>hQ s' ts' h V' S' ((P2.weak fun μ h=> .inr h).trans (P'.weak fun μ h=> .inl h))
theorem Zov{c:Code}{Q:Flow→Shared→Prop}(PK:PG C p)(V:PgEnv C (eN L) s pg m)(S:PgSt s.heap pg pd x ad ln ts sz ls pv)(F:Loc5 pg pd x ad ln L)
  (hz:ts.length≤4096)(hx:C.base.objs.size≤x)(hL:C.base.objs.size≤L)(htL:∀t∈ts,t.1≠L)(hr:A.depth+1<recursionLimit)(hu:A.units+40<cLine)
  (hQ:∀s' ts' v,NlRel ts ts'→PgEnv C (eN L) s' pg (eolM m v)→PgSt s'.heap pg pd x ad ln ts' sz ls pv→Plain (fun b=>b=x∨b=L) s s'→_root_.PySem.wpAt (model C.prog C.w) A c (execs (nlB.drop 2) (eN L)) Q E s'):
  _root_.PySem.wpAt (model C.prog C.w) A c (execs nlB (eN L)) Q E s:=by
 refine ks_wpAt_execs_cons (ks_wpAt_Assign_Name (_root_.PySem.wpAt_of_wpAny ?_));refine Jf ZoE PK V S rfl rfl rfl (wpAny_items_nil ⟨inG PK V.inv,?_⟩);have go:∀(s1:Shared) (t:Addr) (a b:Str) (ta tb:Tok) (r:List TT),s1.heap.get? t=some (tupO (t,(a,ta),(b,tb)))→t≠L→AccSt s1.heap x ad r sz→Plain (· =x) {s with toks:=s.toks+1} s1→r.length≤4096→(∀q∈r,q.1≠L)→
   (∀ts',(((a==(" ":Str))&&(b==("":Str)))=true∧ts'=r∨((a==(" ":Str))&&(b==("":Str)))=false∧∃t',ts'=r++[(t',(a,ta),(b,tb))])→NlRel ts ts')→
   wpAny (model C.prog C.w) A (storeName (eN L) "end_of_line" (.ref t)) (fun μ s'=>_root_.PySem.wpAt (model C.prog C.w) A c (execs (nlB.drop 1) (eN L)) Q E s') E s1:=fun s1 t a b ta tb r ht htL N P hrl hrL hN=>by
  have P:Plain (· =x) s s1:=(Plain.toks _ _ _).trans P;exact Zmw PK (V.mv PK (Mv.plain P fun a h=>h▸hx) F.x.symm) (S.line (P.weak fun μ h=> .inl h) N) F hL hx (Nat.lt_of_succ_lt hr) hu ht htL hrl hrL fun s' ts' h V' S' P'=>hQ s' ts' _ (hN ts' h) V' S' ((P.weak fun μ h=> .inl h).trans P')
 refine pop_m (s:={s with toks:=_}) PK V.old V.inv S.acc hz hr (fun e s1 t a b ht0 ht N P=>?_) fun r t e s1 N P=>?_
 ·refine go s1 t "" "" a b [] ht (nsAt V.ns ht0) N P (by decide) (fun μ h=>nomatch h) fun ts' h=>?_
  rcases h with⟨h, -⟩|⟨-,t',h⟩
  ·exact absurd h (by decide)
  ·exact .inl ⟨e,t',a,b,h⟩
 ·have hm:∀q,q∈r∨q=t→q∈ts:=fun q hq=>e▸List.mem_append.mpr (hq.imp_right List.mem_singleton.mpr);refine go s1 t.1 t.2.1.1 t.2.2.1 t.2.1.2 t.2.2.2 r (P.keep _ _ (S.acc.tups t (hm t (.inr rfl))) (Zjg S.acc t (hm t (.inr rfl))).1) (htL t (hm t (.inr rfl))) N P (Nat.le_trans (by rw[e,List.length_append];exact Nat.le_add_right _ _) hz) (fun q hq=>htL q (hm q (.inl hq))) fun ts' h=>?_
  refine .inr ⟨r,t,e,?_⟩;rcases h with h|⟨h,t',h'⟩
  ·exact .inl h
  ·exact .inr ⟨h,(t',t.2),rfl,h'⟩
end
theorem Zc8{prog:Program}{w:World}{A:Around}{s:Shared}{E:VP}{l:Addr}{items:List Value}{y:Value}{n:Nat}{t:Tok}{v:Value}{Q:Unit→Shared→Prop}(ho:s.heap.get? l=some (Zb (items++[y]) n))
  (hQ:∀h' n',h'.get? l=some (Zb (items++[v]) n')→Heap.SameBut l s.heap h'→Q () {s with heap:=h'}):
  wpAny (model prog w) A (setItem (.ref l) (.int (-1) t) v) Q E s:=by
 have hl:s.heap.IsList l (items++[y]).toArray:=Zl ho;obtain⟨n2,hob⟩:∃n',Obj.mapSeq (·.setIfInBounds items.length v) (Zb (items++[y]) n)=Zb (items++[v]) n':=by
  simp[Obj.mapSeq,Zb]
 have hd:(Zb (items++[y]) n).data= .seq (items++[y]).toArray n:=rfl;have hfin:(s.heap.update l (Obj.mapSeq (·.setIfInBounds items.length v))).get? l=some (Zb (items++[v]) n2):=by
  rw[←hob];exact Heap.get?_update_self _ ho (by refine(hob).symm▸?_;rfl)
 unfold setItem;refine wpAny_holding ?_;refine Wb (wpAny_sequenceKey hl.typeIs (by decide) ?_)
 refine Wb (wpAny_callSpecial?_slot (name:=Str.ofString "__setitem__") hl.typeIs slot_list_setitem
  (wpAny_call_entry slot_list_setitem hl.typeIs entry_list_setitem ?_ (args_list_setitem _ _ _)))
 show wpAny _ _ (Builtin.List.listSubscript? (.int (-1) t) >>= _) _ _ s;refine Wb (wpAny_listSubscript_int (fitsIndex_neg (by decide) (by decide)) ?_)
 have hidx:seqIndex? (-1) (items++[y]).toArray.size=some items.length:=by
  rw[seqIndex_neg (by decide) (by simp;lia)]
  simp
  lia
 show wpAny _ _ ((Builtin.List.listItems (.ref l) >>= fun xs=>pure ((seqIndex? (-1) xs.size).bind fun i=>xs[i]?.map (i, ·))) >>= _) _ _ s;refine Wb (Wb ?_);show wpAny _ _ (seqItems? (.ref l) >>= _) _ _ s;refine Wb (wpAny_seqItems ho hd (Wp (Wp ?_)));refine(hidx).symm▸?_;have hx:(items++[y]).toArray[items.length]? =some y:=by simp
 simp only[Option.bind_some,hx,Option.map_some];show wpAny _ _ (setSeqItemAt l items.length v >>= _) _ _ s;refine Wb (wpAny_setSeqItemAt ho hd ?_)
 first
  |exact Wb (Wp (Wp ⟨.none,rfl,Wp (hQ _ _ hfin (Heap.SameBut.update ..))⟩))
  |exact Wp ⟨.none,rfl,Wp (hQ _ _ hfin (Heap.SameBut.update ..))⟩
noncomputable def sIfT:Stmt→Expr
 | .If t _ _ _=>t
 |_=> .Constant .none 0 ⟨0,0,0,0⟩
noncomputable def sIfB:Stmt→List Stmt
 | .If _ b _ _=>b
 |_=>[]
noncomputable def sIfE:Stmt→List Stmt
 | .If _ _ e _=>e
 |_=>[]
noncomputable abbrev stA(l:List Stmt)(k:Nat):Stmt:=l.getD k (.Pass ⟨0,0,0,0⟩)
noncomputable def nlI:Stmt:=stA (sIfB (stA nlB 2)) 0
noncomputable def nlG:Stmt:=stA (sIfB nlI) 0
noncomputable def nlA:Stmt:=stA (sIfE nlI) 0
section
variable{C:Ctx}{p:Params}{A:Around}{s:Shared}{E:VP}{env:Env}{m:Str→Option Value}{L pg pd x ad ln:Addr}{ts:List TT}{sz:Int}{ls:List (Str×Tok)}{pv:PV}
theorem ZlI{p0 p1 p2 p3:Pos}{Q:VP}(PK:PG C p)(V:PgEnv C (eN L) s pg m)(S:PgSt s.heap pg pd x ad ln ts sz ls pv)(Z:Small ts sz)(hr:A.depth+1<recursionLimit)(hu:A.in1.in1.units<cLine)(hh:A.handled=none)
  (h:∀s' tk,Mv C TB nox s s'→Q (.str (ttxt ts) tk) s'):wpAny (model C.prog C.w) A (eval (.Call (.Name "str" p2) [lineE p0 p1] [] p3) (eN L)) Q E s:=by
 refine Zb9 (id:="str") k113 Zkj rfl rfl V.old (Zlx PK) ZlP (by decide) (by decide) rfl ?_
 refine wpAny_items_cons (Zac PK V S (wpAny_items_nil ?_));exact Zay (s:={s with toks:=_}) PK V.old V.inv S.acc Z hr hu hh fun s' tk M=>h s' tk ((Mv.toks _).trans M)
theorem Yl{e:Expr}{Q:Bool→Shared→Prop}(he:∀w,isTrue e env w=(do let v←w;standAt e.pos;holding [v] (truthy v)))(h:wpAny (model C.prog C.w) A (eval e env) (fun v s'=>wpAny (model C.prog C.w) A (truthy v) Q E s') E s):
  wpAny (model C.prog C.w) A (isTrue e env (eval e env)) Q E s:=by
 rw[he];exact Wb (wpAny_mono h (fun v s' h'=>Wb (wpAny_standAt (wpAny_holding h'))) fun μ μ x=>x)
theorem Ze1(l:List (Str×Tok)):(strValues l).toArray.size=l.length:=by simp[strValues]
theorem JK(l:List (Str×Tok))(u:Str×Tok):strValues (l++[u])=strValues l++[.str u.1 u.2]:=by simp[strValues]
theorem Zmv{Q:Bool→Shared→Prop}(PK:PG C p)(V:PgEnv C (eN L) s pg m)(S:PgSt s.heap pg pd x ad ln ts sz ls pv)(Z:Small ts sz)(hr:A.depth+2<recursionLimit)(hu:A.units+40<cLine)(hh:A.handled=none)(hls:ls.length≤4096)
  (h:∀s',Mv C TB nox s s'→Q (nlWs ts sz&&!ls.isEmpty) s'):wpAny (model C.prog C.w) A (isTrue (sIfT nlI) (eN L) (eval (sIfT nlI) (eN L))) Q E s:=by
 refine wpAny_isTrue_BoolOp ?_;rw[arm_allTrue_cons];refine Wb (Yl (fun w=>rfl) ?_);refine Jf lm_ws PK V S rfl rfl rfl (wpAny_items_nil ⟨inG PK V.inv,?_⟩);refine Zk5 (s:={s with toks:=_}) PK V.old V.inv S.acc Z hr hh hu fun s1 M1=>?_;refine wpAny_truthy_bool ?_;have M1':Mv C TB nox s s1:=(Mv.toks _).trans M1;cases hb:nlWs ts sz with
 |false=>
  rw[hb]at h;exact Wp (h s1 M1')
 |true=>
  rw[hb]at h;have V1:=V.mv PK M1' id;have S1:=S.mv PK V.inv M1' id id id id id fun μ μ h=>h;refine S1.lines.elim fun n hn=>?_;refine Wb (m:=isTrue _ _ _) (Yl (fun w=>rfl) ?_);refine ZaI PK V1 S1 ?_;refine wpAny_truthy_list (s:={s1 with toks:=_}) (Zl hn) (by rw[Ze1];exact Int.lt_of_le_of_lt (Int.ofNat_le.mpr hls) (by decide)) ?_
  have e:(!(strValues ls).toArray.isEmpty)=!ls.isEmpty:=by cases ls<;>rfl
  rw[e];have hq:=fun t=>h {s1 with toks:=t} (M1'.trans (Mv.toks _));cases hc:(!ls.isEmpty)with
  |false=>rw[hc]at hq;exact Wp (hq _)
  |true=>rw[hc]at hq;exact Wp (hq _)
theorem PgSt.setLines{ls':List (Str×Tok)}{n:Nat}{s s':Shared}(S:PgSt s.heap pg pd x ad ln ts sz ls pv)(P:Plain (· =ln) s s')(h:s'.heap.get? ln=some (Zb (strValues ls') n)):PgSt s'.heap pg pd x ad ln ts sz ls' pv:=by
 have f:=S.far;refine S.el fun od tm tw tl tp I z=>S.acc.el fun n' oa tk J y=>S.lines.elim fun n e=>?_;exact⟨exI5 od tm tw tl tp ⟨⟨P.keep _ _ I.at_ f.a1.2.2.2,I.cls,I.no,P.keep pd od I.dict f.a2.2.2⟩,z⟩,⟨exI3 n' oa tk ⟨⟨P.keep _ _ J.at_ f.a3.2.1,J.cls,J.no,P.keep ad oa J.dict f.a3.2.2⟩,y⟩,fun t ht=>P.keep _ _ (S.acc.tups t ht) (dtNe' (S.acc.tups t ht) e fun e=>Value.noConfusion e fun e=>absurd e (by decide))⟩,_,h⟩
theorem Zow{Q:Flow→Shared→Prop}(PK:PG C p)(V:PgEnv C (eN L) s pg m)(S:PgSt s.heap pg pd x ad ln ts sz ls pv)(Z:Small ts sz)(hr:A.depth+1<recursionLimit)(hu:A.in1.in1.units<cLine)(hh:A.handled=none)(hls:ls.length≤4096)(hln:C.base.objs.size≤ln)
  (h:∀s' tk,PgSt s'.heap pg pd x ad ln ts sz (ls++[(ttxt ts,tk)]) pv→Mv C TB (· =ln) s s'→Q .next s'):wpAny (model C.prog C.w) A (exec nlA (eN L)) Q E s:=by
 refine wpAny_Expr_any ?_ rfl;refine YC rfl rfl rfl rfl (ZaI PK V S fun pl=>?_);refine S.lines.elim fun n hn=>?_;refine getMethod_builtin (v:= .ref ln) (T:="list") (s:={s with toks:=_}) ⟨_,hn,rfl⟩ PySem.F.plainAttrs_list PySem.F.slot_list_append PySem.F.type_list_append (fun a e=>⟨_,(Value.ref.inj e)▸hn,rfl⟩) ?_;refine Zf rfl ?_;refine wpAny_items_cons (ZlI (s:={s with toks:=_}) PK (V.toks _) S Z hr hu hh fun s1 tk M1=>wpAny_items_nil ⟨Zg,?_⟩);have M1':Mv C TB nox s s1:=(Mv.toks _).trans M1;have S1:=S.mv PK V.inv M1' id id id id id fun μ μ h=>h;refine S1.lines.elim fun n1 hn1=>?_;refine wpAny_list_append_plain (items:=(strValues ls).toArray) ⟨n1,hn1⟩ (fun h' hp hs=>hp.elim fun n2 hp=>?_) (by rw[Ze1];exact Nat.le_trans hls (by decide))
 have P2:Plain (· =ln) s1 {s1 with heap:=h'}:=Plain.but hs _;rw[List.push_toArray,←JK ls (ttxt ts,tk)]at hp;exact h {s1 with heap:=h'} tk (S1.setLines P2 hp) ((M1'.weaken fun μ h=>h.elim).trans (Mv.plain P2 fun a h=>h▸hln))
theorem Zmx{l:List (Str×Tok)}{u:Str}{tu:Tok}{Q:Flow→Shared→Prop}(PK:PG C p)(V:PgEnv C (eN L) s pg m)(S:PgSt s.heap pg pd x ad ln ts sz (l++[(u,tu)]) pv)(Z:Small ts sz)(hr:A.depth+1<recursionLimit)(hu:A.in1.in1.units<cLine)(hh:A.handled=none)(hlen:u.length+(ttxt ts).length≤8192)(hln:C.base.objs.size≤ln)
  (h:∀s' tk,PgSt s'.heap pg pd x ad ln ts sz (l++[(u++ttxt ts,tk)]) pv→Mv C TB (· =ln) s s'→Q .next s'):wpAny (model C.prog C.w) A (exec nlG (eN L)) Q E s:=by
 refine wpAny_AugAssign_Subscript_any ?_ (fun μ μ μ=>rfl);refine ZaI PK V S ?_;refine wpAny_UnaryOp (wpAny_Constant_int (neg_int ?_));refine S.lines.elim fun n hn=>?_;rw[JK]at hn;have sz':((strValues l++[Value.str u tu]).toArray.size:Nat)=(strValues l).length+1:=by rw[List.size_toArray,List.length_append];rfl
 refine wpAny_getItem_list_neg (s:={s with toks:=_}) (Zl hn) (by decide) (by rw[sz'];lia) (by decide) (x:= .str u tu) ?_ ?_
 ·have e:(-1+(((strValues l++[Value.str u tu]).toArray.size:Nat):Int)).toNat=(strValues l).length:=by rw[sz'];lia
  rw[e];simp
 refine ZlI (s:={s with toks:=_}) PK (V.toks _) S Z hr hu hh fun s1 tk M1=>?_;have M1':Mv C TB nox s s1:=(Mv.toks _).trans M1;have S1:=S.mv PK V.inv M1' id id id id id fun μ μ h=>h;refine S1.lines.elim fun n1 hn1=>?_;rw[JK]at hn1;refine PySem.SB.iadd (fun t' k'=>?_) (Nat.le_trans hlen (by decide))
 refine Zc8 (s:={s1 with toks:=_}) hn1 fun h' n2 e2 sb2=>?_;have P2:Plain (· =ln) s1 {s1 with heap:=h',toks:=k'}:=Plain.but (s:=s1) sb2 _;exact h _ t' (S1.setLines P2 (by rw[JK];exact e2)) ((M1'.weaken fun μ h=>h.elim).trans (Mv.plain P2 fun a h=>h▸hln))
end
noncomputable def glueS:List Str→Str→List Str
 | [],_=>[]
 | [u],t=>[u++t]
 |u::r,t=>u::glueS r t
theorem ZbY(t u:Str):∀l:List Str,glueS (l++[u]) t=l++[u++t]
 | []=>rfl
 | [a]=>rfl
 |a::b::r=>by
  show a::glueS (b::r++[u]) t=a::(b::r++[u++t]);rw[ZbY t u (b::r)]
noncomputable def nlOut(ts:List TT)(sz:Int)(ls:List Str):List Str:=if 0<sz+(twid ts:Int)then(if nlWs ts sz&&!ls.isEmpty then glueS ls (ttxt ts)else ls++[ttxt ts])else ls
theorem Zjq(ts:List TT):(ttxt ts).length≤twid ts:=by
 refine Nat.le_trans (ZdG _) ?_;rw[List.map_map];exact Zci ts
theorem NlRel.wid{ts ts':List TT}(h:NlRel ts ts'):twid ts'≤twid ts∧ts'.length≤ts.length+1:=by
 rcases h with⟨rfl,t,a,b,rfl⟩|⟨r,t,rfl,⟨-,rfl⟩|⟨-,t',e,rfl⟩⟩
 ·exact⟨by exact Nat.le_refl 0,by simp⟩
 ·rw[JJ];exact⟨by lia,by simp;lia⟩
 ·rw[JJ,JJ];have:Mine.wid t'=Mine.wid t:=by unfold Mine.wid;rw[e]
  exact⟨by lia,by simp⟩
section
variable{C:Ctx}{p:Params}{A:Around}{s:Shared}{E:VP}{m:Str→Option Value}{L pg pd x ad ln:Addr}{ts:List TT}{sz:Int}{ls:List (Str×Tok)}{pv:PV}
theorem ZhU{ls:List (Str×Tok)}{u:Str×Tok}(hp:0<sz+(twid ts:Int))(hb:(nlWs ts sz&&!ls.isEmpty)=false)(hu:u.1=ttxt ts):(ls++[u]).map (·.1)=nlOut ts sz (ls.map (·.1)):=by
 unfold nlOut;rw[if_pos hp,show(!(ls.map (·.1)).isEmpty)=!ls.isEmpty by cases ls<;>rfl,hb,if_neg (by decide),List.map_append,←hu];rfl
theorem Zgc{l:List (Str×Tok)}{u:Str×Tok}{tk:Tok}(hp:0<sz+(twid ts:Int))(hb:(nlWs ts sz&&!(l++[u]).isEmpty)=true):(l++[(u.1++ttxt ts,tk)]).map (·.1)=nlOut ts sz ((l++[u]).map (·.1)):=by
 unfold nlOut;rw[if_pos hp,show(!((l++[u]).map (·.1)).isEmpty)=!(l++[u]).isEmpty by cases l<;>rfl,hb,if_pos rfl,List.map_append,List.map_append]
 show _=glueS (l.map (·.1)++[u.1]) (ttxt ts);rw[ZbY];rfl
structure Lns(ls:List (Str×Tok)):Prop where
 n:ls.length≤4096
 w:∀u∈ls,u.1.length≤4096
theorem nl_in{c:Code}{Q:Flow→Shared→Prop}(PK:PG C p)(V:PgEnv C (eN L) s pg m)(S:PgSt s.heap pg pd x ad ln ts sz ls pv)(Z:Small ts sz)(Y:Lns ls)
  (hr:A.depth+2<recursionLimit)(hu:A.units+40<cLine)(hh:A.handled=none)(hln:C.base.objs.size≤ln)(lnL:¬L=ln)(hp:0<sz+(twid ts:Int))
  (hQ:∀s' ls',ls'.map (·.1)=nlOut ts sz (ls.map (·.1))→PgEnv C (eN L) s' pg m→PgSt s'.heap pg pd x ad ln ts sz ls' pv→Mv C TB (· =ln) s s'→Q .next s'):
  _root_.PySem.wpAt (model C.prog C.w) A c (execs (sIfB (stA nlB 2)) (eN L)) Q E s:=by
 have hu2:A.in1.in1.units<cLine:=Nat.lt_of_le_of_lt (Nat.add_le_add_left (by decide:2≤40) _) hu
 refine ks_wpAt_execs_cons (ks_wpAt_If (_root_.PySem.wpAt_of_wpAny ?_));refine Zmv PK V S Z hr hu hh Y.n fun s2 M2=>?_;have V2:=V.mv PK M2 id;have S2:=S.mv PK V.inv M2 id id id id id fun μ μ h=>h;have M2':Mv C TB (· =ln) s s2:=M2.weaken fun μ h=>h.elim;cases hb:(nlWs ts sz&&!ls.isEmpty)with
 |true=>
  have hne:ls≠[]:=fun e=>by rw[e]at hb;exact ftB (Bool.and_eq_true_iff.mp hb).2
  have e:=(List.dropLast_concat_getLast hne).symm;have hw:=Y.w _ (List.getLast_mem hne);generalize ls.dropLast=l at e;generalize ls.getLast hne=u at e hw;subst e;refine ks_wpAt_execs_cons (_root_.PySem.wpAt_of_wpAny ?_);refine Zmx (l:=l) (u:=u.1) (tu:=u.2) PK V2 S2 Z (Nat.le_of_succ_le hr) hu2 hh (Nat.add_le_add hw (Nat.le_trans (Zjq ts) Z.w)) hln fun s3 tk3 S3 M3=>?_;exact _root_.PySem.wpAt_of_wpAny (wpAny_execs_nil (_root_.PySem.wpAt_of_wpAny (wpAny_execs_nil (hQ s3 _ (Zgc hp hb) (V2.mv PK M3 lnL) S3 (M2'.trans M3)))))
 |false=>
  refine ks_wpAt_execs_cons (_root_.PySem.wpAt_of_wpAny ?_);refine Zow PK V2 S2 Z (Nat.le_of_succ_le hr) hu2 hh Y.n hln fun s3 tk3 S3 M3=>?_;exact _root_.PySem.wpAt_of_wpAny (wpAny_execs_nil (_root_.PySem.wpAt_of_wpAny (wpAny_execs_nil (hQ s3 _ (ZhU hp hb rfl) (V2.mv PK M3 lnL) S3 (M2'.trans M3)))))
theorem Zou{c:Code}{Q:Flow→Shared→Prop}(PK:PG C p)(V:PgEnv C (eN L) s pg m)(S:PgSt s.heap pg pd x ad ln ts sz ls pv)(Z:Small ts sz)(Y:Lns ls)
  (hr:A.depth+2<recursionLimit)(hu:A.units+40<cLine)(hh:A.handled=none)(hln:C.base.objs.size≤ln)(lnL:¬L=ln)
  (hQ:∀s' ls',ls'.map (·.1)=nlOut ts sz (ls.map (·.1))→PgEnv C (eN L) s' pg m→PgSt s'.heap pg pd x ad ln ts sz ls' pv→Mv C TB (· =ln) s s'→_root_.PySem.wpAt (model C.prog C.w) A c (execs (nlB.drop 3) (eN L)) Q E s'):
  _root_.PySem.wpAt (model C.prog C.w) A c (execs (nlB.drop 2) (eN L)) Q E s:=by
 refine ks_wpAt_execs_cons (ks_wpAt_If (_root_.PySem.wpAt_of_wpAny (PySem.wpAny_isTrue_Compare1 ?_)));refine Yb (id:="len") k113 Zkk rfl rfl V.old (Zds PK) ZfL (by decide) (by decide) rfl ?_
 refine wpAny_items_cons (Zac PK V S (wpAny_items_nil ?_));refine Jn (s:={s with toks:=_}) PK V.old V.inv S.acc Z (Nat.lt_of_succ_lt hr) hh fun s1 tk1 M1=>?_;have M1:Mv C TB nox s s1:=(Mv.toks _).trans M1;refine wpAny_Constant_int (PyProof.Rows.gt_int ?_);refine wpAny_truthy_bool ?_;have V1:=fun t=>(V.mv PK M1 id).toks t;have S1:=S.mv PK V.inv M1 id id id id id fun μ μ h=>h;have M1t:∀t,Mv C TB (· =ln) s {s1 with toks:=t}:=fun t=>(M1.trans (Mv.toks _)).weaken fun μ h=>h.elim;by_cases hp:0<sz+(twid ts:Int)
 ·rw[decide_eq_true hp,if_pos rfl];exact nl_in (s:={s1 with toks:=_}) PK (V1 _) S1 Z Y hr hu hh hln lnL hp fun s2 ls' e V2 S2 M2=>hQ s2 ls' e V2 S2 ((M1t _).trans M2)
 ·rw[decide_eq_false hp,if_neg (by decide)]
  refine _root_.PySem.wpAt_of_wpAny (wpAny_execs_nil (hQ _ ls ?_ (V1 _) S1 (M1t _)));unfold nlOut;rw[if_neg hp]
theorem ZhJ{R':Result→Shared→Prop}(PK:PG C p)(O:OldK C.base s.heap)(hi:C.inv s.heap)(S:PgSt s.heap pg pd x ad ln ts sz ls pv)(Z:Small ts sz)(hz:ts.length≤4095)(Y:Lns ls)(hx:C.base.objs.size≤x)(hd:C.base.objs.size≤ad)(hln:C.base.objs.size≤ln)
  (hr:A.depth+4<recursionLimit)(hu:A.units+80<cLine)(hh:A.handled=none)
  (hQ:∀s' ts' ls',NlRel ts ts'→ls'.map (·.1)=nlOut ts' sz (ls.map (·.1))→PgSt s'.heap pg pd x ad ln [] 0 ls' pv→Mv C TB (fun a=>a=x∨a=ad∨a=ln) s s'→R' (.ok (.ret .none)) s'):codeAny (model C.prog C.w) A (.call (.ref 113) ⟨[.ref pg],[]⟩) R' s:=by
 refine enL fc113 (bc113 _) PK O hi (by lia) fun s₀ L hLs hL P0 hn O0 i0=>?_
 have S0:=S.keep fun a o e=>P0.keep a o e id;have V0:PgEnv C (eN L) s₀ pg _:=⟨k113,ZdB,hn,ZgU _,O0,i0⟩;have F:=S.loc hL;have hLb:C.base.objs.size≤L:=Nat.le_trans (Yd O) hLs;have r3:A.depth+3<recursionLimit:=Nat.lt_of_succ_lt hr;have u2:A.units+43<cLine:=Nat.lt_of_le_of_lt (Nat.add_le_add_left (by decide) _) hu
 refine Zov PK V0 S0 F (Nat.le_trans hz (by decide)) hx hLb (fun t ht=>nsNe (S.acc.tups t ht) hL) (Nat.lt_of_succ_lt r3) u2 fun s1 ts' v hrel V1 S1 P1=>?_
 have hw:=hrel.wid;have Z1:Small ts' sz:=⟨Nat.le_trans hw.1 Z.w,Nat.le_trans hw.2 (Nat.succ_le_succ hz),Z.lo,Z.hi⟩;have M1:Mv C TB (fun b=>b=x∨b=L) s₀ s1:=Mv.plain P1 fun a h=>h.elim (fun h=>h▸hx) fun h=>h▸hLb;refine Zou PK V1 S1 Z1 Y r3 u2 hh hln F.ln.symm fun s2 ls' hls' V2 S2 M2=>?_;refine ks_wpAt_execs_cons (ks_wpAt_Expr_any (_root_.PySem.wpAt_of_wpAny ?_) rfl);refine Jf Zka PK V2 S2 rfl rfl rfl (wpAny_items_nil ⟨inG PK V2.inv,?_⟩);refine ZeS (s:={s2 with toks:=_}) PK V2.old V2.inv S2.acc hx Z1.n (Nat.lt_of_succ_lt (Nat.lt_of_succ_lt r3)) fun s3 N3 P3=>?_;refine _root_.PySem.wpAt_of_wpAny (wpAny_execs_nil ?_);have P3':Plain (fun a=>a=x∨a=ad) s2 s3:=(Plain.toks _ _ _).trans P3;have M3:Mv C TB (fun a=>a=x∨a=ad) s2 s3:=Mv.plain P3' fun a h=>h.elim (fun h=>h▸hx) fun h=>h▸hd;refine hQ s3 ts' ls' hrel hls' (S2.line P3' N3) ?_;have Mall:Mv C TB (fun a=>(a=x∨a=ad∨a=ln)∨a=L) s₀ s3:=(M1.weaken fun a h=>h.imp_left .inl).trans ((M2.weaken fun a h=> .inl (.inr (.inr h))).trans (M3.weaken fun a h=> .inl (h.imp_right .inl)));exact((Mv.plain0 P0).trans Mall).forget fun a h=>Or.imp (d:=s.heap.get? a=none) (fun h=>h) (fun(e:a=L)=>e▸hL) h
end
section
variable{C:Ctx}{p:Params}{A:Around}{s:Shared}{E:VP}{env:Env}{m:Str→Option Value}{pg pd x ad ln:Addr}{ts:List TT}{sz:Int}{ls:List (Str×Tok)}{pv:PV}
theorem Zdi{nm:Str}{f:Addr}{pl:Sem Bool}{Q:Value×List Value→Shared→Prop}(X:(KK p).In s.heap)(S:PgSt s.heap pg pd x ad ln ts sz ls pv)(hf:findIn (KK p) (.ref cP) nm=some (some (.ref f)))(ht:typeIn (KK p) (.ref f)=some (.type "function"))
  (hne:∀tm tw tl tp,(pgL pv tm tw tl tp ln x).lookup nm=none)(h:Q (.ref f,[.ref pg]) s):wpAny (model C.prog C.w) A (getMethod (.ref pg) nm pl) Q E s:=
 S.el fun μ μ μ μ μ I z=>method_fn X I p_ga p_gt hf ht (ZhP z (hne _ _ _ _)) h
theorem Zmd(ls:List (Str×Tok)):StrsAre (strValues ls).toArray.toList (ls.map (·.1)):=Zee ls
theorem ZjS{u:Str}{tu:Tok}{Q:VP}(PK:PG C p)(O:OldK C.base s.heap)(hi:C.inv s.heap)(S:PgSt s.heap pg pd x ad ln ts sz ls pv)(Z:Small ts sz)(hz:ts.length≤4095)(Y:Lns ls)(hx:C.base.objs.size≤x)(hd:C.base.objs.size≤ad)(hln:C.base.objs.size≤ln)
  (hr:A.depth+5<recursionLimit)(hu:A.units+90<cLine)(hh:A.handled=none)
  (hfit:∀ts',NlRel ts ts'→((nlOut ts' sz (ls.map (·.1))).map (·.length)).sum+(nlOut ts' sz (ls.map (·.1))).length*u.length≤16777216)
  (hQ:∀s' ts' ls' tk,NlRel ts ts'→ls'.map (·.1)=nlOut ts' sz (ls.map (·.1))→PgSt s'.heap pg pd x ad ln [] 0 ls' pv→Mv C TB (fun a=>a=x∨a=ad∨a=ln) s s'→Q (.str (Txt.join u (ls'.map (·.1))) tk) s'):wpAny (model C.prog C.w) A (call (.ref 99) [.ref pg, .str u tu]) Q E s:=by
 refine enF fc99 (bc99 _ _) PK O hi (by lia) fun s₀ L hL P0 hn O0 i0=>?_
 have S0:=S.keep fun a o e=>P0.keep a o e id;have F:=S.loc hL;refine ks_wpAt_execs_cons (ks_wpAt_Expr_any (_root_.PySem.wpAt_of_wpAny ?_) rfl);refine YC rfl rfl rfl rfl (wpAny_Name (wpAny_loadName_local k99 Zfl hn (ZeZ _ _) fun pl=>?_));refine Zdi (f:=113) (inG PK i0) S0 (by kernel_rfl) (by kernel_rfl) (fun μ μ μ μ=>rfl) ?_
 refine Zf rfl (PySem.Calls.spliced_nil ⟨ZdD fc113.look (inG PK i0),?_⟩);refine wpAny_call (ZhJ PK O0 i0 S0 Z hz Y hx hd hln hr (Nat.lt_of_le_of_lt (Nat.add_le_add_left (by decide:83≤90) _) hu) hh fun s1 ts' ls' hrel hls' S1 M1=>?_)
 have V0:PgEnv C (fE (KH.M 13 1) "_ValueFormatter._str" 99 (KH.r 98) [] L) s₀ pg _:=⟨k99,Zfl,hn,ZeZ _ _,O0,i0⟩;have V1:=V0.mv PK M1 fun h=>h.elim (fun h=>F.x h.symm) fun h=>h.elim (fun h=>F.ad h.symm) fun h=>F.ln h.symm;refine ks_wpAt_execs_cons (ks_wpAt_Return_some (_root_.PySem.wpAt_of_wpAny ?_));refine YC rfl rfl rfl rfl (wpAny_Name (wpAny_loadName_local k99 Zez V1.ns (Zd9 _ _) fun pl=>?_))
 with_reducible refine GM.join ?_
 refine Zf rfl ?_;refine wpAny_items_cons (ZaI PK V1 S1 (wpAny_items_nil ⟨Zg,?_⟩));refine S1.lines.elim fun n hln1=>?_;refine join_list (s:={s1 with toks:=_}) (Zl hln1) (Zmd ls') (by rw[hls'];exact hfit ts' hrel) fun t' k'=>?_
 exact hQ {s1 with toks:=k'} ts' ls' t' hrel hls' S1 (((Mv.plain0 P0).trans M1).trans (Mv.toks _))
end
noncomputable def Zcx:List Str:=["_maxlen","_continuation_ws","_continuation_ws_len","_splitchars","_lines","_current_line"]
theorem Zon{p:Params}:∀nm∈Zcx,takerIn (KK p) cP nm=some none:=fun n hn=>eq_of_beq (List.all_eq_true.mp (by kernel_rfl:(Zcx.all fun n=>takerIn (KK p) cP n==some none)=true) n hn)
theorem ER.len{es:List DictEntry}{l:List (Str×Value)}(r:ER es l):es.length=l.length:=by
 induction r with
 |nil=>rfl
 |cons _ _ _ _ _ _ _ ih=>exact congrArg Nat.succ ih
section
variable{C:Ctx}{p:Params}{A:Around}{s:Shared}{E:VP}{env:Env}{pg pd:Addr}{od:Obj}{l:List (Str×Value)}
theorem Zn9{nm:Str}{v:Value}{Q:Unit→Shared→Prop}(X:(KK p).In s.heap)(I:InstAt s.heap pg (instObj cP pd) cP (some od))(z:OD od l)(hm:nm∈Zcx)(hl:l.lookup nm=none)(hlen:l.length≤100)
  (h:∀h' od',OD od' (l++[(nm,v)])→InstAt h' pg (instObj cP pd) cP (some od')→Heap.SameBut pd s.heap h'→Q () {s with heap:=h',toks:=s.toks+2}):wpAny (model C.prog C.w) A (setAttr (.ref pg) nm v) Q E s:=by
 have hne:pg≠pd:=dtNe I.at_ (show s.heap.get? pd=some od from I.dict) (odNe z fun μ μ e=>Data.noConfusion e);refine Ze5 X I rfl p_sa p_cls (by kernel_rfl) (refuse_only _ (by kernel_rfl)) p_obj (Zon nm hm) (by rw[YB z,hl];rfl) (fun tk=>?_) fun h' tk e sb=>?_
 ·obtain⟨c,d,n,sl,es,e,r⟩:=Zls (v:=v) (hh:=PyData.keyHash C.w.params nm) (tk:=tk) z hl;rw[e];refine⟨es,n,rfl,?_⟩;have:=r.len;rw[List.length_append,Array.length_toList]at this;rw[this];exact Nat.le_trans (Nat.add_le_add_right hlen 1) (by decide)
 ·exact h h' _ (Zls z hl) ⟨(sb.2 pg hne).trans I.at_,rfl,I.no,e⟩ sb
theorem ZbT{M:Model}{a:Addr}{o:Obj}{cd:ClassData}(X:(KK p).In s.heap)(ho:s.heap.get? a=some o)(hd:o.data= .cls cd)(hc:specialIn (KK p) (.ref a) "__call__"=some (some (.builtin "type.__call__"))):
  ∀Q':Keeper→Shared→Prop,(∀k,Q' k s)→wpAny M A (keeperOf (.ref a)) Q' E s:=fun Q' h=>by
 skip
 refine Wb (wpAny_load ho ?_);refine(hd).symm▸?_;exact Wb ((looks_specialIn X hc).here (Wp (h _)))
structure PgI(C:Ctx)(s:Shared)(pg pd L:Addr)(m:Str→Option Value)(l:List (Str×Value)):Prop where
 inv:C.inv s.heap
 ns:s.heap.Ns L m
 d:∃od,InstAt s.heap pg (instObj cP pd) cP (some od)∧OD od l
theorem PgI.keep{s s':Shared}{L:Addr}{m:Str→Option Value}(z:PgI C s pg pd L m l)(k:∀a o,s.heap.get? a=some o→s'.heap.get? a=some o):PgI C s' pg pd L m l:=
 ⟨C.inv_step _ _ z.inv fun a o e μ=>k a o e,z.ns.keeps k,z.d.imp fun od h=>⟨Zp h.1 k,h.2⟩⟩
theorem Jo{c:Code}{p0 p1 pos:Pos}{nm:Str}{e:Expr}{m:Str→Option Value}{rest:List Stmt}{Q:Flow→Shared→Prop}(PK:PG C p)(hk:env.scope.kind= .function)(l1:env.kindOf "self"=some .local)(hm:m "self"=some (.ref pg))(hn:nm∈Zcx)
  (hs:swapsWith e (some (.Attribute (.Name "self" p0) nm p1)) pos.line env=pure false)(hpd:C.base.objs.size≤pd)(hL:env.locals≠pd)(hl:l.lookup nm=none)(hlen:l.length≤100)
  (h:wpAny (model C.prog C.w) A (eval e env) (fun v s1=>PgI C s1 pg pd env.locals m l∧
   ∀s2,Plain (· =pd) s1 s2→PgI C s2 pg pd env.locals m (l++[(nm,v)])→_root_.PySem.wpAt (model C.prog C.w) A c (execs rest env) Q E s2) E s):
  _root_.PySem.wpAt (model C.prog C.w) A c (execs (.Assign [.Attribute (.Name "self" p0) nm p1] e pos::rest) env) Q E s:=by
 refine ks_wpAt_execs_cons (ks_wpAt_Assign_Attr (_root_.PySem.wpAt_of_wpAny (wpAny_mono h (fun v s1 h1=>?_) fun μ μ e=>e)) hs);refine h1.1.d.elim fun od z=>?_;refine wpAny_Name (wpAny_loadName_local hk l1 h1.1.ns hm ?_);refine Zn9 (inG PK h1.1.inv) z.1 z.2 hn hl hlen fun h2 od2 z2 I2 sb=>?_;have P:Plain (· =pd) s1 {s1 with heap:=h2,toks:=s1.toks+2}:=Plain.but sb _;exact h1.2 _ P ⟨C.inv_step _ _ h1.1.inv fun a o e hb=>P.keep a o e fun q=>absurd (q▸hpd) (Nat.not_le.mpr hb),h1.1.ns.sameBut sb hL,od2,I2,z2⟩
end
noncomputable def lM1(tm:Tok):List (Str×Value):=[("_maxlen", .int 40 tm)]
noncomputable def lM2(tm:Tok)(ws:Str)(tw:Tok):List (Str×Value):=[("_maxlen", .int 40 tm),("_continuation_ws", .str ws tw)]
noncomputable def lM3(tm:Tok)(ws:Str)(tw tl:Tok):List (Str×Value):=[("_maxlen", .int 40 tm),("_continuation_ws", .str ws tw),("_continuation_ws_len", .int ws.length tl)]
noncomputable def lM4(tm:Tok)(ws:Str)(tw tl:Tok)(sp:Str)(tp:Tok):List (Str×Value):=[("_maxlen", .int 40 tm),("_continuation_ws", .str ws tw),("_continuation_ws_len", .int ws.length tl),("_splitchars", .str sp tp)]
noncomputable def lM5(tm:Tok)(ws:Str)(tw tl:Tok)(sp:Str)(tp:Tok)(ln:Addr):List (Str×Value):=[("_maxlen", .int 40 tm),("_continuation_ws", .str ws tw),("_continuation_ws_len", .int ws.length tl),("_splitchars", .str sp tp),("_lines", .ref ln)]
section
variable{C:Ctx}{p:Params}{A:Around}{s:Shared}{E:VP}{pg pd:Addr}
theorem Plain.back{S:Addr→Prop}{s s':Shared}{a:Addr}(P:Plain S s s')(h:¬S a)(e:s'.heap.get? a=none):s.heap.get? a=none:=by
 cases z:s.heap.get? a with
 |none=>rfl
 |some o=>exact nnO (e.symm.trans (P.keep _ _ z h))
theorem PgI.ne{s:Shared}{L a:Addr}{m:Str→Option Value}{l:List (Str×Value)}(z:PgI C s pg pd L m l)(e:s.heap.get? a=none):a≠pd:=z.d.elim fun od h=>(nsNe (show s.heap.get? pd=some od from h.1.dict) e).symm
theorem Zep{hd:Int}{th tm tw tp:Tok}{ws sp:Str}{R':Result→Shared→Prop}(PK:PG C p)
  (O:OldK C.base s.heap)(hi:C.inv s.heap)(I:InstAt s.heap pg (instObj cP pd) cP (some emptyDict))(hpd:C.base.objs.size≤pd)(hr:A.depth+3<recursionLimit)(hws:ws.length≤4096)
  (hQ:∀s' x ad ln,(∀a∈[x,ad,ln],s.heap.get? a=none∧C.base.objs.size≤a)→PgSt s'.heap pg pd x ad ln [] hd [] ⟨ws,ws.length,sp⟩→Plain (· =pd) s s'→R' (.ok (.ret .none)) s'):
  codeAny (model C.prog C.w) A (.call (.ref 92) ⟨[.ref pg, .int hd th, .int 40 tm, .str ws tw, .str sp tp],[]⟩) R' s:=by
 refine enL fc92 (bc92 _ _ _ _ _) PK O hi (Nat.lt_of_le_of_lt (Nat.le_add_right _ 3) hr) fun s₀ L hLs hL P0 hn O0 i0=>?_;have v2:=Zjk (.ref pg) (.int hd th) (.int 40 tm) (.str ws tw) (.str sp tp);have v3:=ZfV (.ref pg) (.int hd th) (.int 40 tm) (.str ws tw) (.str sp tp);have v4:=Zl5 (.ref pg) (.int hd th) (.int 40 tm) (.str ws tw) (.str sp tp);have v5:=Zl4 (.ref pg) (.int hd th) (.int 40 tm) (.str ws tw) (.str sp tp);have v1:=Zjj (.ref pg) (.int hd th) (.int 40 tm) (.str ws tw) (.str sp tp);generalize mB (b92 (.ref pg) (.int hd th) (.int 40 tm) (.str ws tw) (.str sp tp))=m at hn v1 v2 v3 v4 v5;have hLd:L≠pd:=(nsNe (show s.heap.get? pd=some emptyDict from I.dict) hL).symm;have z0:PgI C s₀ pg pd L m []:=⟨i0,hn,_,Zp I fun a o e=>P0.keep a o e id,ZjX⟩;refine Jo (env:=fE _ _ _ _ _ L) (l:=[]) PK k92 Js v1 (by decide) rfl hpd hLd rfl (Nat.le_of_ble_eq_true rfl) ?_
 refine wpAny_Name (wpAny_loadName_local k92 Zgj hn v3 ⟨z0,fun s1 P1 (z1:PgI C s1 pg pd L m (lM1 tm))=>?_⟩);refine Jo (env:=fE _ _ _ _ _ L) (l:=lM1 tm) PK k92 Js v1 (by decide) rfl hpd hLd rfl (Nat.le_of_ble_eq_true rfl) ?_
 refine wpAny_Name (wpAny_loadName_local k92 Zib z1.ns v4 ⟨z1,fun s2 P2 (z2:PgI C s2 pg pd L m (lM2 tm ws tw))=>?_⟩);have P2:=P1.trans P2;refine Jo (env:=fE _ _ _ _ _ L) (l:=lM2 tm ws tw) PK k92 Js v1 (by decide) rfl hpd hLd rfl (Nat.le_of_ble_eq_true rfl) ?_
 refine Yb (id:="len") k92 ZmN rfl rfl (Zu O0 P2 fun a h=>h▸hpd) (Zds PK) ZfL (by decide) (by decide) rfl ?_
 refine wpAny_items_cons (wpAny_Name (wpAny_loadName_local k92 Zib z2.ns v4 (wpAny_items_nil ?_)));refine PyProof.Rows.len_str (by lia) ⟨⟨z2.inv,z2.ns,z2.d⟩,fun s3 P3 (z3:PgI C s3 pg pd L m (lM3 tm ws tw (s2.toks+1)))=>?_⟩
 have P3:=P2.trans ((Plain.toks _ _ _).trans P3);generalize s2.toks+1=tl at z3;refine Jo (env:=fE _ _ _ _ _ L) (l:=lM3 tm ws tw tl) PK k92 Js v1 (by decide) rfl hpd hLd rfl (Nat.le_of_ble_eq_true rfl) ?_
 refine wpAny_Name (wpAny_loadName_local k92 ZmM z3.ns v5 ⟨z3,fun s4 P4 (z4:PgI C s4 pg pd L m (lM4 tm ws tw tl sp tp))=>?_⟩);have P4:=P3.trans P4;have O4:=Zu O0 P4 fun a h=>h▸hpd;refine Jo (env:=fE _ _ _ _ _ L) (l:=lM4 tm ws tw tl sp tp) PK k92 Js v1 (by decide) rfl hpd hLd rfl (Nat.le_of_ble_eq_true rfl) ?_
 refine wpAny_List_spliced (wpAny_items_nil ⟨(by decide:0≤sizeLine),?_⟩)
 have kp5:∀a o,s4.heap.get? a=some o→(s4.heap.push (Zb [] 0)).get? a=some o:=fun a o e=>Heap.get?_push_of_some _ e;refine⟨z4.keep (s':={s4 with heap:=_}) kp5,fun s5 P5 (z5:PgI C s5 pg pd L m (lM5 tm ws tw tl sp tp s4.heap.objs.size))=>?_⟩;have hl4:=z4.ne (Zw _);have hl5:s5.heap.get? s4.heap.objs.size=some (Zb [] 0):=P5.keep _ _ (Heap.get?_push_size _ rfl) hl4;have fr4:s.heap.get? s4.heap.objs.size=none∧C.base.objs.size≤s4.heap.objs.size:=⟨noAt (fun a o e=>P0.keep a o e id) (P4.back hl4 (Zw _)),Yd O4⟩;generalize s4.heap.objs.size=ln at z5 hl4 hl5 fr4;have P5:=P4.trans (((Plain.push' _ _ _).weak (S:=nox) fun μ h=>h.elim).trans P5);have O5:=Zu O0 P5 fun a h=>h▸hpd;refine Jo (env:=fE _ _ _ _ _ L) (l:=lM5 tm ws tw tl sp tp ln) PK k92 Js v1 (by decide) rfl hpd hLd rfl (Nat.le_of_ble_eq_true rfl) ?_
 refine Call_Name rfl (nameG k92 ZmO rfl O5 (PK.cf.mg "_Accumulator" (some (.ref cA)) (by kernel_rfl)) (by decide+kernel) ?_)
 refine Zf (ZC rfl) (wpAny_items_cons (wpAny_Name (wpAny_loadName_local k92 Zkb z5.ns v2 (wpAny_items_nil ⟨ZbT (inG PK z5.inv) (inG PK z5.inv _ _ ZcD) rfl (by kernel_rfl),?_⟩))))
 refine Zj6 PK O5 z5.inv hr fun x ad s6 hx had hxad N6 P6=>?_;have k6:∀a o,s5.heap.get? a=some o→s6.heap.get? a=some o:=fun a o e=>P6.keep _ _ e id;refine⟨z5.keep k6,fun s7 P7 z7=>?_⟩;refine _root_.PySem.wpAt_of_wpAny (wpAny_execs_nil ?_);have hx5:s5.heap.get? x=none:=ZH hx;have ha5:s5.heap.get? ad=none:=ZH had;have fr:∀a,s5.heap.get? a=none→s.heap.get? a=none:=fun a e=>noAt (fun a o e=>P0.keep a o e id) (P5.back (z5.ne e) e);refine hQ s7 x ad ln (fun a ha=>?_) ⟨z7.d.elim fun od h=>exI5 od tm tw tl tp ⟨h.1,h.2⟩,⟨N6.el fun n oa tk J z=>exI3 n oa tk ⟨⟨P7.keep _ _ J.at_ (z5.ne hx5),J.cls,J.no,P7.keep ad oa J.dict (z5.ne ha5)⟩,z⟩,fun t ht=>nomatch ht⟩,0,P7.keep _ _ (k6 _ _ hl5) hl4⟩ ((P0.weak fun μ h=>h.elim).trans (P5.trans ((P6.weak fun μ h=>h.elim).trans P7)));rcases List.mem_cons.mp ha with e|ha
 ·exact e▸⟨fr _ hx5,Nat.le_trans (Yd O5) hx⟩
 rcases List.mem_cons.mp ha with e|ha
 ·exact e▸⟨fr _ ha5,Nat.le_trans (Yd O5) had⟩
 ·exact List.mem_singleton.mp ha▸fr4
end
noncomputable def A0:Around:={handled:=none,depth:=980,frames:=none,guards:=none,units:=9200}
theorem ZbE{M:Model}{α:Type}{t:Sem α}{A A':Around}{Q:α→Shared→Prop}{E:VP}{s:Shared}(h:wpAny M A' t Q E s)(hh:A.handled=A'.handled)(hd:A.depth≤A'.depth)(hu:A.units≤A'.units)(hf:A'.frames=none)(hg:A'.guards=none):wpAny M A t Q E s:=
 fun Γ p hΓ=>h Γ p ⟨hΓ.1.trans hh,Nat.le_trans hΓ.2.1 hd,fun l e=>by rw[hf]at e;(exact nomatch e),fun l e=>by rw[hg]at e;(exact nomatch e),Nat.le_trans hΓ.2.2.2.2 hu⟩
noncomputable abbrev Zox(p0 p1 p2 q0 q1 q2 q3:Pos):Expr:= .BinOp (.Attribute (.Name "self" p0) "_maxlen" p1) .Sub (.Call (.Name "len" q2) [lineE q0 q1] [] q3) p2
noncomputable abbrev Zlv(p0 p1 p2 q0 q1:Pos):Expr:= .BinOp (.Attribute (.Name "self" p0) "_maxlen" p1) .Sub (.Attribute (.Name "self" q0) "_continuation_ws_len" q1) p2
noncomputable abbrev Zlw(p0 p1 p2 q0 q1 y1 y2:Pos):List Stmt:=[.Expr (.Yield (some (Zlv p0 p1 p2 q0 q1)) y1) y2]
noncomputable abbrev eG(L:Addr):Env:=newEnv (KH.fScope (KH.M 13 6)) L mainGlobals [] ("_ValueFormatter._maxlengths"++".<locals>.") (some 134) (KH.r 133) none builtinsNs
structure GoodG(C:Ctx)(L pg:Addr)(s:Shared):Prop where
 old:OldK C.base s.heap
 inv:C.inv s.heap
 ns:s.heap.Ns L (mB (b134 (.ref pg)))
 page:∃pd x ad ln ts sz ls pv,PgSt s.heap pg pd x ad ln ts sz ls pv∧Small ts sz
theorem GoodG.env{C:Ctx}{L pg:Addr}{s:Shared}(G:GoodG C L pg s):PgEnv C (eG L) s pg (mB (b134 (.ref pg))):=⟨k134,Jg,G.ns,ZgS _,G.old,G.inv⟩
noncomputable def YG(C:Ctx)(L pg:Addr):Protocol:=fun k s₀ v s kap=>
 (∀pd x ad ln ts sz ls pv,PgSt s₀.heap pg pd x ad ln ts sz ls pv→if k=9 then∃t,v= .int (40-(sz+twid ts)) t else∃t,v= .int (40-pv.lead) t)∧
 Mv C TB nox s₀ s∧(k≠0→∀s'',GoodG C L pg s''→kap (.send .none) s'')
noncomputable def RG:GenEnd:=fun μ μ μ μ=>False
theorem Zg1{h:Heap}{l:List TT}:∀{l':List TT},trefs l=trefs l'→(∀t∈l,h.get? t.1=some (tupO t))→(∀t∈l',h.get? t.1=some (tupO t))→twid l=twid l':=by
 induction l with
 |nil=>
  intro l' e μ μ;cases l' with
  |nil=>rfl
  |cons _ _=>exact(nomatch e)
 |cons t r ih=>
  intro l' e h1 h2;cases l' with
  |nil=>exact(nomatch e)
  |cons t' r'=>
   have e':=List.cons.inj e;have o1:=h1 t (.head _);rw[Value.ref.inj e'.1,h2 t' (.head _)]at o1;have q1:=congrArg (fun o:Obj=>match o.data with
    | .seq a _=>a.toList
    |_=>[]) (Option.some.inj o1)
   have q3:=List.cons.inj (show [Value.str t'.2.1.1 t'.2.1.2, .str t'.2.2.1 t'.2.2.2]=[Value.str t.2.1.1 t.2.1.2, .str t.2.2.1 t.2.2.2]from q1);have ih:=ih e'.2 (fun t ht=>h1 t (.tail _ ht)) (fun t ht=>h2 t (.tail _ ht));have w:wid t=wid t':=by
    show t.2.1.1.length+t.2.2.1.length=t'.2.1.1.length+t'.2.2.1.length;rw[(Value.str.inj q3.1).1,(Value.str.inj (List.cons.inj q3.2).1).1]
   show wid t+twid r=wid t'+twid r';rw[w,ih]
theorem Zeo{h:Heap}{pg pd x ad ln pd' x' ad' ln':Addr}{ts ts':List TT}{sz sz':Int}{ls ls':List (Str×Tok)}{pv pv':PV}(S:PgSt h pg pd x ad ln ts sz ls pv)(S':PgSt h pg pd' x' ad' ln' ts' sz' ls' pv'):sz=sz'∧twid ts=twid ts'∧pv.lead=pv'.lead:=by
 refine S.el fun od tm tw tl tp I z=>S'.el fun od' tm' tw' tl' tp' I' z'=>S.acc.el fun n oa tk J y=>S'.acc.el fun n' oa' tk' J' y'=>?_;have e2:pd=pd':=Option.some.inj (congrArg Obj.dict (Option.some.inj (I.at_.symm.trans I'.at_)));have d1:h.get? pd=some od:=I.dict;have d2:h.get? pd'=some od':=I'.dict;have e3:=Option.some.inj (d1.symm.trans (e2▸d2));have look:∀nm,(pgL pv tm tw tl tp ln x).lookup nm=(pgL pv' tm' tw' tl' tp' ln' x').lookup nm:=fun nm=>Option.some.inj ((YB z (x:=nm)).symm.trans (e3▸YB z' (x:=nm)));have ex:x=x':=Value.ref.inj (Option.some.inj (look "_current_line"));have f1:=Option.some.inj (J.at_.symm.trans (ex▸J'.at_));have f2:ad=ad':=Option.some.inj (congrArg Obj.dict f1);have g1:h.get? ad=some oa:=J.dict;have g2:h.get? ad'=some oa':=J'.dict;have f3:=Option.some.inj (g1.symm.trans (f2▸g2));have f4:=Option.some.inj (Option.some.inj ((YB y.od (x:="_initial_size")).symm.trans (f3▸YB y'.od (x:="_initial_size"))));have f5:=congrArg (fun o:Obj=>match o.data with
  | .seq a _=>a.toList
  |_=>[]) f1
 exact⟨(Value.int.inj f4).1,Zg1 f5 S.acc.tups S'.acc.tups,(Value.int.inj (Option.some.inj (look "_continuation_ws_len"))).1⟩
section
variable{C:Ctx}{p:Params}{s s₀:Shared}{L pg:Addr}{E:VP}{A:Around}
theorem mx2{p0 p1 p2 q0 q1:Pos}{Q:VP}(PK:PG C p)(G:GoodG C L pg s)(hQ:∀v s',(∀pd x ad ln ts sz ls pv,PgSt s.heap pg pd x ad ln ts sz ls pv→∃t,v= .int (40-pv.lead) t)→Mv C TB nox s s'→Q v s'):
  wpAny (model C.prog C.w) A (eval (Zlv p0 p1 p2 q0 q1) (eG L)) Q E s:=by
 refine exE8 G.page fun pd x ad ln ts sz ls pv h=>?_;have V:=G.env;refine wpAny_BinOp ?_;refine Yi k134 Jg (by decide) V.ns V.val (ZeE (inG PK G.inv) h.1 fun t1=>?_)
 refine Yi (s:={s with toks:=_}) k134 Jg (by decide) V.ns V.val (Zna (s:={s with toks:=_}) (inG PK G.inv) h.1 fun t2=>?_)
 refine PySem.P.sub_int ?_;exact hQ _ _ (fun pd' x' ad' ln' ts' sz' ls' pv' S'=>⟨_,congrArg (fun z=>Value.int (40-z) _) (Zeo h.1 S').2.2⟩) (Mv.toks _)
theorem mx1{p0 p1 p2 q0 q1 q2 q3:Pos}{Q:VP}(PK:PG C p)(G:GoodG C L pg s)(hr:A.depth+1<recursionLimit)(hh:A.handled=none)
  (hQ:∀v s',(∀pd x ad ln ts sz ls pv,PgSt s.heap pg pd x ad ln ts sz ls pv→∃t,v= .int (40-(sz+twid ts)) t)→Mv C TB nox s s'→Q v s'):
  wpAny (model C.prog C.w) A (eval (Zox p0 p1 p2 q0 q1 q2 q3) (eG L)) Q E s:=by
 refine exE8 G.page fun pd x ad ln ts sz ls pv h=>?_;have V:=G.env;refine wpAny_BinOp ?_;refine Yi k134 Jg (by decide) V.ns V.val (ZeE (inG PK G.inv) h.1 fun t1=>?_)
 refine Yb (id:="len") (s:={s with toks:=_}) k134 Zki rfl rfl G.old (Zds PK) ZfL (by decide) (by decide) rfl ?_
 refine wpAny_items_cons (Zac PK (V.toks _) h.1 (wpAny_items_nil ?_));refine Jn (s:={s with toks:=_}) PK G.old G.inv h.1.acc h.2 hr hh fun s1 tk M1=>?_;refine PySem.P.sub_int ?_;exact hQ _ _ (fun pd' x' ad' ln' ts' sz' ls' pv' S'=>⟨_,congrArg (fun z=>Value.int (40-z) _) (by rw[(Zeo h.1 S').1,(Zeo h.1 S').2.1])⟩) (((Mv.toks _).trans M1).trans (Mv.toks _))
noncomputable abbrev TRUE(w0:Pos):Expr:= .Constant (.bool true) 0 w0
theorem ZjD{w0 r0 r1 r2 s0 s1 z1 z2:Pos}{fs:List Frame}(PK:PG C p)(hfs:splitAtGen fs=none)(hfg:fs.any Frame.guarded=false):
  ∀n,n≤8→∀s,GoodG C L pg s→Seg (model C.prog C.w) A0 RG (YG C L pg) (n+1) s (.whileLoop (TRUE w0) (Zlw r0 r1 r2 s0 s1 z1 z2) [] (eG L)) ((model C.prog C.w).den (.whileLoop (TRUE w0) (Zlw r0 r1 r2 s0 s1 z1 z2) [] (eG L))) fs s:=by
 intro n
 induction n with
 |zero=>
  intro μ s G;refine seg_whileLoop (Yl (fun w=>rfl) (wpAny_Constant_bool (wpAny_truthy_bool ?_)));rw[if_pos rfl];refine seg_execs_cons (seg_Expr_Yield hfs rfl hfg (mx2 PK G fun v s' hv M kap hk=>?_) (by kernel_rfl) rfl)
  exact⟨fun pd x ad ln ts sz ls pv S=>by rw[if_neg (by decide)];exact hv _ _ _ _ _ _ _ _ S,M,fun h=>absurd rfl h⟩
 |succ n ih=>
  intro hn s G;refine seg_whileLoop (Yl (fun w=>rfl) (wpAny_Constant_bool (wpAny_truthy_bool ?_)));rw[if_pos rfl];refine seg_execs_cons (seg_Expr_Yield hfs rfl hfg (mx2 PK G fun v s' hv M kap hk=>?_) (by kernel_rfl) rfl)
  refine⟨fun pd x ad ln ts sz ls pv S=>by rw[if_neg (by omega)];exact hv _ _ _ _ _ _ _ _ S,M,fun μ s'' G'=>hk .none s'' ?_⟩
  exact seg_execs_nil (seg_again rfl (ih (Nat.le_of_succ_le ‹_›) s'' G'))
theorem Zhq(PK:PG C p)(G:GoodG C L pg s):Seg (model C.prog C.w) A0 RG (YG C L pg) 10 s (.func (KH.fBody (KH.M 13 6)) (eG L)) ((model C.prog C.w).den (.func (KH.fBody (KH.M 13 6)) (eG L))) [] s:=by
 refine seg_func (seg_execs_cons (seg_Expr_Yield rfl rfl rfl (mx1 PK G ?_ ?_ fun v s' hv M kap hk=>?_) (by kernel_rfl) rfl))
 ·exact(by decide:980+0+1+1<1000)
 ·rfl
 refine⟨fun pd x ad ln ts sz ls pv S=>by rw[if_pos rfl];exact hv _ _ _ _ _ _ _ _ S,M,fun μ s'' G'=>hk .none s'' ?_⟩
 refine seg_execs_cons (seg_While fun p=>?_);exact ZjD PK rfl rfl 8 (Nat.le_refl _) s'' G'
end
section
variable{C:Ctx}{s s₀:Shared}{E:VP}{A:Around}
theorem ZcT{a:Addr}{g n:Nat}{gs:GenState}{Y:Protocol}{Q:VP}(hA:Room 0 A)(hl:s.heap.NoLimit)(hg:s.heap.IsGen a g)(hgs:s.gens[g]? =some gs)
  (hgo:gs.Goes (model C.prog C.w) A0 RG Y n (.send .none) (s.setGen g .running))
  (hY:∀v s₁ gs',gs'.bare=true→Y (n-1) (s.setGen g .running) v s₁ (fun r' s''=>match n with|0=>False|m+1=>gs'.Goes (model C.prog C.w) A0 RG Y m r' s'')→Q v (s₁.setGen g gs')):
  wpAny (model C.prog C.w) A (call (.builtin "next") [.ref a]) Q E s:=by
 have h1:A.depth+20<1000:=hA.1;have h2:A.units+4*0+800<9900:=hA.2.1;refine PySem.Calls.call_function_entry (by decide+kernel) (by decide+kernel) kdk_entry_next (kdk_args_next _) ?_
 unfold Builtin.«next»
 refine Wb (m:=PySem.someArgs "next" 1 2 _) (wpAny_of_eq (a:=[Value.ref a]) (by first|rfl|kernel_rfl) ?_)
 dsimp only
 refine Wb (wpAny_specialOf (name:=Str.ofString "__next__") hg.typeIs slot_gen_next.lookup ?_);refine wpAny_ite_split (fun hab=>absurd hab (by decide)) (fun μ=>?_)
 refine Wb (m:=callSpecial? _ _ _ _) (wpAny_callSpecial?_slot (name:=Str.ofString "__next__") hg.typeIs slot_gen_next
  (wpAny_call_entry slot_gen_next hg.typeIs entry_gen_next ?_ (args_gen_next _)))
 show wpAny _ _ (Builtin.Generator.genWake (.ref a) (.send .none)) _ _ s;unfold Builtin.Generator.genWake;refine Wb (wpAny_holding (wpAny_genNumber hg (Wb (wpAny_genState hgs ?_))));cases gs with
 |running=>exact hgo.elim
 |finished=>exact hgo.elim
 |_=>
  refine Wb (wpAny_roomToWake hl (Nat.lt_of_le_of_lt (Nat.le_add_right _ 20) h1) ?_);show wpAny _ _ (.resume g (.send .none) [] _) _ _ s;refine ZbE (A':=A0) ?_ hA.2.2 (Nat.le_of_lt (Nat.lt_of_add_lt_add_right (show A.depth+20<980+20 from h1))) (Nat.le_trans (Nat.le_of_lt (Nat.lt_of_add_lt_add_right (show A.units+2+798<9102+798 from h2))) (by decide)) rfl rfl
  refine wpAny_resumeQ hgs hgo (fun x s₁ hx=>hx.elim) (fun v s₁ gs' hb hv=>?_);exact Wp ⟨v,rfl,Wp ⟨v,rfl,hY v s₁ gs' hb hv⟩⟩
end
section
variable{C:Ctx}{p:Params}{s:Shared}{pg:Addr}{E:VP}{A:Around}
theorem ZcE:(KK p).lookup 134=some (KH.oF (KH.M 13 6) "_ValueFormatter._maxlengths" [] KH.n (KH.s "cpy313.email.header" 372) (KH.r 133) KH.n):=by kernel_rfl
theorem Znm:codeIn (KK p) (KH.r 133) "_ValueFormatter._maxlengths"=true:=by kernel_rfl
theorem Znq:∀x∈(KH.fScope (KH.M 13 6)).names,x.2≠ .cell:=fun x hx=>bne_iff_ne.mp (List.all_eq_true.mp (by kernel_rfl:((KH.fScope (KH.M 13 6)).names.all fun x=>x.2 != .cell)=true) x hx)
theorem Zf9{Q:VP}(PK:PG C p)(O:OldK C.base s.heap)(hi:C.inv s.heap)(hr:A.depth<recursionLimit)
  (hQ:∀ga L s',ga≠L→(∀a∈[ga,L],s.heap.get? a=none∧C.base.objs.size≤a)→s'.heap.IsGen ga s.gens.size→s'.heap.Ns L (mB (b134 (.ref pg)))→
   s'.gens=s.gens.push (.fresh (.func (KH.fBody (KH.M 13 6)) (eG L)))→(∀a o,s.heap.get? a=some o→s'.heap.get? a=some o)→s'.os=s.os→Q (.ref ga) s'):wpAny (model C.prog C.w) A (call (.ref 134) [.ref pg]) Q E s:=by
 have X:=inG PK hi;refine wpAny_call (codeAny_call_generator hr (X _ _ ZcE) rfl (by kernel_rfl) (by kernel_rfl) rfl (codeRec_of X Znm) ?_)
 refine(Zy ZcE rfl:Ya (KK p) 134 [.ref pg] (b134 (.ref pg))) _ _ _ _ ZcE s X _ _ _ _ ?_;refine wpAny_newFunctionEnv Znq (fun y hy=>?_) (fun h' hn' hs'=>?_) k134
 ·rw[List.mem_singleton.mp hy];exact Jg
 have kp:∀a o,s.heap.get? a=some o→h'.get? a=some o:=fun a o e=>hs'.extBut a o (Nat.ne_of_lt (Heap.lt_size e)) (Heap.get?_push_of_some _ e);have hL:s.heap.objs.size<h'.objs.size:=by rw[hs'.1,Heap.size_push];exact Nat.lt_succ_self _
 refine⟨C.lim _ (C.inv_step _ _ hi fun a o e μ=>kp a o e),?_⟩;refine hQ _ s.heap.objs.size _ (Nat.ne_of_gt hL) (fun a ha=>?_) ⟨_,_,_,Heap.get?_push_size _ rfl,rfl,rfl,rfl⟩ (hn'.push _) rfl (fun a o e=>Heap.get?_push_of_some _ (kp a o e)) rfl;have hsz:=Yd O;rcases List.mem_cons.mp ha with e|ha
 ·exact e▸⟨ZH (Nat.le_of_lt hL),Nat.le_trans hsz (Nat.le_of_lt hL)⟩
 ·exact List.mem_singleton.mp ha▸⟨Zw _,hsz⟩
end
section
variable{C:Ctx}{p:Params}{s:Shared}{E:VP}{A:Around}
theorem ZgW{a:Addr}{v1 v2 v3 v4:Value}:(A.under (.builtin "type.__call__" ⟨[.ref a,v1,v2,v3,v4],[]⟩)).depth=A.depth+1:=by
 skip
 rfl
theorem Zh3{hd:Int}{th tm tw tp:Tok}{ws sp:Str}{Q:VP}(PK:PG C p)(O:OldK C.base s.heap)(hi:C.inv s.heap)(hr:A.depth+4<recursionLimit)(hws:ws.length≤4096)
  (hQ:∀pg pd x ad ln s',(∀a∈[pg,pd,x,ad,ln],s.heap.get? a=none∧C.base.objs.size≤a)→PgSt s'.heap pg pd x ad ln [] hd [] ⟨ws,ws.length,sp⟩→Plain nox s s'→Q (.ref pg) s'):
  wpAny (model C.prog C.w) A (call (.ref cP) [.int hd th, .int 40 tm, .str ws tw, .str sp tp]) Q E s:=by
 have X:=inG PK hi;have hb:=Yd O;obtain⟨h,g,d,t,os⟩:=s;refine wpAny_call (make_core (makes_of X (by kernel_rfl)) (looks_findIn X (by kernel_rfl:findIn (KK p) (.ref cP) "__init__"=some (some (.ref 92)))) (fun self=>bind_fn X self (by kernel_rfl)) (.inl rfl) ?_)
 have P:Plain nox ⟨h,g,d,t,os⟩ ⟨(h.push emptyDict).push (instObj cP h.objs.size),g,d,t,os⟩:=⟨fun a o e μ=>Heap.get?_push_of_some _ (Heap.get?_push_of_some _ e),rfl,rfl⟩;have hx:((h.push emptyDict).push (instObj cP h.objs.size)).get? (h.objs.size+1)=some (instObj cP h.objs.size):=by
  have:=Heap.get?_push_size (o:=instObj cP h.objs.size) (h.push emptyDict) rfl;rwa[Heap.size_push]at this
 have hd:((h.push emptyDict).push (instObj cP h.objs.size)).get? h.objs.size=some emptyDict:=Heap.get?_push_of_some _ (Heap.get?_push_size _ rfl);refine Zep (s:=⟨_,g,d,t,os⟩) PK (Zu O P fun μ h=>h.elim) (C.inv_step _ _ hi fun a o e μ=>P.keep a o e id) ⟨hx,rfl,rfl,hd⟩ hb (by rw[ZgW];exact hr) hws fun s' x ad ln hf S P2=>⟨rfl,?_⟩
 refine hQ (h.objs.size+1) h.objs.size x ad ln s' (fun a ha=>?_) S ⟨fun a o e μ=>P2.keep a o (P.keep a o e id) (Nat.ne_of_lt (Heap.lt_size e)),P2.gens,P2.os⟩;rcases List.mem_cons.mp ha with e|ha
 ·exact e▸⟨ZH (Nat.le_succ _),Nat.le_trans hb (Nat.le_succ _)⟩
 rcases List.mem_cons.mp ha with e|ha
 ·exact e▸⟨Zw _,hb⟩
 ·exact⟨noAt (fun a o e=>P.keep a o e id) (hf a ha).1,(hf a ha).2⟩
end
set_option backward.match.sparseCases false
noncomputable def CR(cs:List Chunk)(ts:List TT):Prop:=cs.map (fun c=>(c.f,c.s))=ts.map (fun t=>(t.2.1.1,t.2.2.1))∧∀c∈cs,c.f.length≤c.fb∧c.s.length≤c.sb
noncomputable def LR(l:List (Str×Nat))(ls:List (Str×Tok)):Prop:=l.map (·.1)=ls.map (·.1)∧∀x∈l,x.1.length≤x.2
theorem CR.nil:CR [] []:=⟨rfl,fun μ h=>nomatch h⟩
theorem CR.len{cs:List Chunk}{ts:List TT}(h:CR cs ts):cs.length=ts.length:=by
 have:=congrArg List.length h.1;rwa[List.length_map,List.length_map]at this
theorem ZdX{cs:List Chunk}(h:∀c∈cs,c.f.length≤c.fb∧c.s.length≤c.sb):Jx cs≤curB cs:=by
 induction cs with
 |nil=>exact Nat.le_refl _
 |cons c cs ih=>
  have a:=h c (.head _);exact Nat.add_le_add (Nat.add_le_add a.1 a.2) (ih fun d hd=>h d (.tail _ hd))
theorem CR.wid{cs:List Chunk}{ts:List TT}(h:CR cs ts):twid ts≤curB cs∧twid ts=Jx cs:=by
 have e:=congrArg (fun l:List (Str×Str)=>(l.map fun x=>x.1.length+x.2.length).sum) h.1;rw[List.map_map,List.map_map]at e;exact⟨(show twid ts=Jx cs from e.symm)▸ZdX h.2,e.symm⟩
theorem CR.snoc{c:Chunk}{t:TT}(h1:c.f=t.2.1.1)(h2:c.s=t.2.2.1)(h3:c.f.length≤c.fb)(h4:c.s.length≤c.sb){cs:List Chunk}{ts:List TT}(h:CR cs ts):CR (cs++[c]) (ts++[t]):=by
 refine⟨?_,fun d hd=>(List.mem_append.mp hd).elim (h.2 d) fun q=>List.mem_singleton.mp q▸⟨h3,h4⟩⟩;rw[List.map_append,List.map_append,h.1,List.map_singleton,List.map_singleton,h1,h2]
theorem CR.split{cs:List Chunk}{ts:List TT}{t:TT}(h:CR cs (ts++[t])):∃r c,cs=r++[c]∧CR r ts∧c.f=t.2.1.1∧c.s=t.2.2.1∧c.f.length≤c.fb∧c.s.length≤c.sb:=by
 obtain⟨r,l,e,h1,h2⟩:=List.map_eq_append_iff.mp (h.1.trans List.map_append);obtain⟨c,e2,h3⟩:=List.map_eq_singleton_iff.mp h2;rw[e2]at e;have h2:=h.2;rw[e]at h2;have hc:=h2 c (List.mem_append_right _ (.head _));exact⟨r,c,e,⟨h1,fun d hd=>h2 d (List.mem_append_left _ hd)⟩,congrArg Prod.fst h3,congrArg Prod.snd h3,hc.1,hc.2⟩
theorem Zfs{s:Str}:isNl s=true↔s="":=by
 unfold isNl;constructor
 ·intro h;obtain⟨a⟩:=s;cases e:a.toList with
  |nil=>rw[Array.toList_inj.mp (e:a.toList=(#[]:Array Nat).toList)];rfl
  |cons _ _=>dsimp only at h;rw[e]at h;exact ftB h
 ·rintro rfl;rfl
theorem Zgl(c:Chunk):Zba c=((c.f==(" ":Str))&&(c.s==("":Str))):=by
 unfold Zba;rw[Zjx];have:isNl c.s=(c.s==("":Str)):=by
  rw[Bool.eq_iff_iff,Zfs,beq_iff_eq]
 rw[this,Bool.and_comm]
theorem join0(l:List Str):Txt.join "" l=⟨(l.flatMap (·.cps.toList)).toArray⟩:=by
 have key:∀l:List Str,joinL [] l=l.flatMap (·.cps.toList):=fun l=>by
  induction l with
  |nil=>rfl
  |cons x l ih=>
   cases l with
   |nil=>exact(List.append_nil _).symm
   |cons y r=>show x.cps.toList++[]++joinL [] (y::r)=_;rw[ih];simp
 rw[←ZaG,←key];rfl
theorem CR.txt{cs:List Chunk}{ts:List TT}(h:CR cs ts):ttxt ts=⟨(Y6 cs).toArray⟩:=by
 have e:=congrArg (fun l:List (Str×Str)=>l.flatMap fun x=>x.1.cps.toList++x.2.cps.toList) h.1;rw[List.flatMap_map,List.flatMap_map]at e;unfold ttxt;rw[join0,List.flatMap_map];refine congrArg (fun l:List Nat=>(⟨l.toArray⟩:Str)) (Eq.trans ?_ e.symm);refine congrArg (fun f=>List.flatMap f ts) (funext fun t=>?_);rw[join0];exact congrArg (t.2.1.1.cps.toList++ ·) (List.append_nil _)
theorem J2(cs:List Chunk):(Y6 cs).length=Jx cs:=by
 induction cs with
 |nil=>rfl
 |cons c cs ih=>
  show(c.f.cps.toList++c.s.cps.toList++Y6 cs).length=c.f.length+c.s.length+Jx cs;rw[List.length_append,List.length_append,ih];rfl
theorem Zei{cs:List Chunk}{ts ts':List TT}(h:CR cs ts)(hn:NlRel ts ts'):(cs=[]∧Zco cs=[]∧twid ts'=0∧(ttxt ts')="")∨CR (Zco cs) ts':=by
 rcases hn with⟨e,t,a,b,e'⟩|⟨r,t,e,h2⟩
 ·rw[e]at h;have ec:=List.length_eq_zero_iff.mp h.len;rw[ec,e'];exact .inl ⟨rfl,rfl,rfl,rfl⟩
 ·right;rw[e]at h;obtain⟨r',c,ec,h3,h4,h5,h6,h7⟩:=h.split;have e:Zba c=Zia t:=by rw[Zgl,h4,h5];rfl
  unfold Zco;rw[ec,List.getLast?_concat,List.dropLast_concat];show CR (cond (Zba c) r' (r'++[c])) ts';rw[e];rcases h2 with⟨q,e'⟩|⟨q,t',q',e'⟩
  ·rw[q,e'];exact h3
  ·rw[q,e'];exact h3.snoc (by rw[q',h4]) (by rw[q',h5]) h6 h7
theorem ZjA:∀c,c<123→97≤c→Unicode.isSpace c=false:=by decide+kernel
theorem ZbB{s:Str}{c:Nat}(hc:c∈s.cps.toList)(h1:97≤c)(h2:c≤122):Txt.isspace s=false:=by
 unfold Txt.isspace;rw[Bool.and_eq_false_iff];right;rw[←Array.all_toList,List.all_eq_false];exact⟨c,hc,by rw[ZjA c (Nat.lt_succ_of_le h2) h1];decide⟩
theorem Zgh{cs:List Chunk}(h:cs.any ZdK=true):∃c,c∈Y6 cs∧97≤c∧c≤122:=by
 obtain⟨c,hc,hl⟩:=List.any_eq_true.mp h;have key:∀l:List Nat,c.s.cps.toList=l→(match l with
   | [x]=>Nat.ble 97 x&&Nat.ble x 122
   |_=>false)=true→∃c,c∈Y6 cs∧97≤c∧c≤122:=fun l e h=>by
  cases l with
  |nil=>exact ftB h
  |cons x r=>
   cases r with
   |nil=>exact⟨x,List.mem_flatMap.mpr ⟨c,hc,List.mem_append_right _ (e▸ .head _)⟩,Nat.le_of_ble_eq_true (Bool.and_eq_true_iff.mp h).1,Nat.le_of_ble_eq_true (Bool.and_eq_true_iff.mp h).2⟩
   |cons _ _=>exact ftB h
 exact key _ rfl hl
theorem ZeP(x:List Nat)(b:Nat)(l:List (Str×Nat)):(Yk x b l).map (·.1)=glueS (l.map (·.1)) ⟨x.toArray⟩:=by
 induction l with
 |nil=>rfl
 |cons a r ih=>
  cases r with
  |nil=>
   obtain⟨⟨s⟩,n⟩:=a;show [(⟨(s.toList++x).toArray⟩:Str)]=[⟨s++x.toArray⟩];exact congrArg (fun a:Array Nat=>[(⟨a⟩:Str)]) (Array.toList_inj.mp (by simp))
  |cons c r=>exact congrArg (a.1:: ·) ih
theorem ZeQ(x:List Nat)(b:Nat)(hb:x.length≤b)(l:List (Str×Nat)):(∀y∈l,y.1.length≤y.2)→∀y∈Yk x b l,y.1.length≤y.2:=by
 induction l with
 |nil=>exact fun μ μ h=>nomatch h
 |cons a r ih=>
  intro h y hy;cases r with
  |nil=>
   obtain⟨⟨s⟩,n⟩:=a;rw[List.mem_singleton.mp (show y∈[_]from hy)];have h1:=h (⟨s⟩,n) (.head _);show((s.toList++x).toArray).size≤n+b;rw[List.size_toArray,List.length_append];exact Nat.add_le_add h1 hb
  |cons c r=>exact(List.mem_cons.mp (show y∈a::Yk x b (c::r)from hy)).elim (fun e=>e▸h a (.head _)) (ih (fun z hz=>h z (.tail _ hz)) y)
theorem ZeY{x:Int}(h:zeroI x=true):x=0:=by
 cases x with
 |ofNat n=>exact congrArg Int.ofNat (Nat.eq_of_beq_eq_true h)
 |negSucc _=>exact ftB h
structure Turned(p p':Page)(ts':List TT)(ls:List Str):Prop where
 lines:∃l,p'=flush p l∧l.map (·.1)=nlOut ts' p.init ls∧∀x∈l,x.1.length≤x.2
theorem ZhT{ts:List TT}{sz:Int}{ls:List Str}(h:sz+(twid ts:Int)=0):ls=nlOut ts sz ls:=by
 unfold nlOut;rw[h,if_neg (by decide)]
theorem Jz{p p':Page}{ts ts':List TT}{ls:List (Str×Tok)}(h:ZbF p=some p')(hc:CR p.cur ts)(hl:LR p.lines ls)(hn:NlRel ts ts')(h0:0≤p.init):Turned p p' ts' (ls.map (·.1)):=by
 refine Classical.byContradiction fun hG=>?_;have fin:∀l,some (flush p l)=some p'→l.map (·.1)=nlOut ts' p.init (ls.map (·.1))→(∀x∈l,x.1.length≤x.2)→False:=fun l e h1 h2=>hG ⟨l,(Option.some.inj e).symm,h1,h2⟩;rcases Zei hc hn with⟨e1,e2,e3,e4⟩|hr
 ·unfold ZbF at h;rw[e2]at h;rcases ZbX h with⟨a,_⟩|⟨_,h⟩
  ·exact ftB a
  rcases ZbX h with⟨q,h⟩|⟨_,h⟩
  ·exact fin _ h (hl.1.trans (ZhT (by rw[e3,ZeY q];rfl))) hl.2
  ·exact nnO h
 ·have hw:=hr.wid;have ht:=hr.txt;unfold ZbF at h;rcases ZbX h with⟨ha,h⟩|⟨_,h⟩
  ·obtain⟨c,hm,c1,c2⟩:=Zgh ha;have hsp:Txt.isspace (ttxt ts')=false:=by
    rw[ht];exact ZbB (c:=c) hm c1 c2
   have hpos:0<p.init+(twid ts':Int):=by
    rw[hw.2,←J2];exact Int.lt_of_lt_of_le (Int.ofNat_lt.mpr (List.length_pos_of_mem hm)) (Int.le_add_of_nonneg_left h0)
   have hws:nlWs ts' p.init=false:=by
    unfold nlWs;rw[hsp,bne_iff_ne.mpr (Int.ne_of_gt hpos),Bool.not_true,Bool.or_false,Bool.and_false]
   refine fin _ h ?_ fun x hx=>(List.mem_append.mp hx).elim (hl.2 x) fun hx=>?_
   ·unfold nlOut;rw[if_pos hpos,hws,Bool.false_and,if_neg (by decide),List.map_append,hl.1,ht];rfl
   ·rw[List.mem_singleton.mp hx];show(Y6 _).toArray.size≤_;rw[List.size_toArray,J2];exact ZdX hr.2
  rcases ZbX h with⟨q,h⟩|⟨_,h⟩
  ·have q:=ZeY q;rcases ZbX h with⟨q2,h⟩|⟨_,h⟩
   ·rw[List.isEmpty_iff.mp q2]at hw;exact fin _ h (hl.1.trans (ZhT (by rw[hw.2,q];rfl))) hl.2
   rcases ZbX h with⟨q3,h⟩|⟨_,h⟩
   ·obtain⟨q3,q4⟩:=Bool.and_eq_true_iff.mp q3;obtain⟨q5,q6⟩:=Bool.and_eq_true_iff.mp q3;obtain⟨c,q2⟩:=List.length_eq_one_iff.mp (eq_of_beq q5);have q6:=List.all_eq_true.mp q6 c (q2▸ .head _);have q6:=Bool.and_eq_true_iff.mp q6;have e2:Y6 [c]=[32,32]:=by
     show c.f.cps.toList++c.s.cps.toList++[]=_;rw[Zfs.mp q6.1,Za.mp q6.2];rfl
    rw[q2]at hw ht;have hsp:Txt.isspace (ttxt ts')=true:=by rw[ht,e2];decide+kernel
    have hw2:twid ts'=2:=by rw[hw.2,←J2,e2];rfl
    have hne:(!(ls.map (·.1)).isEmpty)=true:=by rw[←hl.1,List.isEmpty_map];exact q4
    have hws:nlWs ts' p.init=true:=by
     unfold nlWs;rw[hsp,q,Bool.or_true];rfl
    rw[q2]at h;refine fin _ h ?_ (ZeQ _ _ (by rw[e2];decide) _ hl.2)
    unfold nlOut;rw[hw2,q,if_pos (by decide),←q,hws,hne,Bool.and_self,if_pos rfl,←hl.1,ht]
    exact ZeP _ _ _
   ·exact nnO h
  ·exact nnO h
set_option backward.match.sparseCases true
section
variable{C:Ctx}{ρ:Rho}{st:St}{s s':Shared}{T:List (Addr×Addr)}{K:Frag}
theorem HI.newObj(H:HI C ρ st s){o:AO}{e:Ent}(hO:OldK C.base s'.heap)(hI:C.inv s'.heap)(hos:s'.os=s.os)(hbare:AllBare s'.gens)(hk:∀a o,s.heap.get? a=some o→s'.heap.get? a=some o)(hgk:∀(g:Nat) (gs:GenState),s.gens[g]? =some gs→s'.gens[g]? =some gs)(hgz:s.gens.size≤s'.gens.size)
  (hf:∀a∈e.as,s.heap.get? a=none∧C.base.objs.size≤a)(hnd:e.as.Nodup)(hl:∀a∈e.as,Live s'.heap a)(hg:∀g∈e.gs,s.gens.size≤g∧g<s'.gens.size)(hgn:e.gs.Nodup)(R:Zcg C (ρ++[e]) s' o e):
  HI C (ρ++[e]) (st.new o) s'∧∀X,Ext C X ρ s (ρ++[e]) s':=by
 have hmain:=ZS (ρ:=ρ) e;have ht:Ze s.heap s'.heap:=fun a xs h=>hk a _ h;have hget:∀j,(st.new o).σ.get j=if j=st.n then some o else st.σ.get j:=fun j=>Tr.get_put _ _ _ _ _ (Nat.lt_succ_self _)
 refine⟨⟨hO,hI,hos.trans H.os,hbare,?_,?_,?_,?_,?_,?_,?_,?_⟩,fun X=>⟨hmain,?_,fun a o h μ μ μ=>hk a o h,ht,fun a o h μ=>⟨o,hk a o h⟩,?_,fun g gs h μ=>hgk g gs h,hgz⟩⟩
 ·rw[Zs,List.nodup_append];refine⟨H.nod,hnd,fun x hx y hy=>?_⟩
  rintro rfl
  exact H.freshOut (hf x hy).1 hx
 ·intro x hx;rw[Zs,List.mem_append]at hx;rcases hx with hx|hx
  ·exact H.lo x hx
  ·exact(hf x hx).2
 ·intro x hx;rw[Zs,List.mem_append]at hx;rcases hx with hx|hx
  ·obtain⟨o,h⟩:=H.live x hx;exact⟨o,hk _ _ h⟩
  ·exact hl x hx
 ·rw[ZD,List.nodup_append];refine⟨H.gnod,hgn,fun x hx y hy=>?_⟩
  rintro rfl
  exact absurd (H.ghi x hx) (Nat.not_lt.mpr (hg x hy).1)
 ·intro g hg';rw[ZD,List.mem_append]at hg';rcases hg' with h|h
  ·exact Nat.lt_of_lt_of_le (H.ghi g h) hgz
  ·exact(hg g h).2
 ·show(ρ++[_]).length=st.n+1;rw[List.length_append,H.len];rfl
 ·intro i o' h;rw[hget]at h;show i<st.n+1;split at h
  ·lia
  ·exact Nat.lt_succ_of_lt (H.dom i o' h)
 ·intro i o' h;rw[hget]at h;split at h
  ·rename_i hi;subst hi;cases h;exact⟨e,by rw[←H.len,List.getElem?_append_right (Nat.le_refl _)];simp,R⟩
  ·obtain⟨en,he,r'⟩:=H.sto i o' h;refine⟨en,?_,r'.step hmain (fun a o μ h=>hk a o h) ht fun g gs μ h=>hgk g gs h⟩;rw[List.getElem?_append_left (List.getElem?_eq_some_iff.mp he).1];exact he
 ·intro a ha;rw[Zs,List.mem_append]at ha;rcases ha with h|h
  ·exact .inl h
  ·exact .inr (.inl (hf a h).1)
 ·intro g hg';rw[ZD,List.mem_append]at hg';rcases hg' with h|h
  ·exact .inl h
  ·exact .inr (hg g h).1
theorem HI.setObj(H:HI C ρ st s){i:Nat}{o o':AO}{e:Ent}(hi:st.σ.get i=some o)(he:ρ[i]? =some e)(hO:OldK C.base s'.heap)(hI:C.inv s'.heap)(hos:s'.os=s.os)(hbare:AllBare s'.gens)
  (hk:∀a o,C.base.objs.size≤a→s.heap.get? a=some o→a∉e.as→s'.heap.get? a=some o)(hlive:∀a o,s.heap.get? a=some o→a∉e.as→Live s'.heap a)(hl:∀a∈e.as,Live s'.heap a)(ht:Ze s.heap s'.heap)(hgk:∀(g:Nat) (gs:GenState),g∉e.gs→s.gens[g]? =some gs→s'.gens[g]? =some gs)(hgz:s.gens.size≤s'.gens.size)
  (R:Zcg C ρ s' o' e):HI C ρ (st.put i o') s'∧∀X,Ext C X ρ s ρ s':=by
 have hget:∀j,(st.put i o').σ.get j=if j=i then some o' else st.σ.get j:=fun j=>Tr.get_put _ _ _ _ _ (Nat.lt_succ_self _)
 have all:∀a o,s.heap.get? a=some o→Live s'.heap a:=fun a o h=>by
  by_cases q:a∈e.as
  ·exact hl a q
  ·exact hlive a o h q
 have gap:∀(j:Nat) (f:Ent) (g:Nat),ρ[j]? =some f→g∈f.gs→j≠i→g∉e.gs:=by
  have key:∀(l:List Ent),(gfoot l).Nodup→∀(a b:Nat) (e f:Ent) (g:Nat),l[a]? =some e→l[b]? =some f→g∈e.gs→g∈f.gs→a=b:=by
   intro l
   induction l with
   |nil=>intro μ a b e f g h1;simp at h1
   |cons x r ih=>
    intro hn a b e f g h1 h2 g1 g2;have h':(x.gs++gfoot r).Nodup:=hn;rw[List.nodup_append]at h';cases a with
    |zero=>
     simp at h1;subst h1;cases b with
     |zero=>rfl
     |succ b=>simp at h2;exact absurd rfl (h'.2.2 g g1 g (JP h2 g2))
    |succ a=>
     simp at h1;cases b with
     |zero=>simp at h2;subst h2;exact absurd rfl (h'.2.2 g g2 g (JP h1 g1))
     |succ b=>simp at h2;rw[ih h'.2.1 a b e f g h1 h2 g1 g2]
  intro j f g hj hg hne hg';exact hne (key ρ H.gnod j i f e g hj he hg hg')
 refine⟨⟨hO,hI,hos.trans H.os,hbare,H.nod,H.lo,fun a h=>?_,H.gnod,fun g h=>Nat.lt_of_lt_of_le (H.ghi g h) hgz,H.len,fun j o h=>?_,fun j o h=>?_⟩,fun X=>⟨.refl _,fun μ h=> .inl h,fun a o h hb hf μ=>hk a o hb h fun q=>hf (Zz he q),ht,fun a o h μ=>all a o h,fun μ h=> .inl h,fun g gs h hf=>hgk g gs (fun q=>hf (JP he q)) h,hgz⟩⟩
 ·obtain⟨o,h⟩:=H.live a h;exact all a o h
 ·rw[hget]at h;split at h
  ·rename_i q;subst q;exact H.dom _ _ hi
  ·exact H.dom j o h
 ·rw[hget]at h;split at h
  ·rename_i q;subst q;cases h;exact⟨e,he,R⟩
  ·rename_i hj;obtain⟨en,hen,r'⟩:=H.sto j o h;exact⟨en,hen,r'.step (.refl _) (fun b o hb h=>hk b o (H.lo b (Zz hen hb)) h fun q=>hj (Ym H.nod hen he hb q)) ht fun g gs hg h=>hgk g gs (gap j en g hen hg hj) h⟩
end
structure PgR(h:Heap)(p:Page)(pg pd x ad ln:Addr)(ts:List TT)(ls:List (Str×Tok))(pv:PV):Prop where
 st:PgSt h pg pd x ad ln ts p.init ls pv
 cur:CR p.cur ts
 lines:LR p.lines ls
 lead:pv.lead=p.lead
 init:0≤p.init
 initb:p.init.natAbs<p.initb
 leadb:p.lead.natAbs<p.leadb
noncomputable def XP(s:Shared)(p:Page)(e:Ent):Prop:=∃pg pd x ad ln ts ls pv,e=⟨[pg,pd,x,ad,ln],[]⟩∧PgR s.heap p pg pd x ad ln ts ls pv
structure RmR(C:Ctx)(ρ:Rho)(s:Shared)(q i:Nat)(ga L g pg:Nat)(gs:GenState):Prop where
 ne:ga≠L
 main:Zi ρ q=some pg
 gen:s.heap.IsGen ga g
 ns:s.heap.Ns L (mB (b134 (.ref pg)))
 look:s.gens[g]? =some gs
 le:i≤9
 goes:∀s'',GoodG C L pg s''→gs.Goes (model C.prog C.w) A0 RG (YG C L pg) (10-i) (.send .none) s''
noncomputable def XR(C:Ctx)(ρ:Rho)(s:Shared)(q i:Nat)(e:Ent):Prop:=∃ga L g pg gs,e=⟨[ga,L],[g]⟩∧RmR C ρ s q i ga L g pg gs
noncomputable def XX(C:Ctx)(ρ:Rho)(s:Shared)(o:AO)(e:Ent):Prop:=match o with
 | .page p=>XP s p e
 | .rooms q i=>XR C ρ s q i e
 | .list _=>False
section
variable{h h':Heap}{pg pd x ad ln:Addr}{ts:List TT}{sz:Int}{ls:List (Str×Tok)}{pv:PV}
theorem PgSt.at(S:PgSt h pg pd x ad ln ts sz ls pv)(k:∀a o,a∈[pg,pd,x,ad,ln]→h.get? a=some o→h'.get? a=some o)(ht:Ze h h'):PgSt h' pg pd x ad ln ts sz ls pv:=by
 refine S.el fun od tm tw tl tp I z=>S.acc.el fun n oa tk J y=>S.lines.elim fun n' e=>?_;exact⟨exI5 od tm tw tl tp ⟨⟨k _ _ (.head _) I.at_,I.cls,I.no,k pd od (.tail _ (.head _)) I.dict⟩,z⟩,⟨exI3 n oa tk ⟨⟨k _ _ (.tail _ (.tail _ (.head _))) J.at_,J.cls,J.no,k ad oa (.tail _ (.tail _ (.tail _ (.head _)))) J.dict⟩,y⟩,fun t m=>ht _ _ (S.acc.tups t m)⟩,n',k _ _ (.tail _ (.tail _ (.tail _ (.tail _ (.head _))))) e⟩
theorem mem5{a b c d e:Addr}{P:Addr→Prop}(h1:P a)(h2:P b)(h3:P c)(h4:P d)(h5:P e):∀x∈[a,b,c,d,e],P x:=by
 intro x h;rcases List.mem_cons.mp h with q|h
 ·exact q▸h1
 rcases List.mem_cons.mp h with q|h
 ·exact q▸h2
 rcases List.mem_cons.mp h with q|h
 ·exact q▸h3
 rcases List.mem_cons.mp h with q|h
 ·exact q▸h4
 ·exact List.mem_singleton.mp h▸h5
theorem mem2{a b:Addr}{P:Addr→Prop}(h1:P a)(h2:P b):∀x∈[a,b],P x:=by
 intro x h;rcases List.mem_cons.mp h with q|h
 ·exact q▸h1
 ·exact List.mem_singleton.mp h▸h2
theorem PgSt.lives(S:PgSt h pg pd x ad ln ts sz ls pv):∀a∈[pg,pd,x,ad,ln],Live h a:=
 S.el fun od tm tw tl tp I z=>S.acc.el fun n oa tk J y=>S.lines.elim fun n' e=>mem5 ⟨_,I.at_⟩ ⟨od,I.dict⟩ ⟨_,J.at_⟩ ⟨oa,J.dict⟩ ⟨_,e⟩
theorem J8{ga g:Nat}(h1:h.IsGen ga g):Live h ga:=by
 obtain⟨o,_,_,ho,_⟩:=h1;exact⟨_,ho⟩
theorem Zer{L:Addr}{m:Str→Option Value}(h1:h.Ns L m):Live h L:=by
 obtain⟨o,_,_,ho,_⟩:=h1;exact⟨_,ho⟩
theorem ZbV{ga g:Nat}(h1:h.IsGen ga g)(k:∀o,h.get? ga=some o→h'.get? ga=some o):h'.IsGen ga g:=by
 obtain⟨o,a,b,ho,r⟩:=h1;exact⟨o,a,b,k _ ho,r⟩
theorem ZhR{L:Addr}{m:Str→Option Value}(h1:h.Ns L m)(k:∀o,h.get? L=some o→h'.get? L=some o):h'.Ns L m:=by
 obtain⟨o,a,b,ho,r⟩:=h1;exact⟨o,a,b,k _ ho,r⟩
end
theorem Zl2(C:Ctx)(ρ:Rho)(s:Shared)(o:AO)(e:Ent)(h:XX C ρ s o e):∀a∈e.as,Live s.heap a:=by
 cases o with
 |list vs=>exact h.elim
 |page p=>exact exE8 h fun pg pd x ad ln ts ls pv h=>h.1▸h.2.st.lives
 |rooms q i=>exact exE5 h fun ga L g pg gs h=>h.1▸mem2 (J8 h.2.gen) (Zer h.2.ns)
theorem Zl1(C:Ctx)(ρ ρ':Rho)(s s':Shared)(o:AO)(e:Ent)(h:XX C ρ s o e)(hm:ZF ρ ρ')(hk:∀a o,a∈e.as→s.heap.get? a=some o→s'.heap.get? a=some o)(ht:Ze s.heap s'.heap)(hg:∀(g:Nat) (gs:GenState),g∈e.gs→s.gens[g]? =some gs→s'.gens[g]? =some gs):XX C ρ' s' o e:=by
 cases o with
 |list vs=>exact h.elim
 |page p=>
  refine exE8 h fun pg pd x ad ln ts ls pv h=>exI8 pg pd x ad ln ts ls pv ⟨h.1,?_⟩;rw[h.1]at hk;exact {h.2 with st:=h.2.st.at hk ht}
 |rooms q i=>
  refine exE5 h fun ga L g pg gs h=>exI5 ga L g pg gs ⟨h.1,?_⟩;rw[h.1]at hk hg;exact {h.2 with main:=hm _ _ h.2.main,gen:=ZbV h.2.gen fun o=>hk _ o (.head _),ns:=ZhR h.2.ns fun o=>hk _ o (.tail _ (.head _)),look:=hg _ _ (.head _) h.2.look}
noncomputable def CC(C:Ctx):Ctx:={C with xr:=XX C,xr_live:=Zl2 C,xr_step:=Zl1 C}
section
variable{C:Ctx}{p:Params}
theorem Mv.un{S:Addr→Prop}{s s':Shared}(M:Mv (CC C) TB S s s'):Mv C TB S s s':=⟨M.keep,M.live,M.old,M.gk,M.gsz,M.bare,M.os⟩
theorem Mv.mk'{S:Addr→Prop}{s s':Shared}(M:Mv C TB S s s'):Mv (CC C) TB S s s':=⟨M.keep,M.live,M.old,M.gk,M.gsz,M.bare,M.os⟩
theorem PG.un(PK:PG (CC C) p):PG C p:=⟨⟨PK.pf.inv,PK.pf.lo,PK.pf.far,PK.pf.tab,PK.pf.apart⟩,⟨PK.cf.mg,PK.cf.file,PK.cf.top⟩⟩
end
noncomputable def Zi7(vs:List V)(n:Nat)(k:V→V→V→V→Prop):Prop:=match vs with
 |v::r=>ZcU r n (k v)
 | []=>Bad n
theorem ZgD{vs:List V}{n:Nat}{k:V→V→V→V→Prop}(h:Zi7 vs n k):∃t u v w,vs=[t,u,v,w]∧k t u v w:=by
 cases vs with
 |nil=>exact noB h
 |cons t r=>exact exE3 (Zbu h) fun u v w h=>exI4 t u v w ⟨congrArg (t:: ·) h.1,h.2⟩
noncomputable def ZcN:Con:=fun vs st k=>Zi7 vs 301 fun a b c d=>Zo a 301 fun h hb=>Zo b 301 fun m μ=>Z0 c 301 fun l lb=>Z0 d 301 fun μ μ=>
 gd (decide (m=40)&&(Nat.ble lb 4096&&!Nat.beq hb 0)) 300 (0≤h∧k (.ref st.n) (st.new (.page ⟨h,hb,[],[],l.length,lb+1⟩)))
section
variable{C:Ctx}{p:Params}{ρ:Rho}{st:St}{s s':Shared}{A:Around}
theorem ZjT{h:Int}{hb lb:Nat}{l:Str}{pg pd x ad ln:Addr}{k:KE}{Q:VP}{pv:PV}(H:HI (CC C) ρ st s)(S:PgSt s'.heap pg pd x ad ln [] h [] pv)(P:Plain nox s s')(hf:∀a∈[pg,pd,x,ad,ln],s.heap.get? a=none∧C.base.objs.size≤a)
  (el:pv.lead=(l.length:Int))(h0:0≤h)(hi:h.natAbs<hb)(hl:l.length≤lb)(hk:k (.ref st.n) (st.new (.page ⟨h,hb,[],[],l.length,lb+1⟩)))(KK:KX (CC C) ρ s st.m k Q):Q (.ref pg) s':=by
 have far:=S.far;have hX:XP s' ⟨h,hb,[],[],l.length,lb+1⟩ ⟨[pg,pd,x,ad,ln],[]⟩:=exI8 pg pd x ad ln [] [] pv ⟨rfl,S, .nil,⟨rfl,fun μ h=>nomatch h⟩,el,h0,hi,Nat.lt_succ_of_le hl⟩;have nd:[pg,pd,x,ad,ln].Nodup:=by simp[far.a1,far.a2,far.a3]
 have R:=H.newObj (s':=s') (o:= .page ⟨h,hb,[],[],l.length,lb+1⟩) (e:=⟨[pg,pd,x,ad,ln],[]⟩) (Zu H.old P fun μ h=>h.elim) ((CC C).inv_step _ _ H.inv fun a o e μ=>P.keep a o e id) P.os (P.gens.symm▸H.gens) (fun a o e=>P.keep a o e id) (fun g gs e=>P.gens.symm▸e) (P.gens.symm▸Nat.le_refl _)
  hf nd S.lives (fun g hg=>nomatch hg) List.nodup_nil hX
 exact KK _ _ _ s' _ hk R.1 (R.2 _) (.ref _ _ (H.len▸ZaF ρ pg _ [])) rfl
theorem Zgw(PK:PG (CC C) p):ConOK (CC C) "_ValueFormatter" 0 ZcN (.ref cP) where
 glob:=PK.cf.mg "_ValueFormatter" (some (.ref cP)) (by kernel_rfl)
 keep:=fun {A E} s O I Q' h=>by
  have X:=inG PK I;exact ZbT (cd:=clsP p) X (X cP _ ZmH) (by kernel_rfl) (by kernel_rfl) Q' h
 call:=fun {A ρ st s vs xs k Q E} hb H r hA KK=>by
  refine Classical.byContradiction fun hnG=>?_;obtain⟨_,_,_,_,e,hb⟩:=ZgD hb;obtain⟨h,hb',e1,hb⟩:=Yf hb;obtain⟨m,mb,e2,hb⟩:=Yf hb;obtain⟨l,lb,e3,hb⟩:=YH hb;obtain⟨u,ub,e4,hb⟩:=YH hb;obtain⟨hc,h0,hk⟩:=gd_of hb;have hc:=Bool.and_eq_true_iff.mp hc;have hc2:=Bool.and_eq_true_iff.mp hc.2;rw[e,e1,e2,e3,e4,of_decide_eq_true hc.1]at r;obtain⟨x1,_,y1,p1,r⟩:=Zq r;obtain⟨x2,_,y2,p2,r⟩:=Zq r;obtain⟨x3,_,y3,p3,r⟩:=Zq r;obtain⟨x4,_,y4,p4,r⟩:=Zq r;obtain⟨t1,f1,q1⟩:=ZB p1;obtain⟨t2,f2,_⟩:=ZB p2;obtain⟨t3,f3,q3⟩:=Z4 p3;obtain⟨t4,f4,_⟩:=Z4 p4;rw[y1,y2,y3,y4,ZM r,f1,f2,f3,f4]at hnG;refine hnG (Zh3 PK H.old H.inv (Nat.lt_of_le_of_lt (Nat.add_le_add_left (by decide:4≤20) _) hA.1) (Nat.le_trans q3 (Nat.le_of_ble_eq_true hc2.1)) fun pg pd x ad ln s' hf S P=>ZjT H S P hf rfl h0 (q1 (Nat.ne_of_beq_eq_false (by simpa using hc2.2))) q3 hk KK)
theorem HI.page(H:HI (CC C) ρ st s){r:Nat}{p:Page}{a:Addr}(e:st.obj r=some (.page p))(ha:Zi ρ r=some a){R:Prop}(f:∀pd x ad ln ts ls pv,ρ[r]? =some ⟨[a,pd,x,ad,ln],[]⟩→PgR s.heap p a pd x ad ln ts ls pv→(∀b∈[a,pd,x,ad,ln],C.base.objs.size≤b)→R):R:=by
 refine(H.sto r _ e).elim fun en h=>exE8 h.2 fun pg pd x ad ln ts ls pv h2=>?_;have he:=h2.1▸h.1;have ea:pg=a:=by unfold Zi at ha;rw[he]at ha;exact Option.some.inj ha
 exact f pd x ad ln ts ls pv (ea▸he) (ea▸h2.2) (ea▸fun b hb=>H.lo b (Zz he hb))
theorem HI.setPage(PK:PG (CC C) p)(H:HI (CC C) ρ st s){r:Nat}{p p':Page}{a pd x ad ln:Addr}{ts ts':List TT}{ls ls':List (Str×Tok)}{pv:PV}(e:st.obj r=some (.page p))(he:ρ[r]? =some ⟨[a,pd,x,ad,ln],[]⟩)(Y:PgR s.heap p a pd x ad ln ts ls pv)
  (M:Mv (CC C) TB (fun b=>b=x∨b=ad∨b=ln) s s')(Y':PgR s'.heap p' a pd x ad ln ts' ls' pv):
  HI (CC C) ρ (st.put r (.page p')) s'∧∀X,Ext (CC C) X ρ s ρ s':=by
 have O':=M.old H.old H.inv;have far:∀b,C.base.objs.size≤b→b∉TB.map (·.2):=fun b hb hm=>by
  obtain⟨q,hq,e⟩:=List.mem_map.mp hm;exact absurd hb (Nat.not_le.mpr (e▸(PK.pf.lo q hq).2.1))
 have ins:∀b,b∉[a,pd,x,ad,ln]→¬(b=x∨b=ad∨b=ln):=fun b hb q=>hb (by rcases q with q|q|q<;>rw[q]<;>simp)
 have ht:Ze s.heap s'.heap:=M.tup PK H.inv fun b hb xs q=>by
  refine Y.st.acc.el fun n oa tk J y=>Y.st.lines.elim fun n' el=>?_;rcases hb with e|e|e
  ·exact dtNe' J.at_ q (fun e=>Value.noConfusion e) e.symm
  ·exact dtNe (show s.heap.get? ad=some oa from J.dict) q (fun e=>y.od.seq _ _ e) e.symm
  ·exact dtNe' el q (fun e=>Value.noConfusion e fun e=>absurd e (by decide)) e.symm
 exact H.setObj e he O'.1 O'.2 M.os (M.bare H.gens) (fun b o hb h q=>M.keep b o h (ins b q) (far b hb)) (fun b o h q=>M.live b o h (ins b q)) Y'.st.lives ht (fun g gs μ h=>M.gk g gs h) M.gsz
  (exI8 a pd x ad ln ts' ls' pv ⟨rfl,Y'⟩)
structure OkP(p:Page)(ts:List TT):Prop where
 small:Small ts p.init
 n:ts.length≤200
 w:twid ts≤200
 l:YN p.lines≤4000
theorem Za1{h:Heap}{p:Page}{pg pd x ad ln:Addr}{ts:List TT}{ls:List (Str×Tok)}{pv:PV}(e:Zfd p=true)(Y:PgR h p pg pd x ad ln ts ls pv):OkP p ts:=by
 have e:=Bool.and_eq_true_iff.mp e;have a:=Nat.le_of_ble_eq_true e.1;have w:=Y.cur.wid;have l:=Y.cur.len;have h4:=Y.init;have h5:=Y.initb;have w2:twid ts≤200:=by lia
 have n2:ts.length≤200:=by lia
 exact⟨⟨Nat.le_trans w2 (by decide),Nat.le_trans n2 (by decide),h4,by lia⟩,n2,w2,Nat.le_of_ble_eq_true e.2⟩
theorem Zgg{l:List (Str×Nat)}{ls:List (Str×Tok)}(h:LR l ls):(ls.map (·.1.length)).sum+ls.length≤YN l:=by
 have e1:ls.map (·.1.length)=(l.map (·.1)).map (·.length):=by rw[h.1,List.map_map];rfl
 have e2:ls.length=l.length:=by have:=congrArg List.length h.1;rw[List.length_map,List.length_map]at this;exact this.symm
 rw[e1,e2];have h2:=h.2
 clear h e1 e2
 induction l with
 |nil=>exact Nat.le_refl _
 |cons x r ih=>
  have a:=h2 x (.head _);have b:=ih fun y hy=>h2 y (.tail _ hy);show x.1.length+((r.map (·.1)).map (·.length)).sum+(r.length+1)≤x.2+1+YN r
  lia
theorem Zgi{u:Str×Tok}{l:List (Str×Tok)}(h:u∈l):u.1.length≤(l.map (·.1.length)).sum:=by
 induction l with
 |nil=>exact(nomatch h)
 |cons x r ih=>
  rcases List.mem_cons.mp h with e|h
  ·exact e▸Nat.le_add_right _ _
  ·exact Nat.le_trans (ih h) (Nat.le_add_left _ _)
theorem Za7{l:List (Str×Nat)}{ls:List (Str×Tok)}(h:LR l ls)(hb:YN l≤4000):Lns ls:=by
 have e:=Nat.le_trans (Zgg h) hb;exact⟨Nat.le_trans (Nat.le_trans (Nat.le_add_left _ _) e) (by decide),fun u hu=>Nat.le_trans (Nat.le_trans (Zgi hu) (Nat.le_trans (Nat.le_add_right _ _) e)) (by decide)⟩
end
structure PM(p:Params)(nm:Str)(f:Addr):Prop where
 find:findIn (KK p) (.ref cP) nm=some (some (.ref f))
 typ:typeIn (KK p) (.ref f)=some (.type "function")
 func:∃oc od fd osl,(KK p).lookup f=some ⟨oc,od, .func fd,osl⟩
 free:∀pv tm tw tl tp ln x,(pgL pv tm tw tl tp ln x).lookup nm=none
section
variable{C:Ctx}{p:Params}{nm:Str}{f:Addr}
theorem Za4{mth:Nat→Page→List V→St→KE→Prop}(PK:PG (CC C) p)(P:PM p nm f)(hm:∀{r:Nat} {vs:List V} {st:St} {k:KE},methP r nm vs st k→∃q,st.pg r=some q∧Zfd q=true∧mth r q vs st k)
  (hc:∀{A:Around} {ρ:Rho} {st:St} {s:Shared} {r:Nat} {a pd x ad ln:Addr} {ts:List TT} {ls:List (Str×Tok)} {pv:PV} {q:Page} {vs:List V} {xs:List Value} {k:KE} {Q E:VP},mth r q vs st k→HI (CC C) ρ st s→st.obj r=some (.page q)→ρ[r]? =some ⟨[a,pd,x,ad,ln],[]⟩→PgR s.heap q a pd x ad ln ts ls pv→OkP q ts→(∀b∈[a,pd,x,ad,ln],(CC C).base.objs.size≤b)→
   VRs ρ s.heap vs xs→Room 0 A→KX (CC C) ρ s st.m k Q→wpAny (model (CC C).prog (CC C).w) A (call (.ref f) (.ref a::xs)) Q E s):
  MethOK (CC C) nm f where
 get:=fun {A ρ st s r p a pl Q E} H e ha hq=>H.page e ha fun pd x ad ln ts ls pv he Y μ=>Zdi (inG PK H.inv) Y.st P.find P.typ (P.free pv · · · · ln x) hq
 func:=fun h μ hi=>exE4 P.func fun oc od fd osl e=>⟨_,fd,inG PK hi _ _ e,rfl⟩
 call:=fun {A ρ st s r a vs xs k Q E} h H ha rv hA KK=>(hm h).elim fun q h=>H.page (pg_of h.1) ha fun pd x ad ln ts ls pv he Y hlo=>hc h.2.2 H (pg_of h.1) he Y (Za1 h.2.1 Y) hlo rv hA KK
theorem x5{a pd x ad ln:Addr}:x∈[a,pd,x,ad,ln]:= .tail _ (.tail _ (.head _))
theorem ad5{a pd x ad ln:Addr}:ad∈[a,pd,x,ad,ln]:= .tail _ (.tail _ (.tail _ (.head _)))
theorem ln5{a pd x ad ln:Addr}:ln∈[a,pd,x,ad,ln]:= .tail _ (.tail _ (.tail _ (.tail _ (.head _))))
theorem Zdd{A:Around}{k:Nat}(h:Room 0 A)(hk:k≤20):A.depth+k<recursionLimit:=Nat.lt_of_le_of_lt (Nat.add_le_add_left hk _) h.1
theorem Zlp{A:Around}{k:Nat}(h:Room 0 A)(hk:k≤800):A.units+k<cLine:=Nat.lt_of_le_of_lt (Nat.add_le_add_left hk _) h.2.1
theorem PgR.pushC{h h':Heap}{q:Page}{a pd x ad ln:Addr}{ts:List TT}{ls:List (Str×Tok)}{pv:PV}(Y:PgR h q a pd x ad ln ts ls pv){c:Chunk}{t:TT}(S:PgSt h' a pd x ad ln (ts++[t]) q.init ls pv)(h1:c.f=t.2.1.1)(h2:c.s=t.2.2.1)(h3:c.f.length≤c.fb)(h4:c.s.length≤c.sb):PgR h' (Mine.pushC q c) a pd x ad ln (ts++[t]) ls pv:=
 ⟨S,Y.cur.snoc h1 h2 h3 h4,Y.lines,Y.lead,Y.init,Y.initb,Y.leadb⟩
theorem ZmB(PK:PG (CC C) p):MethOK (CC C) "add_transition" 120:=
 Za4 (mth:=fun r q vs st k=>vs=[]∧mTr r q st k) PK ⟨by kernel_rfl,by kernel_rfl,exI4 _ _ _ _ fc120.look,fun μ μ μ μ μ μ μ=>rfl⟩ (fun h=>(Zd h).elim fun q h=>by
  have h1:=gd_of h.2;have h2:=YV (ifB_f (ifB_f h1.2 (by decide+kernel)) (by decide+kernel))
  exact⟨q,h.1,h1.1,h2.1,ifB_t (ifB_f h2.2 (by decide+kernel)) (by decide+kernel)⟩) fun {A ρ st s r a pd x ad ln ts ls pv q vs xs k Q E} h H e he Y O hlo rv hA KK=>by
  rw[h.1]at rv;rw[ZM rv];refine Zmr PK H.old H.inv Y.st (Nat.le_trans O.n (by decide)) (Zdd hA (by decide)) fun s' t a' b' ht S' P'=>?_
  have R:=H.setPage PK e he Y ((Mv.plain P' fun b hb=>hb▸hlo x x5).weaken fun b hb=> .inl hb) (Y.pushC (c:=⟨" ",1,"",0⟩) S' rfl rfl (Nat.le_refl 1) (Nat.le_refl 0));exact KK _ _ ρ s' _ h.2 R.1 (R.2 _) .none rfl
theorem ZmE(PK:PG (CC C) p):MethOK (CC C) "_append_chunk" 148:=
 Za4 (mth:=mAc) PK ⟨by kernel_rfl,by kernel_rfl,exI4 _ _ _ _ fc148.look,fun μ μ μ μ μ μ μ=>rfl⟩ (fun h=>(Zd h).elim fun q h=>by
  have h1:=gd_of h.2;exact⟨q,h.1,h1.1,ifB_t h1.2 (by decide+kernel)⟩) fun {A ρ st s r a pd x ad ln ts ls pv q vs xs k Q E} h H e he Y O hlo rv hA KK=>by
  refine Classical.byContradiction fun hnG=>?_;obtain⟨_,_,e0,h⟩:=JZ h;obtain⟨u,p1,e1,h⟩:=YH h;obtain⟨c,q1,e2,h⟩:=YH h;obtain⟨hb,hk⟩:=gd_of h;have hb:=Nat.le_of_ble_eq_true hb;rw[e0,e1,e2]at rv;obtain⟨_,_,y1,v1,rv⟩:=Zq rv;obtain⟨_,_,y2,v2,rv⟩:=Zq rv;obtain⟨t1,f1,l1⟩:=Z4 v1;obtain⟨t2,f2,l2⟩:=Z4 v2;rw[y1,y2,ZM rv,f1,f2]at hnG;have hw:=Y.cur.wid;have hi:=Y.initb;have h0:=Y.init;refine hnG (Zms PK H.old H.inv Y.st (Nat.le_trans (Nat.succ_le_succ O.n) (by decide)) Y.init (by lia) (hlo x x5) (Zdd hA (by decide)) hA.2.2 fun s' t ht S' M'=>?_)
  have R:=H.setPage PK e he Y (M'.weaken fun b hb=> .inl hb) (Y.pushC (c:=⟨u,p1,c,q1⟩) S' rfl rfl l1 l2);exact KK _ _ ρ s' _ hk R.1 (R.2 _) .none rfl
end
section
variable{C:Ctx}{p:Params}
theorem PgR.turn{h h':Heap}{q q':Page}{a pd x ad ln:Addr}{ts ts':List TT}{ls ls':List (Str×Tok)}{pv:PV}(Y:PgR h q a pd x ad ln ts ls pv)(T:Turned q q' ts' (ls.map (·.1)))(hls:ls'.map (·.1)=nlOut ts' q.init (ls.map (·.1)))(S:PgSt h' a pd x ad ln [] 0 ls' pv):PgR h' q' a pd x ad ln [] ls' pv:=
 T.lines.elim fun l h=>h.1▸⟨S,CR.nil,⟨h.2.1.trans hls.symm,h.2.2⟩,Y.lead,Int.le_refl _,(by decide:0<1),Y.leadb⟩
theorem ZmC(PK:PG (CC C) p):MethOK (CC C) "newline" 113:=
 Za4 (mth:=fun r q vs st k=>vs=[]∧mNl r q st k) PK ⟨by kernel_rfl,by kernel_rfl,exI4 _ _ _ _ fc113.look,fun μ μ μ μ μ μ μ=>rfl⟩ (fun h=>(Zd h).elim fun q h=>by
  have h1:=gd_of h.2;have h2:=YV (ifB_f (ifB_f h1.2 (by decide+kernel)) (by decide+kernel))
  exact⟨q,h.1,h1.1,h2.1,(gd_of (ifB_f (ifB_f h2.2 (by decide+kernel)) (by decide+kernel))).2⟩) fun {A ρ st s r a pd x ad ln ts ls pv q vs xs k Q E} h H e he Y O hlo rv hA KK=>by
  refine(Zd h.2).elim fun q' h2=>?_;rw[h.1]at rv;rw[ZM rv];refine wpAny_call (ZhJ PK H.old H.inv Y.st O.small (Nat.le_trans O.n (by decide)) (Za7 Y.lines O.l) (hlo x x5) (hlo ad ad5) (hlo ln ln5) (Zdd hA (by decide)) (Zlp hA (by decide)) hA.2.2 fun s' ts' ls' hrel hls S' M'=>?_)
  have R:=H.setPage PK e he Y M' (Y.turn (Jz h2.1 Y.cur Y.lines hrel Y.init) hls S');exact KK _ _ ρ s' _ h2.2 R.1 (R.2 _) .none rfl
theorem Zgk(u:Str)(l:List Str):Txt.join u l=⟨(joinL u.cps.toList l).toArray⟩:=(ZaG u l).symm
theorem Zij(u:List Nat)(l:List Str):(joinL u l).length≤(l.map (·.length)).sum+l.length*u.length:=by
 induction l with
 |nil=>exact Nat.zero_le _
 |cons x r ih=>
  cases r with
  |nil=>exact Nat.le_add_right _ _
  |cons y r=>
   have e:(joinL u (x::y::r)).length=x.length+u.length+(joinL u (y::r)).length:=by
    show(x.cps.toList++u++joinL u (y::r)).length=_;rw[List.length_append,List.length_append];rfl
   rw[e,List.map_cons,List.sum_cons,List.length_cons,Nat.succ_mul]
   lia
theorem Zh5(l:List (Str×Nat)):(∀y∈l,y.1.length≤y.2)→((l.map (·.1)).map (·.length)).sum+(l.map (·.1)).length≤YN l:=by
 induction l with
 |nil=>exact fun μ=>Nat.le_refl _
 |cons y r ih=>
  intro h;have h1:=h y (.head _);have h2:=ih fun z hz=>h z (.tail _ hz);show y.1.length+((r.map (·.1)).map (·.length)).sum+((r.map (·.1)).length+1)≤y.2+1+YN r
  lia
theorem Zfx{h:Heap}{q q':Page}{a pd x ad ln:Addr}{ts ts':List TT}{ls:List (Str×Tok)}{pv:PV}{u:Str}{b:Nat}(ht:ZbF q=some q')(Y:PgR h q a pd x ad ln ts ls pv)(hrel:NlRel ts ts')(hu:u.length≤b)(n:Nat)(hb:YN q'.lines*(b+1)≤n):
  ((nlOut ts' q.init (ls.map (·.1))).map (·.length)).sum+(nlOut ts' q.init (ls.map (·.1))).length*u.length≤n:=by
 refine(Jz ht Y.cur Y.lines hrel Y.init).lines.elim fun l h=>?_;have e:q'.lines=l:=h.1▸rfl;rw[←h.2.1];rw[e,Nat.mul_add,Nat.mul_one]at hb;have g:=Zh5 l h.2.2;have g2:=Nat.mul_le_mul (Nat.le_trans (Nat.le_add_left _ _) g) hu;exact Nat.le_trans (Nat.add_le_add (Nat.le_trans (Nat.le_add_right _ _) g) g2) (Nat.add_comm _ _▸hb)
theorem Zj4(PK:PG (CC C) p):MethOK (CC C) "_str" 99:=
 Za4 (mth:=mStr) PK ⟨by kernel_rfl,by kernel_rfl,exI4 _ _ _ _ fc99.look,fun μ μ μ μ μ μ μ=>rfl⟩ (fun h=>(Zd h).elim fun q h=>by
  have h1:=gd_of h.2;exact⟨q,h.1,h1.1,ifB_t (ifB_f h1.2 (by decide+kernel)) (by decide+kernel)⟩) fun {A ρ st s r a pd x ad ln ts ls pv q vs xs k Q E} h H e he Y O hlo rv hA KK=>by
  refine Classical.byContradiction fun hnG=>?_;obtain⟨_,e0,h⟩:=Jm h;obtain⟨u,b,e1,h⟩:=YH h;obtain⟨q',ht,h⟩:=Zd h;obtain⟨hb,hk⟩:=gd_of h;have hb:=Nat.le_of_ble_eq_true hb;rw[e0,e1]at rv;obtain⟨_,_,y1,v1,rv⟩:=Zq rv;obtain⟨t1,f1,l1⟩:=Z4 v1;rw[y1,ZM rv,f1]at hnG;refine hnG (ZjS PK H.old H.inv Y.st O.small (Nat.le_trans O.n (by decide)) (Za7 Y.lines O.l) (hlo x x5) (hlo ad ad5) (hlo ln ln5) (Zdd hA (by decide)) (Zlp hA (by decide)) hA.2.2 (fun ts' hrel=>Nat.le_trans (Zfx ht Y hrel l1 4096 hb) (by decide)) fun s' ts' ls' tk hrel hls S' M'=>?_)
  have T:=Jz ht Y.cur Y.lines hrel Y.init;have R:=H.setPage PK e he Y M' (Y.turn T hls S');have eq:q'.lines.map (·.1)=nlOut ts' q.init (ls.map (·.1)):=T.lines.elim fun l h=>h.1▸h.2.1;rw[hls,←eq,Zgk];refine KK _ _ ρ s' _ hk R.1 (R.2 _) (.str _ _ _ ?_) rfl;show(joinL u.cps.toList (q'.lines.map (·.1))).toArray.size≤_;rw[List.size_toArray,eq];exact Nat.le_trans (Zij _ _) (Zfx ht Y hrel l1 _ (Nat.le_refl _))
theorem nd1{α:Type}(a:α):[a].Nodup:=List.nodup_cons.mpr ⟨List.not_mem_nil,List.nodup_nil⟩
theorem ZmD(PK:PG (CC C) p):MethOK (CC C) "_maxlengths" 134:=
 Za4 (mth:=fun r q vs st k=>vs=[]∧mMx r st k) PK ⟨by kernel_rfl,by kernel_rfl,exI4 _ _ _ _ ZcE,fun μ μ μ μ μ μ μ=>rfl⟩ (fun h=>(Zd h).elim fun q h=>by
  have h1:=gd_of h.2;have h2:=YV (ifB_f (ifB_f h1.2 (by decide+kernel)) (by decide+kernel))
  exact⟨q,h.1,h1.1,h2.1,ifB_t h2.2 (by decide+kernel)⟩) fun {A ρ st s r a pd x ad ln ts ls pv q vs xs k Q E} h H e he Y O hlo rv hA KK=>by
  rw[h.1]at rv;rw[ZM rv];refine Zf9 PK H.old H.inv (Zdd (k:=0) hA (by decide)) fun ga L s' hne hf hg hn hgs hkeep hos=>?_
  have ha:Zi ρ r=some a:=by unfold Zi;rw[he];rfl
  have gsz:s'.gens.size=s.gens.size+1:=by rw[hgs,Array.size_push]
  have hX:XR C (ρ++[⟨[ga,L],[s.gens.size]⟩]) s' r 0 ⟨[ga,L],[s.gens.size]⟩:=exI5 ga L s.gens.size a (.fresh (.func (KH.fBody (KH.M 13 6)) (eG L))) ⟨rfl,hne,ZS _ _ _ ha,hg,hn,by rw[hgs];exact Array.getElem?_push_size,by decide,fun s'' G=>⟨rfl,Zhq PK.un G⟩⟩
  have hgk:∀(g:Nat) (gs':GenState),s.gens[g]? =some gs'→s'.gens[g]? =some gs':=fun g gs' e=>by
   rw[hgs,Array.getElem?_push,if_neg (Nat.ne_of_lt (Array.getElem?_eq_some_iff.mp e).1)];exact e
  have R:=H.newObj (s':=s') (o:= .rooms r 0) (e:=⟨[ga,L],[s.gens.size]⟩) (JO (S:=nox) H.old (fun a o e μ=>hkeep a o e) fun μ h=>h.elim) ((CC C).inv_step _ _ H.inv fun a o e μ=>hkeep a o e) hos (by rw[hgs];exact AllBare.push H.gens rfl) hkeep hgk (gsz▸Nat.le_succ _) hf (List.nodup_cons.mpr ⟨fun h=>hne (List.mem_singleton.mp h),nd1 _⟩) (mem2 (J8 hg) (Zer hn)) (fun g hg=>by rw[List.mem_singleton.mp hg,gsz];exact⟨Nat.le_refl _,Nat.lt_succ_self _⟩) (nd1 _) hX
  exact KK _ _ _ s' _ h.2 R.1 (R.2 _) (.ref _ _ (H.len▸ZaF ρ ga _ _)) rfl
end
section
variable{C:Ctx}{p:Params}
theorem ZfP{s:Shared}{g:Nat}{gs:GenState}(h:AllBare s.gens)(hb:gs.bare=true):AllBare (s.setGen g gs).gens:=by
 intro y hy;obtain⟨i,hi,e⟩:=Array.mem_iff_getElem.mp hy;have hi':i<s.gens.size:=Nat.lt_of_lt_of_eq hi (GenOnly.setGen s g gs).1;have e:=(Array.getElem?_eq_getElem hi).trans (congrArg some e);by_cases q:i=g
 ·subst q;exact Option.some.inj ((setGen_self (s:=s) (x:=gs) (Array.getElem?_eq_getElem hi')).symm.trans e)▸hb
 ·exact Option.some.inj ((Array.getElem?_eq_getElem hi').symm.trans (((GenOnly.setGen s g gs).2 i q).symm.trans e))▸h _ (Array.getElem_mem hi')
theorem Zc6{s:Shared}{g j:Nat}{gs x:GenState}(h:j≠g)(e:s.gens[j]? =some x):(s.setGen g gs).gens[j]? =some x:=((GenOnly.setGen s g gs).2 j h).trans e
theorem Zhy{ρ:Rho}{st:St}{s s₁:Shared}{r q i:Nat}{a L g pg:Nat}{gs gs':GenState}(PK:PG (CC C) p)(H:HI (CC C) ρ st s)(e1:st.obj r=some (.rooms q i))(he:ρ[r]? =some ⟨[a,L],[g]⟩)(R:RmR C ρ s q i a L g pg gs)(M:Mv (CC C) TB nox (s.setGen g .running) s₁)(hb:gs'.bare=true)(hi:i≤8)
  (hk:∀s'',GoodG C L pg s''→gs'.Goes (model C.prog C.w) A0 RG (YG C L pg) (10-(i+1)) (.send .none) s''):HI (CC C) ρ (st.put r (.rooms q (i+1))) (s₁.setGen g gs')∧∀X,Ext (CC C) X ρ s ρ (s₁.setGen g gs'):=by
 have O':=M.old H.old H.inv;have self1:s₁.gens[g]? =some .running:=M.gk g .running (setGen_self R.look);have far:∀b,C.base.objs.size≤b→b∉TB.map (·.2):=fun b hb hm=>by
  obtain⟨q,hq,e⟩:=List.mem_map.mp hm;exact absurd hb (Nat.not_le.mpr (e▸(PK.pf.lo q hq).2.1))
 have keepA:∀b o,C.base.objs.size≤b→s.heap.get? b=some o→s₁.heap.get? b=some o:=fun b o hb e=>M.keep b o e id (far b hb);have hlo:∀b∈[a,L],C.base.objs.size≤b:=fun b hb=>H.lo b (Zz he hb);have hg:=ZbV R.gen fun o=>keepA a o (hlo a (.head _));have hn:=ZhR R.ns fun o=>keepA L o (hlo L (.tail _ (.head _)));have hX:XR C ρ (s₁.setGen g gs') q (i+1) ⟨[a,L],[g]⟩:=exI5 a L g pg gs' ⟨rfl,R.ne,R.main,hg,hn,setGen_self self1,Nat.succ_le_succ hi,hk⟩;have hgk:∀(j:Nat) (gs0:GenState),j∉[g]→s.gens[j]? =some gs0→(s₁.setGen g gs').gens[j]? =some gs0:=fun j gs0 hj e=>Zc6 (fun q=>hj (q▸ .head _)) (M.gk j gs0 (Zc6 (fun q=>hj (q▸ .head _)) e));exact H.setObj (s':=s₁.setGen g gs') (o':= .rooms q (i+1)) e1 he O'.1 O'.2 (M.os.trans rfl) (ZfP (M.bare (ZfP H.gens rfl)) hb) (fun b o hb e μ=>keepA b o hb e) (fun b o e μ=>M.live b o e id) (mem2 (J8 hg) (Zer hn)) (fun b xs e=>M.tup PK (s:=s.setGen g .running) H.inv (fun μ h=>h.elim) b xs e) hgk
  (Nat.le_trans (Nat.le_of_eq (GenOnly.setGen s g .running).1.symm) (Nat.le_trans M.gsz (Nat.le_of_eq (GenOnly.setGen s₁ g gs').1.symm))) hX
theorem Zog{a:Int}{n b c:Nat}(h:a.natAbs<b)(hw:n≤c):(40-(a+n)).natAbs<41+b+c:=by
 refine Nat.lt_of_le_of_lt (Int.natAbs_sub_le _ _) ?_;have:=Int.natAbs_add_le a n;rw[Int.natAbs_natCast]at this;rw[Nat.add_assoc];exact Nat.add_lt_add_of_lt_of_le (show(40:Int).natAbs<41 by decide) (Nat.le_trans this (Nat.add_le_add (Nat.le_of_lt h) hw))
theorem Zof{a:Int}{b:Nat}(h:a.natAbs<b):(40-a).natAbs<41+b:=
 Nat.lt_of_le_of_lt (Int.natAbs_sub_le _ _) (Nat.add_lt_add_of_lt_of_le (show(40:Int).natAbs<41 by decide) (Nat.le_of_lt h))
theorem Zoe{i:Nat}(h:i≠0):¬10-i-1=9:=by
 cases i with
 |zero=>exact absurd rfl h
 |succ i=>
  rw[Nat.succ_sub_succ 9 i,Nat.sub_sub];exact Nat.ne_of_lt (Nat.lt_of_lt_of_eq (Nat.sub_lt (by decide) (Nat.succ_pos i)) rfl)
theorem Zoq(PK:PG (CC C) p){A:Around}{ρ:Rho}{st:St}{s:Shared}{v:V}{x:Value}{k:KE}{Q E:VP}(h:ZaE v st k)(H:HI (CC C) ρ st s)(rv:VR ρ s.heap v x)(hA:Room 0 A)(KK:KX (CC C) ρ s st.m k Q):
  wpAny (model C.prog C.w) A (call (.builtin "next") [x]) Q E s:=by
 refine Classical.byContradiction fun hnG=>?_;obtain⟨r,e0,h⟩:=YJ h;obtain⟨⟨q,i⟩,e1,h⟩:=Zd h;obtain⟨pp,e2,h⟩:=Zd h;obtain⟨hc,h⟩:=gd_of h;have hc:=Bool.and_eq_true_iff.mp hc;have e1:=rm_of e1;rw[e0]at rv;obtain⟨a,ea,ha⟩:=Z9 rv;rw[ea]at hnG;refine hnG ((H.sto r _ e1).elim fun en hen=>exE5 hen.2 fun ga L g pg gs R=>?_);have he:=R.1▸hen.1;have ea:a=ga:=by unfold Zi at ha;rw[he]at ha;exact(Option.some.inj ha).symm
 rw[ea];refine H.page (pg_of e2) R.2.main fun pd xx ad ln ts ls pv he2 Y hlo=>?_;have O:=Za1 hc.1 Y;have G:GoodG C L pg (s.setGen g .running):=⟨H.old,H.inv,R.2.ns,exI8 pd xx ad ln ts _ ls pv ⟨Y.st,O.small⟩⟩;refine ZcT (C:=C) hA (C.lim _ H.inv) R.2.gen R.2.look (R.2.goes _ G) fun v s₁ gs' hb hY=>?_;have hval:=hY.1 _ _ _ _ _ _ _ _ Y.st;have hi:i≤8:=Nat.le_of_ble_eq_true hc.2;have e10:10-i=(10-(i+1))+1:=(Nat.succ_sub (Nat.le_trans hi (by decide:8≤9))).trans (congrArg Nat.succ (Nat.succ_sub_succ 9 i).symm)
 have hkap:=hY.2.2;rw[e10]at hkap;have S:=Zhy PK H e1 he R.2 (Mv.mk' hY.2.1) hb hi (hkap (show 10-(i+1)≠0 from Nat.sub_ne_zero_of_lt (Nat.succ_lt_succ (Nat.lt_of_le_of_lt hi (by decide:8<9)))))
 have go:∀(w:V),k w (st.put r (.rooms q (i+1)))→VR ρ s₁.heap w v→Q v (s₁.setGen g gs'):=fun w hk' hr=>KK w _ ρ _ v hk' S.1 (S.2 _) (hr.mono (.refl _) (Ze.refl _)) rfl;rcases JR h with⟨hi0,hk⟩|⟨hi0,hk⟩
 ·have hi0:i=0:=Nat.eq_of_beq_eq_true hi0;rw[if_pos (show 10-i-1=9 by rw[hi0])]at hval
  refine hval.elim fun t e=>go _ hk ?_;rw[e,←Y.cur.wid.2];exact .int _ _ _ fun μ=>Zog Y.initb Y.cur.wid.1
 ·rw[if_neg (Zoe (Nat.ne_of_beq_eq_false hi0))]at hval;refine hval.elim fun t e=>go _ hk ?_;rw[e,Y.lead];exact .int _ _ _ fun μ=>Zof Y.leadb
end
end Mine
end
noncomputable section
open PySem PySem.W PyProof.Rows
namespace Mine
set_option backward.match.sparseCases true
section
variable{C:Ctx}{p:Params}
theorem ZnH(PK:PG (CC C) p):∀f,Zbb f=true→∃fa,MethOK (CC C) f fa:=by
 intro f hf;rcases Bool.or_eq_true_iff.mp hf with hf|h
 ·rcases Bool.or_eq_true_iff.mp hf with hf|h
  ·rcases Bool.or_eq_true_iff.mp hf with hf|h
   ·rcases Bool.or_eq_true_iff.mp hf with h|h
    ·exact Za.mp h▸⟨_,ZmE PK⟩
    ·exact Za.mp h▸⟨_,Zj4 PK⟩
   ·exact Za.mp h▸⟨_,ZmD PK⟩
  ·exact Za.mp h▸⟨_,ZmB PK⟩
 ·exact Za.mp h▸⟨_,ZmC PK⟩
end
end Mine
end
noncomputable section
open PySem PyProof.Rows
namespace Mine
set_option backward.match.sparseCases false
noncomputable def pick(ρ:Rho):List Nat→Rho
 | []=>[]
 |i::r=>match ρ[i]? with
  |some e=>e::pick ρ r
  |none=>pick ρ r
theorem Zcw{ρ:Rho}{rs:List Nat}:(∀i∈rs,∃e,ρ[i]? =some e)→(pick ρ rs).length=rs.length∧∀(j i:Nat),rs[j]? =some i→(pick ρ rs)[j]? =ρ[i]?:=by
 induction rs with
 |nil=>exact fun μ=>⟨rfl,fun j i h=>by exact nnO h⟩
 |cons i r ih=>
  intro h;refine Classical.byContradiction fun hnG=>?_;obtain⟨e,he⟩:=h i (.head _);obtain⟨h1,h2⟩:=ih fun j hj=>h j (.tail _ hj);refine hnG ?_;unfold pick;refine(he).symm▸?_;refine⟨congrArg Nat.succ h1,fun j k hk=>?_⟩;cases j with
  |zero=>exact he.symm.trans (congrArg (fun k=>ρ[k]?) (Option.some.inj hk))
  |succ j=>exact h2 j k hk
theorem Zfa{ρ:Rho}{e:Ent}{rs:List Nat}:e∈pick ρ rs→∃i∈rs,ρ[i]? =some e:=by
 induction rs with
 |nil=>exact fun h=>nomatch h
 |cons i r ih=>
  intro h;have up:e∈pick ρ r→∃k∈i::r,ρ[k]? =some e:=fun h=>let ⟨k,hk,q⟩:=ih h;⟨k, .tail _ hk,q⟩
  unfold pick at h;cases he:ρ[i]? with
  |some e'=>
   rw[he]at h;rcases List.mem_cons.mp h with rfl|h
   ·exact⟨i, .head _,he⟩
   ·exact up h
  |none=>rw[he]at h;exact up h
theorem Z6{ρ:Rho}{rs:List Nat}{a:Addr}(h:a∈foot (pick ρ rs)):∃i∈rs,∃e,ρ[i]? =some e∧a∈e.as:=by
 refine Classical.byContradiction fun hnG=>?_;obtain⟨e,he,ha⟩:=List.mem_flatMap.mp h;obtain⟨i,hi,q⟩:=Zfa he;refine hnG ?_;exact⟨i,hi,e,q,ha⟩
theorem ZiH{ρ:Rho}(h:(foot ρ).Nodup){i:Nat}{e:Ent}(he:ρ[i]? =some e):e.as.Nodup:=by
 induction ρ generalizing i with
 |nil=>simp at he
 |cons x r ih=>
  have h':(x.as++foot r).Nodup:=h;rw[List.nodup_append]at h';cases i with
  |zero=>simp at he;subst he;exact h'.1
  |succ i=>simp at he;exact ih h'.2.1 he
theorem Zf8{ρ:Rho}(h:(foot ρ).Nodup){rs:List Nat}:rs.Nodup→(foot (pick ρ rs)).Nodup:=by
 induction rs with
 |nil=>exact fun μ=>List.nodup_nil
 |cons i r ih=>
  intro nd;rw[List.nodup_cons]at nd;unfold pick;cases he:ρ[i]? with
  |some e=>
   show(e.as++foot (pick ρ r)).Nodup;rw[List.nodup_append];refine⟨ZiH h he,ih nd.2,fun a ha b hb q=>?_⟩;subst q;obtain⟨k,hk,f,hf,hb'⟩:=Z6 hb;exact nd.1 (Ym h he hf ha hb'▸hk)
  |none=>exact ih nd.2
inductive Val(rs:List Nat):V→V→Prop
 |none:Val rs .none .none
 |bool (b:Bool):Val rs (.bool b) (.bool b)
 |int (x:Int) (b b':Nat):(b'≠0→b≠0∧b≤b')→Val rs (.int x b) (.int x b')
 |flt (x:UInt64):Val rs (.flt x) (.flt x)
 |str (s:Str) (b b':Nat):b≤b'→Val rs (.str s b) (.str s b')
 |ref (i j:Nat):rs[j]? =some i→Val rs (.ref i) (.ref j)
 |pair (x y:Int) (b b' c c':Nat):(b'≠0→b≠0∧b≤b')→(c'≠0→c≠0∧c≤c')→Val rs (.tup [.int x b, .int y c]) (.tup [.int x b', .int y c'])
inductive Vals(rs:List Nat):List V→List V→Prop
 |nil:Vals rs [] []
 |cons (v v':V) (l l':List V):Val rs v v'→Vals rs l l'→Vals rs (v::l) (v'::l')
section
variable{C:Ctx}{ρ:Rho}{st st0:St}{s s':Shared}{rs:List Nat}
theorem JQ(hin:∀i∈rs,∃e,ρ[i]? =some e){i j:Nat}(h:rs[j]? =some i):Zi (pick ρ rs) j=Zi ρ i:=by
 unfold Zi;rw[(Zcw hin).2 j i h]
theorem ZeV{ρ:Rho}{h:Heap}{x y:Int}{b c:Nat}{w:Value}(r:VR ρ h (.tup [.int x b, .int y c]) w):∃a t t',w= .ref a∧h.get? a=some (YE [.int x t, .int y t'])∧(b≠0→x.natAbs<b)∧(c≠0→y.natAbs<c):=by
 refine Classical.byContradiction fun hnG=>?_;obtain⟨a,xs,e,p,q⟩:=Zji r;obtain⟨x1,ys,e1,p1,s⟩:=Zq q;obtain⟨x2,zs,e2,p2,u⟩:=Zq s;obtain⟨t1,e3,q1⟩:=ZB p1;obtain⟨t2,e4,q2⟩:=ZB p2;rw[e1,e2,e3,e4,ZM u]at p;refine hnG ?_;exact⟨a,t1,t2,e,p,q1,q2⟩
theorem VR.pair{ρ:Rho}{h:Heap}{x y:Int}{b c:Nat}{a:Addr}{t t':Tok}(p:h.get? a=some (YE [.int x t, .int y t']))(hb:b≠0→x.natAbs<b)(hc:c≠0→y.natAbs<c):VR ρ h (.tup [.int x b, .int y c]) (.ref a):=
 .tup _ a _ p (.cons _ _ _ _ (.int _ _ t hb) (.cons _ _ _ _ (.int _ _ t' hc) .nil))
theorem up_lt{x:Int}{b b':Nat}(hb:b'≠0→b≠0∧b≤b')(p:b≠0→x.natAbs<b)(n:b'≠0):x.natAbs<b':=Nat.lt_of_lt_of_le (p (hb n).1) (hb n).2
theorem Val.to(hin:∀i∈rs,∃e,ρ[i]? =some e){h:Heap}{v v':V}(q:Val rs v v'){x:Value}(r:VR ρ h v x):VR (pick ρ rs) h v' x:=by
 cases q with
 |none=>exact Zbv r▸ .none
 |bool b=>exact Zbw r▸ .bool b
 |int y b b' hb=>
  obtain⟨t,e,p⟩:=ZB r;exact e▸ .int _ _ t (up_lt hb p)
 |flt y=>
  obtain⟨t,e⟩:=Ys r;exact e▸ .flt _ t
 |str s b b' hb=>
  obtain⟨t,e,p⟩:=Z4 r;exact e▸ .str _ _ t (Nat.le_trans p hb)
 |ref i j e=>
  obtain⟨a,e',p⟩:=Z9 r;exact e'▸ .ref _ a ((JQ hin e).trans p)
 |pair y z b b' c c' hb hc=>
  obtain⟨a,t,t',e,p,q1,q2⟩:=ZeV r;exact e▸ .pair p (up_lt hb q1) (up_lt hc q2)
theorem Vals.to(hin:∀i∈rs,∃e,ρ[i]? =some e){h:Heap}{l l':List V}(q:Vals rs l l'):∀{xs:List Value},VRs ρ h l xs→VRs (pick ρ rs) h l' xs:=by
 induction q with
 |nil=>exact fun r=>ZM r▸ .nil
 |cons v v' l l' q _ ih=>
  intro μ r;obtain⟨x,ys,e,p,r⟩:=Zq r;exact e▸ .cons _ _ _ _ (q.to hin p) (ih r)
structure Sub(st:St)(rs:List Nat)(st0:St):Prop where
 nd:rs.Nodup
 n:st0.n=rs.length
 own:∀(j:Nat) (o:AO),st0.σ.get j=some o→∃i l l',rs[j]? =some i∧st.σ.get i=some (.list l)∧o= .list l'∧Vals rs l l'
 all:∀(j i:Nat),rs[j]? =some i→∃l l',st.σ.get i=some (.list l)∧st0.σ.get j=some (.list l')∧Vals rs l l'
theorem Sub.ins(S:Sub st rs st0)(H:HI C ρ st s):∀i∈rs,∃e,ρ[i]? =some e:=fun i hi=>by
 refine Classical.byContradiction fun hnG=>?_;obtain⟨j,hj,e⟩:=List.mem_iff_getElem.mp hi;obtain⟨l,l',h1,_,_⟩:=S.all j i (by rw[List.getElem?_eq_getElem hj,e])
 obtain⟨en,he,_⟩:=H.sto i _ h1;refine hnG ?_;exact⟨en,he⟩
theorem ZaZ(H:HI C ρ st s)(S:Sub st rs st0):gfoot (pick ρ rs)=[]:=by
 unfold gfoot;rw[List.flatMap_eq_nil_iff];intro e he;obtain⟨i,hi,q⟩:=Zfa he;obtain⟨j,hj,e'⟩:=List.mem_iff_getElem.mp hi;obtain⟨l,l',h1,_,_⟩:=S.all j i (by rw[List.getElem?_eq_getElem hj,e'])
 obtain⟨en,hen,a,n,xs,rfl,_,_⟩:=H.sto i _ h1;rw[q]at hen;cases hen;rfl
theorem HI.sub(H:HI C ρ st s)(S:Sub st rs st0):HI C (pick ρ rs) st0 s where
 old:=H.old
 inv:=H.inv
 os:=H.os
 gens:=H.gens
 nod:=Zf8 H.nod S.nd
 lo:=fun a ha=>by obtain⟨i,_,e,he,q⟩:=Z6 ha;exact H.lo a (Zz he q)
 live:=fun a ha=>by obtain⟨i,_,e,he,q⟩:=Z6 ha;exact H.live a (Zz he q)
 gnod:=by refine(ZaZ H S).symm▸?_;exact List.nodup_nil
 ghi:=fun g hg=>by rw[ZaZ H S]at hg;cases hg
 len:=by rw[(Zcw (S.ins H)).1,S.n]
 dom:=fun j o e=>by
  refine Classical.byContradiction fun hnG=>?_;obtain⟨i,_,_,h,_⟩:=S.own j o e;refine hnG ?_;refine(S.n).symm▸?_;exact(List.getElem?_eq_some_iff.mp h).1
 sto:=fun j o e=>by
  refine Classical.byContradiction fun hnG=>?_;obtain⟨i,l,l',h,h1,rfl,q⟩:=S.own j o e;obtain⟨en,hen,a,n,xs,rfl,hl,r⟩:=H.sto i _ h1;refine hnG ?_;exact⟨_,by refine((Zcw (S.ins H)).2 j i h).symm▸?_;exact hen,a,n,xs,rfl,hl,q.to (S.ins H) r⟩
theorem Val.back(hin:∀i∈rs,∃e,ρ[i]? =some e){ρ':Rho}(hm:ZF (pick ρ rs) ρ'){h h':Heap}{v v':V}(q:Val rs v v'){x y:Value}(r:VR ρ h v x)(r':VR ρ' h' v' y):VR ρ h' v y:=by
 cases q with
 |none=>exact Zbv r'▸ .none
 |bool b=>exact Zbw r'▸ .bool b
 |int z b b' hb=>
  obtain⟨t,e,_⟩:=ZB r';exact e▸ .int _ _ t (ZB r).choose_spec.2
 |flt z=>
  obtain⟨t,e⟩:=Ys r';exact e▸ .flt _ t
 |str s b b' hb=>
  obtain⟨t,e,_⟩:=Z4 r';exact e▸ .str _ _ t (Z4 r).choose_spec.2
 |ref i j e=>
  obtain⟨a,_,p⟩:=Z9 r;obtain⟨a',e',p'⟩:=Z9 r';have:=hm j a ((JQ hin e).trans p);exact e'▸ .ref _ a' (p.trans (this.symm.trans p'))
 |pair z w b b' c c' hb hc=>
  obtain⟨_,_,_,_,_,q1,q2⟩:=ZeV r;obtain⟨a,t,t',e,p,_⟩:=ZeV r';exact e▸ .pair p q1 q2
theorem Vals.back(hin:∀i∈rs,∃e,ρ[i]? =some e){ρ':Rho}(hm:ZF (pick ρ rs) ρ'){h h':Heap}{l l':List V}(q:Vals rs l l'):∀{xs ys:List Value},VRs ρ h l xs→VRs ρ' h' l' ys→VRs ρ h' l ys:=by
 induction q with
 |nil=>exact fun μ r=>ZM r▸ .nil
 |cons v v' l l' q _ ih=>
  intro μ μ r r';obtain⟨_,_,_,p,r⟩:=Zq r;obtain⟨_,_,e,p',r'⟩:=Zq r';exact e▸ .cons _ _ _ _ (q.back hin hm p p') (ih r r')
theorem HI.back{ρ':Rho}{st':St}(H:HI C ρ st s)(S:Sub st rs st0)(X:Ext C nox (pick ρ rs) s ρ' s')(H':HI C ρ' st' s')(same:∀j,j<rs.length→st'.σ.get j=st0.σ.get j):
  HI C ρ st s'∧Ext C nox ρ s ρ s':=by
 have hin:=S.ins H;have hg:=ZaZ H S;have out:∀{i:Nat} {e:Ent} {a:Addr},ρ[i]? =some e→a∈e.as→i∉rs→a∉foot (pick ρ rs):=fun he ha hi q=>by
  obtain⟨k,hk,f,hf,hb⟩:=Z6 q;exact hi (Ym H.nod he hf ha hb▸hk)
 have live:∀a o,s.heap.get? a=some o→Live s'.heap a:=fun a o e=>X.live a o e id;have gk:∀g gs,s.gens[g]? =some gs→s'.gens[g]? =some gs:=fun g gs e=>X.gkept g gs e (by refine(hg).symm▸?_;exact List.not_mem_nil)
 refine⟨⟨H'.old,H'.inv,H'.os,H'.gens,H.nod,H.lo,fun a ha=>let ⟨o,e⟩:=H.live a ha;live a o e,H.gnod,fun g h=>Nat.lt_of_lt_of_le (H.ghi g h) X.gsize,H.len,H.dom,fun i o e=>?_⟩,
  ⟨.refl _,fun μ h=> .inl h,fun a o e hb hf μ=>X.kept a o e hb (fun q=>by obtain⟨k,_,f,hf',hb'⟩:=Z6 q;exact hf (Zz hf' hb')) id,X.tup,fun a o e μ=>live a o e,fun μ h=> .inl h,fun g gs e μ=>gk g gs e,X.gsize⟩⟩
 refine Classical.byContradiction fun hnG=>?_;obtain⟨en,he,r⟩:=H.sto i o e;refine hnG ?_;refine⟨en,he,?_⟩;by_cases hi:i∈rs
 ·obtain⟨j,hj,ej⟩:=List.mem_iff_getElem.mp hi;refine Classical.byContradiction fun hnG=>?_;have ej':rs[j]? =some i:=by rw[List.getElem?_eq_getElem hj,ej]
  obtain⟨l,l',h1,h2,q⟩:=S.all j i ej';rw[h1]at e;cases e;obtain⟨a,n,xs,rfl,hl,rr⟩:=r;obtain⟨en',he',a',n',ys,rfl,hl',rr'⟩:=H'.sto j _ ((same j hj).trans h2);have m1:Zi ρ' j=some a:=X.main j a (by refine(JQ hin ej').symm▸?_;unfold Zi;refine(he).symm▸?_;rfl)
  have m2:Zi ρ' j=some a':=by unfold Zi;refine(he').symm▸?_;rfl
  rw[m1]at m2;cases m2;refine hnG ?_;exact⟨a,n',ys,rfl,hl',q.back hin X.main rr rr'⟩
 ·exact r.step (.refl _) (fun a o ha e=>X.kept a o e (H.lo a (Zz he ha)) (out he ha hi) id) X.tup fun g gs μ e=>gk g gs e
theorem HI.adopt(H:HI C ρ st s){vs:List V}{xs:List Value}{a:Addr}{n:Nat}(ha:a∉foot ρ)(hlo:C.base.objs.size≤a)(hl:s.heap.get? a=some (Zb xs n))(r:VRs ρ s.heap vs xs):
  HI C (ρ++[⟨[a],[]⟩]) (st.new (.list vs)) s:=by
 have hmain:=ZS (ρ:=ρ) ⟨[a],[]⟩;have hget:∀j,(st.new (.list vs)).σ.get j=if j=st.n then some (.list vs)else st.σ.get j:=fun j=>Tr.get_put _ _ _ _ _ (Nat.lt_succ_self _)
 refine⟨H.old,H.inv,H.os,H.gens,?_,?_,?_,?_,?_,?_,?_,?_⟩
 ·rw[Zs,List.nodup_append];refine⟨H.nod,by simp,fun x hx y hy=>?_⟩
  simp at hy;subst hy
  rintro rfl
  exact ha hx
 ·intro x hx;rw[Zs,List.mem_append]at hx;rcases hx with hx|hx
  ·exact H.lo x hx
  ·simp at hx;subst hx;exact hlo
 ·intro x hx;rw[Zs,List.mem_append]at hx;rcases hx with hx|hx
  ·exact H.live x hx
  ·simp at hx;subst hx;exact⟨_,hl⟩
 ·rw[ZD];simpa using H.gnod
 ·intro g hg;rw[ZD]at hg;exact H.ghi g (by simpa using hg)
 ·show(ρ++[_]).length=st.n+1;rw[List.length_append,H.len];rfl
 ·intro i o e;rw[hget]at e;show i<st.n+1;split at e
  ·lia
  ·exact Nat.lt_succ_of_lt (H.dom i o e)
 ·intro i o e;rw[hget]at e;split at e
  ·rename_i hi;subst hi;cases e;refine⟨⟨[a],[]⟩,?_,a,n,xs,rfl,hl,r.mono hmain (.refl _)⟩;rw[←H.len,List.getElem?_append_right (Nat.le_refl _)];simp
  ·obtain⟨en,he,r'⟩:=H.sto i o e;refine⟨en,?_,r'.step hmain (fun μ μ μ e=>e) (.refl _) fun μ μ μ e=>e⟩;rw[List.getElem?_append_left (List.getElem?_eq_some_iff.mp he).1];exact he
end
noncomputable def flatV:V→Bool
 | .ref _=>false
 | .tup _=>false
 |_=>true
noncomputable def flatL:List V→Bool
 | []=>true
 |v::r=>flatV v&&flatL r
theorem ZeG{ρ ρ':Rho}{h h':Heap}{v:V}{x:Value}(f:flatV v=true)(r:VR ρ h v x):VR ρ' h' v x:=by
 cases r with
 |none=>exact .none
 |bool b=>exact .bool b
 |int i b t p=>exact .int i b t p
 |flt x t=>exact .flt x t
 |str s b t p=>exact .str s b t p
 |tup vs a xs p q=>exact ftB f
 |ref i a p=>exact ftB f
theorem Zfv{ρ ρ':Rho}{h h':Heap}{l:List V}{xs:List Value}(r:VRs ρ h l xs):flatL l=true→VRs ρ' h' l xs:=
 VRs.ind (P:=fun l xs=>flatL l=true→VRs ρ' h' l xs) (fun μ=> .nil) (fun v vs x xs p μ ih f=> .cons _ _ _ _ (ZeG (Bool.and_eq_true_iff.mp f).1 p) (ih (Bool.and_eq_true_iff.mp f).2)) r
theorem ZkB{ρ ρ':Rho}{h:Heap}{l:List V}{x:Value}(f:flatL l=true)(r:VR ρ h (.tup l) x):VR ρ' h (.tup l) x:=
 let ⟨a,xs,e,p,q⟩:=Zji r
 e▸ .tup _ a xs p (Zfv q f)
inductive Wk:V→V→Prop
 |refl (v:V):Wk v v
 |int (x:Int) (b b':Nat):(b'≠0→x.natAbs<b')→Wk (.int x b) (.int x b')
inductive Wks:List V→List V→Prop
 |nil:Wks [] []
 |cons (v v':V) (l l':List V):Wk v v'→Wks l l'→Wks (v::l) (v'::l')
theorem Wks.refl(l:List V):Wks l l:=by
 induction l with
 |nil=>exact .nil
 |cons v l ih=>exact .cons _ _ _ _ (.refl v) ih
theorem wk_vr{ρ:Rho}{h:Heap}{v v':V}{x:Value}(w:Wk v v')(r:VR ρ h v x):VR ρ h v' x:=by
 cases w with
 |refl=>exact r
 |int i b b' p=>
  obtain⟨t,e,_⟩:=ZB r;exact e▸ .int _ _ t p
theorem ZnK{ρ:Rho}{h:Heap}{l l':List V}(w:Wks l l'):∀{xs:List Value},VRs ρ h l xs→VRs ρ h l' xs:=by
 induction w with
 |nil=>exact fun r=>r
 |cons v v' l l' w _ ih=>
  intro xs r;obtain⟨x,ys,e,p,q⟩:=Zq r;exact e▸ .cons _ _ _ _ (wk_vr w p) (ih q)
noncomputable def Out(n0:Nat)(k:KE)(st:St)(v:V)(σ:Tr AO):Prop:=
 (flatV v=true∧k v st)∨(∃l,v= .tup l∧flatL l=true∧k v st)∨
 (∃n l l',v= .ref n∧n0≤n∧σ.get n=some (.list l)∧flatL l=true∧Wks l l'∧k (.ref st.n) (st.new (.list l')))∨
 ∃a n l,v= .tup [a, .ref n]∧n0≤n∧σ.get n=some (.list l)∧flatV a=true∧flatL l=true∧k (.tup [a, .ref st.n]) (st.new (.list l))
noncomputable def contF(K1:V→Nat→Tr AO→Prop):KS:=fun fl st'=>Zk (outOf fl) 61 fun v=>K1 v st'.n st'.σ
noncomputable def Zbx(rec:Rec)(d:FnDef)(n0:Nat)(st0:St)(vs0:List V)(st:St)(k:KE):Prop:=
 ∃mm,zipS (Zc d.params) vs0=some mm∧rec.ss d.scope.names d.body {st0 with m:=mm} (contF fun v μ σ=>(∀j,j<n0→σ.get j=st0.σ.get j)∧Out n0 k st v σ)
theorem ZfQ{C:Ctx}{ρ ρ':Rho}{st st0 st':St}{s s':Shared}{rs:List Nat}(H:HI C ρ st s)(S:Sub st rs st0)(X:Ext C nox (pick ρ rs) s ρ' s')(H':HI C ρ' st' s')(same:∀j,j<rs.length→st'.σ.get j=st0.σ.get j)
  {n:Nat}{l l2:List V}(hn:rs.length≤n)(hg:st'.σ.get n=some (.list l))(fl:flatL l=true)(wk:Wks l l2){b:Addr}(hb':Zi ρ' n=some b):
  HI C (ρ++[⟨[b],[]⟩]) (st.new (.list l2)) s'∧Ext C nox ρ s (ρ++[⟨[b],[]⟩]) s'∧VR (ρ++[⟨[b],[]⟩]) s'.heap (.ref st.n) (.ref b):=by
 refine Classical.byContradiction fun hnG=>?_;obtain⟨H1,X1⟩:=H.back S X H' same;have hin:=S.ins H;obtain⟨en,hen,b',n',ys,rfl,hl,rr⟩:=H'.sto n _ hg;have eb:b=b':=by unfold Zi at hb';rw[hen]at hb';exact(Option.some.inj hb').symm
 subst eb;have hbρ:b∈foot ρ':=Zz hen (.head _);have out:b∉foot ρ:=fun hq=>by
  rcases X.fresh b hbρ with h|h|h
  ·obtain⟨i,hi,e,he,hbe⟩:=Z6 h;obtain⟨j,hj,ej⟩:=List.mem_iff_getElem.mp hi;have ej':rs[j]? =some i:=by rw[List.getElem?_eq_getElem hj,ej]
   obtain⟨l1,l2,h1,h2,_⟩:=S.all j i ej';obtain⟨en1,hen1,a1,_,_,rfl,_,_⟩:=H.sto i _ h1;rw[he]at hen1;cases hen1;have ea:b=a1:=by simpa using hbe
   subst ea;obtain⟨en2,hen2,a2,_,_,rfl,_,_⟩:=H'.sto j _ ((same j hj).trans h2);have m1:Zi ρ' j=some b:=X.main j b (by rw[JQ hin ej'];unfold Zi;rw[he];rfl)
   have m2:Zi ρ' j=some a2:=by unfold Zi;rw[hen2];rfl
   rw[m1]at m2;cases m2;have:=Ym H'.nod hen hen2 (a:=b) (.head _) (.head _);subst this;exact absurd hn (Nat.not_le.mpr hj)
  ·obtain⟨o,e⟩:=H.live b hq;rw[h]at e;exact nnO e
  ·exact h.elim
 refine hnG ?_;refine⟨H1.adopt out (H'.lo b hbρ) hl (ZnK wk (Zfv rr fl)),⟨ZS _,fun y hy=>?_,X1.kept,X1.tup,X1.live,fun g hg'=>?_,X1.gkept,X1.gsize⟩,VR.newList H1 b _⟩
 ·rw[Zs,List.mem_append]at hy;rcases hy with hy|hy
  ·exact .inl hy
  ·simp at hy;subst hy;rcases X.fresh y hbρ with h|h|h
   ·exfalso;refine Classical.byContradiction fun hnG=>?_;obtain⟨i,_,e,he,hbe⟩:=Z6 h;refine hnG ?_;exact out (Zz he hbe)
   ·exact .inr (.inl h)
   ·exact h.elim
 ·rw[ZD]at hg';exact .inl (by simpa using hg')
theorem ZeK{C:Ctx}{f:Str}{d:FnDef}{a:Addr}{fd:FuncData}(T:FnAt C f d a fd)(m:Nat)(hok:okFn d=true){c:Con}
  (hc:∀{vs:List V} {st:St} {k:KE},c vs st k→∃rec,Snd C rec m∧∃rs st0 vs0,Sub st rs st0∧Vals rs vs vs0∧Zbx rec d rs.length st0 vs0 st k):ConOK C f (m+1) c (.ref a) where
 glob:=T.glob
 keep:=fun {A E} s hO hI=>by
  refine Classical.byContradiction fun hnG=>?_;obtain⟨o,ho,hd⟩:=T.obj _ hO hI;exact hnG (ZZ ho hd)
 call:=fun {A ρ st s vs xs k Q E} hb H r hA K=>by
  refine Classical.byContradiction fun hnG=>?_;obtain⟨rec,SN,rs,st0,vs0,S,q,mm,hz,hrun⟩:=hc hb;refine hnG ?_;refine Zca (k:=fun v st'=>(∀j,j<rs.length→st'.σ.get j=st0.σ.get j)∧Out rs.length k st v st'.σ) SN T hz hok hrun (H.sub S) (q.to (S.ins H) r) hA fun v st' ρ' s' x hk H' X rv μ=>?_;refine Classical.byContradiction fun hnG=>?_;obtain⟨same,ho⟩:=hk;obtain⟨H1,X1⟩:=H.back S X H' same;rcases ho with⟨fv,hk⟩|⟨l,e,fl,hk⟩|⟨n,l,l2,e,hn,hg,fl,wk,hk⟩|⟨y,n,l,e,hn,hg,fy,fl,hk⟩
  ·exact hnG (K _ _ _ _ _ hk H1 X1 (ZeG fv rv) rfl)
  ·subst e;exact hnG (K _ _ _ _ _ hk H1 X1 (ZkB fl rv) rfl)
  ·subst e;obtain⟨b,e,hb'⟩:=Z9 rv;obtain⟨H2,X2,r2⟩:=ZfQ H S X H' same hn hg fl wk hb';exact hnG (e▸K _ _ _ _ _ hk H2 X2 r2 rfl)
  ·subst e;obtain⟨c,zs,e,hc,q⟩:=Zji rv;obtain⟨z1,ys,e1,p1,q1⟩:=Zq q;obtain⟨z2,ws,e2,p2,q2⟩:=Zq q1;obtain⟨b,e3,hb'⟩:=Z9 p2;obtain⟨H2,X2,r2⟩:=ZfQ H S X H' same hn hg fl (.refl _) hb';rw[e1,e2,e3,ZM q2]at hc;exact hnG (e▸K _ _ _ _ _ hk H2 X2 (.tup _ c _ hc (.cons _ _ _ _ (ZeG fy p1) (.cons _ _ _ _ r2 .nil))) rfl)
theorem ZiN{C:Ctx}{f:Str}{d:FnDef}{a:Addr}{fd:FuncData}(T:FnAt C f d a fd)(m:Nat)(hok:okFn d=true){c:Con}
  (hc:∀{vs:List V} {st:St} {k:KE},c vs st k→∃g,GOK C g∧∃rs st0 vs0,Sub st rs st0∧Vals rs vs vs0∧Zbx (ev g m) d rs.length st0 vs0 st k):ConOK C f (m+1) c (.ref a):=
 ZeK T m hok fun h=>by
  refine Classical.byContradiction fun hnG=>?_;obtain⟨g,GK,r⟩:=hc h;refine hnG ?_;exact⟨ev g m,Zb2 GK m,r⟩
theorem ZfE{C:Ctx}{g:G}{f:Str}{d:FnDef}{a:Addr}{fd:FuncData}(T:FnAt C f d a fd)(GK:GOK C g)(m:Nat)(hok:okFn d=true){c:Con}
  (hc:∀{vs:List V} {st:St} {k:KE},c vs st k→∃rs st0 vs0,Sub st rs st0∧Vals rs vs vs0∧Zbx (ev g m) d rs.length st0 vs0 st k):ConOK C f (m+1) c (.ref a):=
 ZiN T m hok fun h=>⟨g,GK,hc h⟩
theorem Zdu{α:Type}{P:List α→Prop}(h0:P [])(h1:∀l x,P l→P (l++[x]))(l:List α):P l:=by
 have:∀l:List α,P l.reverse:=fun l=>by
  induction l with
  |nil=>exact h0
  |cons x r ih=>rw[List.reverse_cons];exact h1 _ _ ih
 have q:=this l.reverse;rwa[List.reverse_reverse]at q
noncomputable def stF(objs:List (List V)):St:=objs.foldl (fun st vs=>st.new (.list vs)) ⟨[],0, .nil⟩
theorem Ze2(l:List (List V))(x:List V):stF (l++[x])=(stF l).new (.list x):=by
 unfold stF;rw[List.foldl_append];rfl
theorem stF_n(objs:List (List V)):(stF objs).n=objs.length:=by
 refine Zdu (P:=fun objs=>(stF objs).n=objs.length) rfl (fun l x ih=>?_) objs;rw[Ze2];show(stF l).n+1=_;rw[ih];simp
theorem ZaR(objs:List (List V))(j:Nat):(stF objs).σ.get j=(objs[j]?).map AO.list:=by
 refine Zdu (P:=fun objs=>(stF objs).σ.get j=(objs[j]?).map AO.list) (by rfl) (fun l x ih=>?_) objs
 ·rw[Ze2];have:((stF l).new (.list x)).σ.get j=if j=(stF l).n then some (.list x)else(stF l).σ.get j:=Tr.get_put _ _ _ _ _ (Nat.lt_succ_self _)
  rw[this,stF_n,ih];split
  ·rename_i h;subst h;simp
  ·rename_i h;by_cases q:j<l.length
   ·rw[List.getElem?_append_left q]
   ·have h1:l[j]? =none:=List.getElem?_eq_none_iff.mpr (by lia)
    have h2:(l++[x])[j]? =none:=List.getElem?_eq_none_iff.mpr (by simp;lia)
    rw[h1,h2]
inductive SubL(st:St)(full:List Nat):List Nat→List (List V)→Prop
 |nil:SubL st full [] []
 |cons (i:Nat) (rs:List Nat) (l l':List V) (objs:List (List V)):st.σ.get i=some (.list l)→Vals full l l'→SubL st full rs objs→SubL st full (i::rs) (l'::objs)
theorem SubL.len{st:St}{full rs:List Nat}{objs:List (List V)}(S:SubL st full rs objs):rs.length=objs.length:=by
 induction S with
 |nil=>rfl
 |cons _ _ _ _ _ _ _ _ ih=>exact congrArg Nat.succ ih
theorem SubL.at{st:St}{full rs:List Nat}{objs:List (List V)}(S:SubL st full rs objs):∀{j i:Nat},rs[j]? =some i→∃l l',st.σ.get i=some (.list l)∧objs[j]? =some l'∧Vals full l l':=by
 induction S with
 |nil=>exact fun h=>by exact nnO h
 |cons i0 rs l l' objs h1 h2 r ih=>
  intro j i h;cases j with
  |zero=>exact⟨l,l',Option.some.inj h▸h1,rfl,h2⟩
  |succ j=>exact ih (j:=j) h
theorem SubL.sub{st:St}{rs:List Nat}{objs:List (List V)}(S:SubL st rs rs objs)(nd:rs.Nodup):Sub st rs (stF objs) where
 nd:=nd
 n:=by rw[stF_n,S.len]
 own:=fun j o e=>by
  rw[ZaR]at e;cases h:objs[j]? with
  |none=>rw[h]at e;exact nnO e
  |some l'=>
   refine Classical.byContradiction fun hnG=>?_;rw[h]at e;cases e;have hj:j<rs.length:=by rw[S.len];exact(List.getElem?_eq_some_iff.mp h).1
   obtain⟨l,l2,q1,q2,q3⟩:=S.at (List.getElem?_eq_getElem hj);rw[h]at q2;cases q2;refine hnG ?_;exact⟨_,l,_,List.getElem?_eq_getElem hj,q1,rfl,q3⟩
 all:=fun j i e=>by
  refine Classical.byContradiction fun hnG=>?_;obtain⟨l,l',q1,q2,q3⟩:=S.at e;refine hnG ?_;exact⟨l,l',q1,by rw[ZaR,q2];rfl,q3⟩
section
variable{rec:Rec}{d:FnDef}{objs extra:List (List V)}{vs0:List V}{st:St}{k:KE}{v:V}{mm:List (Str×V)}{n:Nat}{l l':List V}{y:V}
theorem Zcn(hz:zipS (Zc d.params) vs0=some mm)(hr:∀K1:V→Nat→Tr AO→Prop,K1 v (stF (objs++extra)).n (stF (objs++extra)).σ→rec.ss d.scope.names d.body {stF objs with m:=mm} (contF K1))
  (ho:Out objs.length k st v (stF (objs++extra)).σ):Zbx rec d objs.length (stF objs) vs0 st k:=
 ⟨mm,hz,hr _ ⟨fun j hj=>by rw[ZaR,ZaR,List.getElem?_append_left hj],ho⟩⟩
theorem ZbK(hz:zipS (Zc d.params) vs0=some mm)(hr:∀K1:V→Nat→Tr AO→Prop,K1 v (stF (objs++extra)).n (stF (objs++extra)).σ→rec.ss d.scope.names d.body {stF objs with m:=mm} (contF K1))
  (hv:flatV v=true)(hk:k v st):Zbx rec d objs.length (stF objs) vs0 st k:=Zcn hz hr (.inl ⟨hv,hk⟩)
theorem Zir(hn:objs.length≤n)(he:extra[n-objs.length]? =some l):(stF (objs++extra)).σ.get n=some (.list l):=by
 rw[ZaR,List.getElem?_append_right hn,he];rfl
theorem ZaS(hz:zipS (Zc d.params) vs0=some mm)(hr:∀K1:V→Nat→Tr AO→Prop,K1 (.ref n) (stF (objs++extra)).n (stF (objs++extra)).σ→rec.ss d.scope.names d.body {stF objs with m:=mm} (contF K1))
  (hn:objs.length≤n)(he:extra[n-objs.length]? =some l)(hv:flatL l=true)(wk:Wks l l')(hk:k (.ref st.n) (st.new (.list l'))):Zbx rec d objs.length (stF objs) vs0 st k:=
 Zcn hz hr (.inr (.inr (.inl ⟨n,l,l',rfl,hn,Zir hn he,hv,wk,hk⟩)))
theorem Zc5(hz:zipS (Zc d.params) vs0=some mm)(hr:∀K1:V→Nat→Tr AO→Prop,K1 (.tup l) (stF (objs++extra)).n (stF (objs++extra)).σ→rec.ss d.scope.names d.body {stF objs with m:=mm} (contF K1))
  (hv:flatL l=true)(hk:k (.tup l) st):Zbx rec d objs.length (stF objs) vs0 st k:=Zcn hz hr (.inr (.inl ⟨l,rfl,hv,hk⟩))
end
section
variable{α:Type}{P:List α→Prop}{n m:Nat}{l:List α}
theorem vl0(e:l.length=n)(hn:n=0)(h:P []):P l:=by
 cases l with
 |nil=>exact h
 |cons _ _=>exact absurd (e.trans hn) (Nat.succ_ne_zero _)
theorem vlS(e:l.length=n)(hn:n=m+1)(h:∀a r,r.length=m→P (a::r)):P l:=by
 cases l with
 |nil=>exact absurd (e.trans hn).symm (Nat.succ_ne_zero _)
 |cons a r=>exact h a r (Nat.succ.inj (e.trans hn))
theorem vl1(hn:n=1)(h:∀a,P [a])(l:List α)(e:l.length=n):P l:=vlS e hn fun a r e=>vl0 (P:=fun r=>P (a::r)) e rfl (h a)
theorem vl2(hn:n=2)(h:∀a b,P [a,b])(l:List α)(e:l.length=n):P l:=vlS e hn fun a=>vl1 (P:=fun r=>P (a::r)) rfl (h a)
theorem vl3(hn:n=3)(h:∀a b c,P [a,b,c])(l:List α)(e:l.length=n):P l:=vlS e hn fun a=>vl2 (P:=fun r=>P (a::r)) rfl (h a)
theorem vl4(hn:n=4)(h:∀a b c d,P [a,b,c,d])(l:List α)(e:l.length=n):P l:=vlS e hn fun a=>vl3 (P:=fun r=>P (a::r)) rfl (h a)
theorem vl5(hn:n=5)(h:∀a b c d e,P [a,b,c,d,e])(l:List α)(e:l.length=n):P l:=vlS e hn fun a=>vl4 (P:=fun r=>P (a::r)) rfl (h a)
end
theorem SubL.app{st:St}{full rs qs:List Nat}{A B:List (List V)}(S:SubL st full rs A)(T:SubL st full qs B):SubL st full (rs++qs) (A++B):=by
 induction S with
 |nil=>exact T
 |cons i0 rs l l' objs h1 h2 r ih=>exact .cons _ _ _ _ _ h1 h2 ih
end Mine
end
noncomputable section
open PySem
namespace Mine
set_option backward.match.sparseCases false
theorem ZlJ(g:G)(n:Nat):evF g n=ev g n:=rfl

noncomputable def Ziw(f:Str):List Stmt→Option FnDef
 | []=>none
 | .FunctionDef n a b _ _ _ sc _ _ _::r=>match strEq n f with
  |true=>some ⟨a,b,sc⟩
  |false=>Ziw f r
 |_::r=>Ziw f r
noncomputable def g0:G:={fn:=fun f=>Ziw f PySem.Challenge.pw_xr0023_01.main.body,con:=fun μ=>none,cut:=fun μ=>none,need:=fun μ=>0}
noncomputable def gN:G:={fn:=fun μ=>none,con:=fun μ=>none,cut:=fun μ=>none,need:=fun μ=>0}
end Mine
end
noncomputable section
open PySem PyProof.Rows
namespace Mine
set_option backward.match.sparseCases false
noncomputable abbrev IB:=Int×Nat
noncomputable def atB:List IB→Nat→IB
 | [],_=>(0,1)
 |a::_,0=>a
 |_::r,n+1=>atB r n
noncomputable def ZiY(n:Nat):List Nat→List (Nat×Nat)
 | []=>[]
 |k::r=>match Nat.beq (n / 2 ^ k % 2) 1 with
  |true=>(k,n-2 ^ k)::ZiY n r
  |false=>ZiY n r
noncomputable def chOf(n:Nat):List (Nat×Nat):=ZiY n [4,3,2,1,0]
noncomputable def ZlM(row ms:List IB):List (Nat×Nat)→IB→IB→IB
 | [],tot,_=>tot
 |(k,r)::l,tot,s=>ZlM row ms l (tot.1+s.1*(atB row k).1*(atB ms r).1,addB tot.2 (mulB (mulB s.2 (atB row k).2) (atB ms r).2)) (-s.1,s.2)
noncomputable def rowB:List (List IB)→Nat→List IB
 | [],_=>[]
 |a::_,0=>a
 |_::r,n+1=>rowB r n
noncomputable def YW(rows:List (List IB)):Nat→List IB
 |0=>[(1,2)]
 |n+1=>YW rows n++[ZlM (rowB rows ((chOf (n+1)).length-1)) (YW rows n) (chOf (n+1)) (0,1) (1,2)]
noncomputable def ibV(x:IB):V:= .int x.1 x.2
noncomputable def listV:List IB→List V
 | []=>[]
 |a::r=>ibV a::listV r
noncomputable def chV:List (Nat×Nat)→List V
 | []=>[]
 |(k,n)::r=> .tup [.int k 1024, .int n 1024]::chV r
noncomputable def refsV:Nat→Nat→List V
 |_,0=>[]
 |i,n+1=> .ref i::refsV (i+1) n
noncomputable def bd:Nat:=1073741824
noncomputable def row5V(a b c d e:Int):List V:=[.int a bd, .int b bd, .int c bd, .int d bd, .int e bd]
noncomputable def row5B(a b c d e:Int):List IB:=[(a,bd),(b,bd),(c,bd),(d,bd),(e,bd)]
noncomputable def Zaf:Nat→Nat→List (List V)
 |_,0=>[]
 |i,n+1=>chV (chOf i)::Zaf (i+1) n
noncomputable def Znj(r0 r1 r2 r3 r4:List V):List (List V):=[refsV 2 5,refsV 7 32,r0,r1,r2,r3,r4]++Zaf 0 32
noncomputable def dDet:FnDef:=((g0.fn "_law_det").getD ⟨⟨[],[],none,[],[],none,[]⟩,[],⟨.function,[],false,false,[]⟩⟩)
noncomputable abbrev gD:G:=gN
noncomputable def Zad(a:Nat→Nat→Int):List (List IB):=[row5B (a 0 0) (a 0 1) (a 0 2) (a 0 3) (a 0 4),row5B (a 1 0) (a 1 1) (a 1 2) (a 1 3) (a 1 4),row5B (a 2 0) (a 2 1) (a 2 2) (a 2 3) (a 2 4),row5B (a 3 0) (a 3 1) (a 3 2) (a 3 3) (a 3 4),row5B (a 4 0) (a 4 1) (a 4 2) (a 4 3) (a 4 4)]
noncomputable def detO(a:Nat→Nat→Int):List (List V):=Znj (row5V (a 0 0) (a 0 1) (a 0 2) (a 0 3) (a 0 4)) (row5V (a 1 0) (a 1 1) (a 1 2) (a 1 3) (a 1 4)) (row5V (a 2 0) (a 2 1) (a 2 2) (a 2 3) (a 2 4)) (row5V (a 3 0) (a 3 1) (a 3 2) (a 3 3) (a 3 4)) (row5V (a 4 0) (a 4 1) (a 4 2) (a 4 3) (a 4 4))
theorem Zni(a:Nat→Nat→Int)(K1:V→Nat→Tr AO→Prop):((evF gD 200).ss dDet.scope.names dDet.body {stF (detO a)with m:=[("rows", .ref 0),("choices", .ref 1)]} (contF K1))
  =K1 (ibV (atB (YW (Zad a) 31) 31)) (stF (detO a++[listV (YW (Zad a) 31),refsV 8 31])).n (stF (detO a++[listV (YW (Zad a) 31),refsV 8 31])).σ:=by
 kernel_rfl
noncomputable def refOO{α:Type}(v:V)(k:Nat→Option α):Option α:=match v with
 | .ref i=>k i
 |_=>none
theorem ZjL{α:Type}{v:V}{k:Nat→Option α}{a:α}(h:refOO v k=some a):∃i,v= .ref i∧k i=some a:=by
 cases v with
 |ref i=>exact⟨i,rfl,h⟩
 |_=>exact nnO h
noncomputable def tupOO{α:Type}(v:V)(k:List V→Option α):Option α:=match v with
 | .tup l=>k l
 |_=>none
theorem Zjp{α:Type}{v:V}{k:List V→Option α}{a:α}(h:tupOO v k=some a):∃l,v= .tup l∧k l=some a:=by
 cases v with
 |tup l=>exact⟨l,rfl,h⟩
 |_=>exact nnO h
noncomputable def mapO{α β:Type}(f:α→Option β)(l:List α):Option (List β):=List.rec (motive:=fun μ=>Option (List β)) (some []) (fun v μ ih=>(f v).bind fun x=>ih.bind fun r=>some (x::r)) l
theorem ZcC{α β:Type}{f:α→Option β}{P:List α→List β→Prop}(h0:P [] [])(hc:∀v x l r,f v=some x→P l r→P (v::l) (x::r)){l:List α}:∀{r:List β},mapO f l=some r→P l r:=by
 induction l with
 |nil=>exact fun h=>Option.some.inj h▸h0
 |cons v l ih=>
  intro r h;refine Classical.byContradiction fun hnG=>?_;obtain⟨x,h1,h2⟩:=Option.bind_eq_some_iff.mp (show(f v).bind _=_ from h);obtain⟨b,h3,h4⟩:=Option.bind_eq_some_iff.mp h2;exact hnG (Option.some.inj h4▸hc v x l b h1 (ih h3))
noncomputable def ZhC(l:List V):Option (List Nat):=mapO (fun v=>refOO v some) l
noncomputable def incr:List Nat→Bool
 | []=>true
 | [_]=>true
 |a::b::r=>Nat.blt a b&&incr (b::r)
noncomputable def intsU(lid:Nat)(l:List V):Option (List Int):=mapO (fun v=>intOO v fun x p=>gdO (under p lid) (some x)) l
noncomputable def at5(l:List Int)(j:Nat):Int:=l.getD j 0
noncomputable def rowOf(l:List V):Option (List Int):=(intsU bd l).bind fun a=>gdO (Nat.beq a.length 5) (some a)
noncomputable def Zln(st:St)(rs:List Nat):Option (List (List Int)):=mapO (fun i=>(st.items i).bind rowOf) rs
noncomputable def eqP(q:Nat×Nat)(v:V):Option Unit:=tupOO v fun l=>(intsU 1024 l).bind fun a=>gdO (decide (a=[(q.1:Int),(q.2:Int)])) (some ())
noncomputable def eqCh:List V→List (Nat×Nat)→Option Unit
 | [],t=>match t with
  | []=>some ()
  |_::_=>none
 |v::r,t=>match t with
  | []=>none
  |q::t=>(eqP q v).bind fun μ=>eqCh r t
noncomputable def chOK(st:St):Nat→List Nat→Option Unit
 |_,[]=>some ()
 |n,q::r=>(st.items q).bind fun l=>(eqCh l (chOf n)).bind fun μ=>chOK st (n+1) r
noncomputable def matN(as:List (List Int))(i j:Nat):Int:=at5 (as.getD i []) j
noncomputable def ZfG:Con:=fun vs st k=>Zaw vs 330 fun v w=>Z2 v 330 fun r=>Z2 w 330 fun q=>Zk ((st.items r).bind ZhC) 329 fun rs=>Zk ((st.items q).bind ZhC) 329 fun qs=>
 gd ((incr (r::rs++q::qs) || incr (q::qs++r::rs))&&Nat.beq qs.length 32) 328 (Zk (chOK st 0 qs) 328 fun μ=>Zk (Zln st rs) 326 fun as=>gd (Nat.beq as.length 5) 327 (k (ibV (atB (YW (Zad (matN as)) 31) 31)) st))
theorem ZaX{l:List V}{rs:List Nat}:ZhC l=some rs→l=rs.map V.ref:=
 ZcC (P:=fun l rs=>l=rs.map V.ref) rfl fun v x l r h ih=>by
  obtain⟨i,e,h⟩:=ZjL h;rw[ih,e,Option.some.inj h];rfl
theorem Zm4{l:List Nat}:incr l=true→l.Pairwise (· < ·):=by
 induction l with
 |nil=>exact fun μ=> .nil
 |cons a l ih=>
  intro h;cases l with
  |nil=>exact List.pairwise_singleton _ _
  |cons b r=>
   have h:=Bool.and_eq_true_iff.mp h;have ih:=ih h.2;have hab:a<b:=Nat.le_of_ble_eq_true h.1;refine List.pairwise_cons.mpr ⟨fun x hx=>?_,ih⟩;rcases List.mem_cons.mp hx with e|hx
   ·exact e▸hab
   ·exact Nat.lt_trans hab ((List.pairwise_cons.mp ih).1 x hx)
theorem ZbW{l:List Nat}(h:incr l=true):l.Nodup:=(Zm4 h).imp fun h=>Nat.ne_of_lt h
theorem Zdf(full:List Nat){rs:List Nat}:∀(i:Nat),(∀t,t<rs.length→full[i+t]? =rs[t]?)→Vals full (rs.map V.ref) (refsV i rs.length):=by
 induction rs with
 |nil=>exact fun μ μ=> .nil
 |cons r rs ih=>
  intro i h;exact .cons _ _ _ _ (.ref r i (h 0 (Nat.succ_pos _))) (ih (i+1) fun t ht=>by rw[Nat.add_right_comm];exact h (t+1) (Nat.succ_lt_succ ht))
theorem Ze0{p lid:Nat}(h:under p lid=true)(_:lid≠0):p≠0∧p≤lid:=by
 have h:=Bool.and_eq_true_iff.mp h;refine⟨fun e=>?_,Nat.le_of_ble_eq_true h.2⟩;rw[e]at h;exact ftB h.1
theorem J9(full:List Nat){lid:Nat}{l:List V}{a:List Int}:intsU lid l=some a→Vals full l (a.map fun x=> .int x lid):=
 ZcC (P:=fun l a=>Vals full l (a.map fun x=>V.int x lid)) .nil fun v x l r h ih=>by
  obtain⟨y,p,e,h1⟩:=Zft h;rw[e,←Option.some.inj (Y9 h1).2];exact .cons _ _ _ _ (.int _ _ _ (Ze0 (Y9 h1).1)) ih
theorem Zd7{full:List Nat}{l ws:List V}{w:V}(h:Vals full l (w::ws)):∃v r,l=v::r∧Val full v w∧Vals full r ws:=by
 cases h with|cons v _ r _ p q=>exact⟨v,r,rfl,p,q⟩
theorem Zjh{full:List Nat}{v:V}{x:Int}{c:Nat}(h:Val full v (.int x c)):∃b,v= .int x b∧(c≠0→b≠0∧b≤c):=by
 cases h with|int _ b _ h=>exact⟨b,rfl,h⟩
theorem ZjR{full:List Nat}{l:List V}{x y:Int}{c d:Nat}(h:Vals full l [.int x c, .int y d]):Val full (.tup l) (.tup [.int x c, .int y d]):=by
 refine Classical.byContradiction fun hnG=>?_;obtain⟨v,r,e1,p,h⟩:=Zd7 h;obtain⟨w,s,e2,q,h⟩:=Zd7 h;obtain⟨b,e3,hb⟩:=Zjh p;obtain⟨b',e4,hc⟩:=Zjh q;have e5:s=[]:=by cases h;rfl
 rw[e1,e2,e3,e4,e5]at hnG;exact hnG (.pair _ _ _ _ _ _ hb hc)
noncomputable def rowM(a:List Int):List V:=row5V (at5 a 0) (at5 a 1) (at5 a 2) (at5 a 3) (at5 a 4)
theorem Zf5{st:St}(full:List Nat){rs:List Nat}{as:List (List Int)}:Zln st rs=some as→SubL st full rs (as.map rowM):=
 ZcC (P:=fun rs as=>SubL st full rs (as.map rowM)) .nil fun i a rs as h ih=>by
  refine Classical.byContradiction fun hnG=>?_;obtain⟨l,e,h⟩:=Option.bind_eq_some_iff.mp h;obtain⟨b,e1,h⟩:=Option.bind_eq_some_iff.mp h;have hl:=Nat.eq_of_beq_eq_true (Y9 h).1;have hv:Vals full l (rowM b):=vl5 (P:=fun b=>Vals full l (b.map fun x=>V.int x bd)→Vals full l (rowM b)) rfl (fun μ μ μ μ μ h=>h) b hl (J9 full e1);exact hnG (.cons _ _ _ _ _ (Ye e) (Option.some.inj (Y9 h).2▸hv) ih)
theorem Zo6{full:List Nat}{v:V}{q:Nat×Nat}{u:Unit}(h:eqP q v=some u):∃w,chV [q]=[w]∧Val full v w:=by
 refine Classical.byContradiction fun hnG=>?_;obtain⟨l,e,h⟩:=Zjp h;obtain⟨a,e1,h⟩:=Option.bind_eq_some_iff.mp h;have ea:=of_decide_eq_true (Y9 h).1;have hv:=J9 full e1;rw[ea]at hv;exact hnG ⟨_,rfl,e▸ZjR hv⟩
theorem Zno(full:List Nat){l:List V}:∀{t:List (Nat×Nat)} {u:Unit},eqCh l t=some u→Vals full l (chV t):=by
 induction l with
 |nil=>
  intro t u h;cases t with
  |nil=>exact .nil
  |cons _ _=>exact nnO h
 |cons v l ih=>
  intro t u h;cases t with
  |nil=>exact nnO h
  |cons q t=>
   refine Classical.byContradiction fun hnG=>?_;obtain⟨_,e,h⟩:=Option.bind_eq_some_iff.mp (show(eqP q v).bind _=_ from h);obtain⟨w,e1,r⟩:=Zo6 (full:=full) e;have e2:chV (q::t)=w::chV t:=congrArg (· ++chV t) e1;exact hnG (e2▸ .cons _ _ _ _ r (ih h))
theorem ZkP{st:St}(full:List Nat){qs:List Nat}:∀(n:Nat) {u:Unit},chOK st n qs=some u→SubL st full qs (Zaf n qs.length):=by
 induction qs with
 |nil=>exact fun μ μ μ=> .nil
 |cons q r ih=>
  intro n u h;refine Classical.byContradiction fun hnG=>?_;obtain⟨l,e,h⟩:=Option.bind_eq_some_iff.mp (show(st.items q).bind _=_ from h);obtain⟨_,h1,h⟩:=Option.bind_eq_some_iff.mp h;exact hnG (.cons _ _ _ _ _ (Ye e) (Zno full h1) (ih (n+1) h))
theorem ZhH{r q:Nat}{rs qs:List Nat}(h:(incr (r::rs++q::qs) || incr (q::qs++r::rs))=true):(r::q::(rs++qs)).Nodup:=by
 rcases Bool.or_eq_true_iff.mp h with hi|hi
 ·exact(List.Perm.cons r List.perm_middle).nodup_iff.mp (ZbW hi)
 ·exact((List.Perm.cons q List.perm_middle).trans ((List.Perm.swap r q _).trans (List.Perm.cons r (List.Perm.cons q List.perm_append_comm)))).nodup_iff.mp (ZbW hi)
theorem at_rs{r q:Nat}{rs qs:List Nat}{t:Nat}(h:t<rs.length):(r::q::(rs++qs))[2+t]? =rs[t]?:=by
 rw[Nat.add_comm];exact List.getElem?_append_left h
theorem at_qs{r q:Nat}{rs qs:List Nat}{t:Nat}(h:rs.length=5):(r::q::(rs++qs))[7+t]? =qs[t]?:=by
 rw[Nat.add_comm];refine(List.getElem?_append_right (h▸Nat.le_add_left 5 t)).trans ?_;rw[h,Nat.add_sub_cancel]
theorem ZiK{C:Ctx}{a:Addr}{fd:FuncData}(T:FnAt C "_law_det" dDet a fd)(GK:GOK C gD)(hok:okFn dDet=true)(hp:Zc dDet.params=[("rows":Str),("choices":Str)]):ConOK C "_law_det" 201 ZfG (.ref a):=by
 refine ZfE T GK 200 hok fun {vs st k} h=>?_;refine Classical.byContradiction fun hnG=>?_;obtain⟨_,_,e0,h⟩:=JZ h;obtain⟨r,e1,h⟩:=YJ h;obtain⟨q,e2,h⟩:=YJ h;rw[e0,e1,e2]at hnG;obtain⟨rs,e3,h⟩:=Zd h;obtain⟨qs,e4,h⟩:=Zd h;obtain⟨hc,h⟩:=gd_of h;obtain⟨_,hch,h⟩:=Zd h;obtain⟨as,has,h⟩:=Zd h;obtain⟨ha,h⟩:=gd_of h;have hc:=Bool.and_eq_true_iff.mp hc;have hlen:=Nat.eq_of_beq_eq_true hc.2;have ha:=Nat.eq_of_beq_eq_true ha;obtain⟨lr,i1,i2⟩:=Option.bind_eq_some_iff.mp e3;obtain⟨lq,j1,j2⟩:=Option.bind_eq_some_iff.mp e4;have i2:=ZaX i2;have j2:=ZaX j2;have hR:=Zf5 (r::q::(rs++qs)) has;have hrs:rs.length=5:=hR.len.trans ((List.length_map ..).trans ha);have hR:=vl5 (P:=fun as=>SubL st (r::q::(rs++qs)) rs (as.map rowM)→SubL st (r::q::(rs++qs)) rs [rowM (as.getD 0 []),rowM (as.getD 1 []),rowM (as.getD 2 []),rowM (as.getD 3 []),rowM (as.getD 4 [])]) rfl (fun μ μ μ μ μ h=>h) as ha hR;have hq:=ZkP (r::q::(rs++qs)) 0 hch;have hrv:=Zdf (r::q::(rs++qs)) 2 fun t ht=>at_rs (qs:=qs) ht;have hqv:=Zdf (r::q::(rs++qs)) 7 fun t μ=>at_qs (rs:=rs) (qs:=qs) hrs;rw[hlen]at hq hqv;rw[hrs]at hrv;have S:SubL st (r::q::(rs++qs)) (r::q::(rs++qs)) (detO (matN as)):= .cons _ _ _ _ _ (Ye i1) (i2▸hrv) (.cons _ _ _ _ _ (Ye j1) (j2▸hqv) (hR.app hq));refine hnG ⟨_,stF (detO (matN as)),[.ref 0, .ref 1],S.sub (ZhH hc.1), .cons _ _ _ _ (.ref _ 0 rfl) (.cons _ _ _ _ (.ref _ 1 rfl) .nil),?_⟩;rw[S.len];exact ZbK (extra:=[listV (YW (Zad (matN as)) 31),refsV 8 31]) (v:=ibV (atB (YW (Zad (matN as)) 31) 31)) (mm:=[("rows", .ref 0),("choices", .ref 1)]) (by rw[hp];rfl) (fun K1=>(Zni (matN as) K1).mpr) rfl h
end Mine
end
noncomputable section
open PySem
namespace Mine
set_option backward.match.sparseCases false
section
set_option exponentiation.threshold 3000
noncomputable def yF(r g b:UInt64):UInt64:=Float64.add (Float64.add (Float64.mul 0x3fd3333333333333 r) (Float64.mul 0x3fe2e147ae147ae1 g)) (Float64.mul 0x3fbc28f5c28f5c29 b)
noncomputable def iF(y r b:UInt64):UInt64:=Float64.sub (Float64.mul 0x3fe7ae147ae147ae (Float64.sub r y)) (Float64.mul 0x3fd147ae147ae148 (Float64.sub b y))
noncomputable def qF(y r b:UInt64):UInt64:=Float64.add (Float64.mul 0x3fdeb851eb851eb8 (Float64.sub r y)) (Float64.mul 0x3fda3d70a3d70a3d (Float64.sub b y))
noncomputable def rF(y i q:UInt64):UInt64:=Float64.add (Float64.add y (Float64.mul 0x3fee4cdbef721b32 i)) (Float64.mul 0x3fe3f42ceedac0be q)
noncomputable def gF(y i q:UInt64):UInt64:=Float64.sub (Float64.sub y (Float64.mul 0x3fd1961eec8cbb3a i)) (Float64.mul 0x3fe45794d16efff3 q)
noncomputable def bF(y i q:UInt64):UInt64:=Float64.add (Float64.sub y (Float64.mul 0x3ff1bc99b7dee436 i)) (Float64.mul 0x3ffb5817a6224a7f q)
noncomputable def sel(b:Bool)(c x:UInt64):UInt64:=match b with
 |true=>c
 |false=>x
noncomputable def isLo(x:UInt64):Bool:=Float64.cmp x 0x0000000000000000==some Ordering.lt
noncomputable def isHi(x:UInt64):Bool:=Float64.cmp x 0x3ff0000000000000==some Ordering.gt
noncomputable def clip(x:UInt64):UInt64:=sel (isHi (sel (isLo x) 0x0000000000000000 x)) 0x3ff0000000000000 (sel (isLo x) 0x0000000000000000 x)
noncomputable def lumaZ(a b c:Int):Int:=30*a+59*b+11*c
noncomputable def warmZ(a b c:Int):Int:=74*(100*a-lumaZ a b c)-27*(100*c-lumaZ a b c)
noncomputable def tintZ(a b c:Int):Int:=48*(100*a-lumaZ a b c)+41*(100*c-lumaZ a b c)
noncomputable def UN:Nat:=2 ^ 1040
noncomputable def U:Int:=UN
theorem Zph:0<UN:=Nat.two_pow_pos _
theorem U_pos:0<U:=Int.ofNat_lt.mpr Zph
theorem N88:(2:Nat) ^ 1093=2 ^ 53*UN:=by decide+kernel
theorem S_eq:(2:Int) ^ 1074=2 ^ 34*U:=by decide+kernel
noncomputable def Fi(x:UInt64):Prop:=∃a m e,Float64.decode x= .fin a m e
open Float64 in
theorem near(w K:Nat)(hK:52≤K)(h:w<2 ^ (K+1)):∃t,Float64.V t≤w∧w<Float64.V t+2 ^ (K-52):=by
 by_cases h3:w<2 ^ 53
 ·refine⟨w,?_⟩;have:=V_at (k:=0) (q:=w) (Nat.le_of_succ_le ‹_›) (Or.inr rfl);simp at this;refine(this).symm▸?_;exact⟨Nat.le_refl _,Nat.lt_add_of_pos_right (Nat.two_pow_pos _)⟩
 ·have hw:w≠0:=by omega
  have l1:53≤w.log2:=(Nat.le_log2 hw).2 (by omega)
  have l2:w.log2<K+1:=(Nat.log2_lt hw).2 h;have a1:2 ^ w.log2≤w:=Nat.log2_self_le hw;have a2:w<2 ^ (w.log2+1):=Nat.lt_log2_self;have e1:2 ^ w.log2=2 ^ 52*2 ^ (w.log2-52):=by rw[←Nat.pow_add];congr 1;omega
  have e2:2 ^ (w.log2+1)=2 ^ 53*2 ^ (w.log2-52):=by rw[←Nat.pow_add];congr 1;omega
  have kp:0<2 ^ (w.log2-52):=Nat.two_pow_pos _;have q1:2 ^ 52≤w / 2 ^ (w.log2-52):=(Nat.le_div_iff_mul_le kp).2 (by omega)
  have q2:w / 2 ^ (w.log2-52)<2 ^ 53:=(Nat.div_lt_iff_lt_mul kp).2 (by omega)
  refine⟨(w.log2-52)*2 ^ 52+w / 2 ^ (w.log2-52),?_⟩;refine(V_at (Nat.le_of_succ_le ‹_›) (Or.inl q1)).symm▸?_;have d:=Nat.div_add_mod w (2 ^ (w.log2-52));rw[Nat.mul_comm]at d;have m:=Nat.mod_lt w kp;have le:2 ^ (w.log2-52)≤2 ^ (K-52):=Nat.pow_le_pow_right (by decide) (by omega)
  omega
open Float64 in
theorem Right.err{r:UInt64}{neg:Bool}{W D:Nat}(R:Right r neg W D)(hD:0<D)(h:W<D*(2 ^ 53*UN)):∃t,r=pack neg t∧t<infMag∧dist W (D*Float64.V t)≤D*UN:=by
 obtain⟨t,h1,h2,h3,h4⟩:=R;have ht:t<infMag:=by
  refine Nat.lt_of_le_of_ne h2 fun e=>?_;have:=h3.mp e;have h5:=Nat.le_trans this (Nat.mul_le_mul_left 2 (Nat.le_of_lt h));rw[Nat.mul_left_comm 2 D]at h5;have:=Nat.le_of_mul_le_mul_left h5 hD;exact absurd this (by decide+kernel)
 refine⟨t,h1,ht,?_⟩;have hw:W / D<2 ^ (1092+1):=(Nat.div_lt_iff_lt_mul hD).2 (by rw[Nat.mul_comm];rw[←N88]at h;exact h)
 obtain⟨t',n1,n2⟩:=near (W / D) 1092 (by decide) hw
 refine Nat.le_trans (h4 ht t').1 ?_;have d:=Nat.div_add_mod W D;have m:=Nat.mod_lt W hD;have m1:D*Float64.V t'≤D*(W / D):=Nat.mul_le_mul_left D n1;have m2:D*(W / D+1)≤D*(Float64.V t'+2 ^ (1092-52)):=Nat.mul_le_mul_left D n2;rw[Nat.mul_add,Nat.mul_add,Nat.mul_one]at m2;unfold dist;have:(2:Nat) ^ (1092-52)=UN:=rfl;rw[this]at m2;generalize D*UN=X at*
 clear h n1 n2 hw this
 omega
open Float64 in
theorem ZeW(neg:Bool){t:Nat}(h:t<infMag):Fi (pack neg t):=by
 obtain⟨m,e,hd,_⟩:=decode_pack neg h;exact⟨_,_,_,hd⟩
open Float64 in
theorem Right.err'{r:UInt64}{neg:Bool}{W D:Nat}(R:Right r neg W D)(hD:0<D)(h:W<D*(2 ^ 53*UN)):Fi r∧(sgn neg W)-D*U≤val r*D∧val r*D≤sgn neg W+D*U:=by
 obtain⟨t,h1,h2,h3⟩:=Right.err R hD h;subst h1;refine⟨ZeW neg h2,?_⟩;refine(val_pack neg h2).symm▸?_;have hU:((D*UN:Nat):Int)=D*U:=by rw[Int.natCast_mul];rfl
 refine(hU)▸?_;generalize D*UN=X at*;rw[Int.mul_comm];have hv:(D:Int)*sgn neg (Float64.V t)=sgn neg (D*Float64.V t):=by cases neg<;>simp[sgn,Int.mul_neg]
 refine(hv).symm▸?_;generalize D*Float64.V t=Y at*;unfold dist at h3;cases neg
 ·dsimp only[sgn];constructor<;>simp<;>lia
 ·dsimp only[sgn];constructor<;>simp<;>lia
open Float64 in
theorem ZlR{x y:UInt64}(hx:Fi x)(hy:Fi y)(h1: -(2 ^ 53*U)<val x+val y)(h2:val x+val y<2 ^ 53*U):
  Fi (add x y)∧val x+val y-U≤val (add x y)∧val (add x y)≤val x+val y+U:=by
 obtain⟨a,m,e,hx⟩:=hx;obtain⟨b,k,f,hy⟩:=hy;obtain⟨q1,q2⟩:=add_right hx hy;have hU:=U_pos;by_cases hz:val x+val y=0
 ·rw[q1 hz,hz];have:zero (a&&b)=pack (a&&b) 0:=rfl;refine(this).symm▸?_;refine⟨ZeW _ (by decide+kernel),?_⟩
  rw[val_pack _ (by decide+kernel),V_zero]
  have:sgn (a&&b) 0=0:=by cases (a&&b)<;>rfl
  refine(this).symm▸?_
  lia
 ·have hK:(2 ^ 1093:Nat)=(2 ^ 53*U):=by decide+kernel
  have hlt:(val x+val y).natAbs<1*2 ^ 1093:=by lia
  obtain⟨r1,r2,r3⟩:=Right.err' (q2 hz) (by decide) hlt
  refine⟨r1,?_⟩;have hs:sgn (decide (val x+val y<0)) (val x+val y).natAbs=val x+val y:=by
   unfold sgn;by_cases hn:val x+val y<0
   ·refine(decide_eq_true hn).symm▸?_;simp;lia
   ·refine(decide_eq_false hn).symm▸?_;simp;lia
  rw[hs]at r2 r3;simp at r2 r3
  lia
open Float64 in
theorem Zoz{x y:UInt64}(hx:Fi x)(hy:Fi y)(h:(val x).natAbs*(val y).natAbs<2 ^ 1074*(2 ^ 53*UN)):
  Fi (mul x y)∧val x*val y-2 ^ 1074*U≤val (mul x y)*2 ^ 1074∧val (mul x y)*2 ^ 1074≤val x*val y+2 ^ 1074*U:=by
 obtain⟨a,m,e,hx⟩:=hx;obtain⟨b,k,f,hy⟩:=hy;obtain⟨r1,r2,r3⟩:=Right.err' (mul_right hx hy) (Nat.two_pow_pos _) h;refine⟨r1,?_⟩;have hs:sgn (a !=b) ((val x).natAbs*(val y).natAbs)=val x*val y:=by
  rw[val_natAbs hx,val_natAbs hy,val_eq hx,val_eq hy];cases a<;>cases b<;>simp[sgn,Int.mul_neg,Int.neg_mul]
 rw[hs]at r2 r3;have:((2 ^ 1074:Nat):Int)=2 ^ 1074:=by decide+kernel
 rw[this]at r2 r3;exact⟨r2,r3⟩
open Float64 in
theorem Zmz{c x:UInt64}{C:Int}{P:Int}(hc:Fi c)(hv:val c*P=C*2 ^ 1074)(hP:0<P)(hx:Fi x)(h1: -(P*2 ^ 53*U)<C*val x)(h2:C*val x<P*2 ^ 53*U):
  Fi (mul c x)∧C*val x-P*U≤val (mul c x)*P∧val (mul c x)*P≤C*val x+P*U:=by
 have e:val c*val x*P=C*val x*2 ^ 1074:=by
  rw[Int.mul_right_comm,hv,Int.mul_right_comm]
 have hS:(0:Int)<2 ^ 1074:=by decide+kernel
 have a1:val c*val x<2 ^ 1074*(2 ^ 53*U):=by
  refine Int.lt_of_mul_lt_mul_right (a:=P) ?_ (Int.le_of_lt hP);refine(e).symm▸?_;have:=Int.mul_lt_mul_of_pos_right h2 hS;refine Int.lt_of_lt_of_le this (Int.le_of_eq ?_)
  ac_rfl
 have a2: -(2 ^ 1074*(2 ^ 53*U))<val c*val x:=by
  refine Int.lt_of_mul_lt_mul_right (a:=P) ?_ (Int.le_of_lt hP);refine(e).symm▸?_;have:=Int.mul_lt_mul_of_pos_right h1 hS;refine Int.lt_of_le_of_lt (Int.le_of_eq ?_) this;rw[Int.neg_mul,Int.neg_mul];congr 1
  ac_rfl
 have hab:(val c).natAbs*(val x).natAbs<2 ^ 1074*(2 ^ 53*UN):=by
  rw[←Int.natAbs_mul];have:((2 ^ 1074*(2 ^ 53*UN):Nat):Int)=2 ^ 1074*(2 ^ 53*U):=by
   rw[Int.natCast_mul,Int.natCast_mul];rfl
  generalize 2 ^ 1074*(2 ^ 53*UN)=X at*;generalize (2 ^ 1074*(2 ^ 53*U):Int)=Y at*
  clear e hv h1 h2 hS
  omega
 obtain⟨r1,r2,r3⟩:=Zoz hc hx hab;refine⟨r1,?_,?_⟩
 ·refine Int.le_of_mul_le_mul_right (a:=2 ^ 1074) ?_ hS;have:=Int.mul_le_mul_of_nonneg_right r2 (Int.le_of_lt hP);rw[Int.sub_mul,e]at this;rw[Int.sub_mul,Int.mul_right_comm (val (mul c x))];refine Int.le_trans (Int.le_of_eq ?_) this;congr 1
  ac_rfl
 ·refine Int.le_of_mul_le_mul_right (a:=2 ^ 1074) ?_ hS;have:=Int.mul_le_mul_of_nonneg_right r3 (Int.le_of_lt hP);rw[Int.add_mul,e]at this;rw[Int.add_mul,Int.mul_right_comm (val (mul c x))];refine Int.le_trans this (Int.le_of_eq ?_);congr 1
  ac_rfl
open Float64 in
theorem ZjW{n:Int}(h1: -(2 ^ 19)<n)(h2:n<2 ^ 19):Fi (ofInt n)∧n*(2 ^ 34*U)-U≤val (ofInt n)∧val (ofInt n)≤n*(2 ^ 34*U)+U:=by
 have hlt:n.natAbs*2 ^ 1074<1*(2 ^ 53*UN):=by
  have:n.natAbs<2 ^ 19:=by lia
  have q:1*(2 ^ 53*UN)=2 ^ 19*2 ^ 1074:=by decide+kernel
  rw[q];exact Nat.mul_lt_mul_of_pos_right this (Nat.two_pow_pos _)
 obtain⟨r1,r2,r3⟩:=Right.err' (ofInt_right n) (by decide) hlt
 refine⟨r1,?_⟩;have hs:sgn (decide (n<0)) (n.natAbs*2 ^ 1074)=n*(2 ^ 34*U):=by
  rw[sgn_mul,←S_eq];have:((2 ^ 1074:Nat):Int)=2 ^ 1074:=by decide+kernel
  refine(this).symm▸?_;congr 1;unfold sgn;by_cases hn:n<0
  ·refine(decide_eq_true hn).symm▸?_;simp;lia
  ·refine(decide_eq_false hn).symm▸?_;simp;lia
 rw[hs]at r2 r3;simp only[Int.natCast_one,Int.one_mul,Int.mul_one]at r2 r3;exact⟨r2,r3⟩
open Float64 in
theorem sub_le{x y:UInt64}(hx:Fi x)(hy:Fi y)(h1: -(2 ^ 53*U)<val x-val y)(h2:val x-val y<2 ^ 53*U):
  Fi (sub x y)∧val x-val y-U≤val (sub x y)∧val (sub x y)≤val x-val y+U:=by
 obtain⟨b,k,f,hy'⟩:=hy;have hv:=neg_val hy';have:=ZlR hx ⟨_,_,_,neg_decode hy'⟩ (by lia) (by lia)
 rw[hv]at this
 skip
 have e:val x+ -val y=val x-val y:=rfl;rw[e]at this
 delta Float64.sub
 exact this
open Float64 in
theorem ZnD{x:UInt64}(hx:Fi x):Fi (Float64.abs x)∧val (Float64.abs x)=(val x).natAbs:=by
 obtain⟨a,m,e,hd⟩:=hx;have hn:isNaN x=false:=by unfold isNaN;rw[hd]
 have hl:=PySem.W.mag_le hn;have hlt:x.toNat % 2 ^ 63<infMag:=by
  refine Nat.lt_of_le_of_ne hl fun h=>?_;have hi:infMag=2047*2 ^ 52:=rfl;unfold decode at hd;have h1:x.toNat / 2 ^ 52 % 2048=2047:=by lia
  have h2:x.toNat % 2 ^ 52=0:=by lia
  rw[h1,h2]at hd;simp at hd
 have ha:Float64.abs x=pack false (x.toNat % 2 ^ 63):=by unfold Float64.abs;rw[hn];rfl
 rw[ha];refine⟨ZeW _ hlt,?_⟩;rw[val_pack _ hlt,val_natAbs hd];have hx:x=pack (decide (x.toNat / 2 ^ 63=1)) (x.toNat % 2 ^ 63):=by
  apply UInt64.toNat_inj.mp;rw[pack_toNat _ (Nat.mod_lt _ (by decide))]
  have:=x.toNat_lt;by_cases h:x.toNat / 2 ^ 63=1
  ·rw[decide_eq_true h];simp;lia
  ·rw[decide_eq_false h];simp;lia
 have:sgn (decide (x.toNat / 2 ^ 63=1)) (Float64.V (x.toNat % 2 ^ 63))=val x:=by
  rw[←val_pack _ hlt,←hx]
 have:=congrArg Int.natAbs this;rw[sgn_natAbs,val_natAbs hd]at this;rw[this]
 rfl
open Float64 in
theorem Zjr{x:UInt64}{a:Bool}{m:Nat}{e:Int}(hd:decode x= .fin a m e){n:Int}(hn:0≤n)(h0:0<val x)(h1:n*2 ^ 1074≤val x)(h2:val x<(n+1)*2 ^ 1074):truncOf a m e=n:=by
 have he:=decode_ge hd;rw[val_eq hd]at h0 h1 h2;cases a
 ·delta truncOf floorOf
  simp only[sgn,Bool.false_eq_true, ↓reduceIte]at h0 h1 h2 ⊢;have hS:(0:Int)<2 ^ 1074:=by decide+kernel
  split
  ·rename_i hp;have e1:(e+1074).toNat=e.toNat+1074:=by lia
   rw[e1,Nat.pow_add,←Nat.mul_assoc,Int.natCast_mul,Int.natCast_mul]at h1 h2;have e2:((2 ^ 1074:Nat):Int)=2 ^ 1074:=by decide+kernel
   have e3:((2 ^ e.toNat:Nat):Int)=2 ^ e.toNat:=by rw[Int.natCast_pow];rfl
   rw[e2,e3]at h1 h2;have q1:=Int.le_of_mul_le_mul_right h1 hS;have q2:=Int.lt_of_mul_lt_mul_right h2 (Int.le_of_lt hS)
   lia
  ·rename_i hp;have e1:2 ^ 1074=2 ^ (e+1074).toNat*2 ^ (-e).toNat:=by rw[←Nat.pow_add];congr 1;lia
   have e2:((2 ^ 1074:Nat):Int)=2 ^ 1074:=by decide+kernel
   have e3:((2 ^ (-e).toNat:Nat):Int)=2 ^ (-e).toNat:=by rw[Int.natCast_pow];rfl
   rw[←e2,e1,Int.natCast_mul,Int.natCast_mul]at h1 h2;rw[e3]at h1 h2;have kp:(0:Int)<((2 ^ (e+1074).toNat:Nat):Int):=Int.ofNat_lt.mpr (Nat.two_pow_pos _);generalize ((2 ^ (e+1074).toNat:Nat):Int)=K at*;have p2:(0:Int)<2 ^ (-e).toNat:=by refine(e3)▸?_;exact Int.ofNat_lt.mpr (Nat.two_pow_pos _)
   generalize (2:Int) ^ (-e).toNat=P at*;have q1:n*P≤m:=by
    refine Int.le_of_mul_le_mul_right (a:=K) ?_ kp
    calc n*P*K=n*(K*P):=by ac_rfl
     _≤_:=h1
   have q2:(m:Int)<(n+1)*P:=by
    refine Int.lt_of_mul_lt_mul_right (a:=K) ?_ (Int.le_of_lt kp)
    calc (m:Int)*K<(n+1)*(K*P):=h2
     _=(n+1)*P*K:=by ac_rfl
   refine(Int.fdiv_eq_ediv_of_nonneg _ (Int.le_of_lt p2)).symm▸?_;have r1:=(Int.le_ediv_iff_mul_le p2).mpr q1;have r2:=(Int.ediv_lt_iff_lt_mul p2).mpr q2
   lia
 ·exfalso;have:sgn true (m*2 ^ (e+1074).toNat)= -((m*2 ^ (e+1074).toNat:Nat):Int):=rfl;rw[this]at h0
  clear h1 h2 this
  lia
end
end Mine
end
noncomputable section
open PySem PyProof.Rows
namespace Mine
set_option backward.match.sparseCases false
noncomputable def ownV(a b c:Int):List V:=[.int (lumaZ a b c) 801, .int (warmZ a b c) 161601, .int (tintZ a b c) 142401]
noncomputable def rowL3{α:Type}(lid:Nat)(l:List V)(k:Int→Int→Int→α):Option α:=(intsU lid l).bind fun a=>gdO (Nat.beq a.length 3) (some (k (at5 a 0) (at5 a 1) (at5 a 2)))
theorem Ze6{α:Type}{lid:Nat}{l:List V}{k:Int→Int→Int→α}{x:α}(full:List Nat)(h:rowL3 lid l k=some x):∃a b c,k a b c=x∧Vals full l [.int a lid, .int b lid, .int c lid]:=by
 refine Classical.byContradiction fun hnG=>?_;obtain⟨b,e1,h⟩:=Option.bind_eq_some_iff.mp h;have hv:=vl3 (P:=fun b=>Vals full l (b.map fun x=>V.int x lid)→Vals full l [.int (at5 b 0) lid, .int (at5 b 1) lid, .int (at5 b 2) lid]) rfl (fun μ μ μ h=>h) b (Nat.eq_of_beq_eq_true (Y9 h).1) (J9 full e1);exact hnG ⟨_,_,_,Option.some.inj (Y9 h).2,hv⟩
noncomputable def ZdZ:Con:=fun vs st k=>Z8 vs 320 fun v=>Z2 v 320 fun r=>Zk ((st.items r).bind fun l=>rowL3 9 l ownV) 319 fun l=>k (.ref st.n) (st.new (.list l))
noncomputable def fnOf(f:Str):FnDef:=((g0.fn f).getD ⟨⟨[],[],none,[],[],none,[]⟩,[],⟨.function,[],false,false,[]⟩⟩)
noncomputable def lev3(a b c:Int):List (List V):=[[.int a 9, .int b 9, .int c 9]]
theorem Zmt(a b c:Int)(K1:V→Nat→Tr AO→Prop):((evF gN 100).ss (fnOf "_law_own").scope.names (fnOf "_law_own").body {stF (lev3 a b c)with m:=[("levels", .ref 0)]} (contF K1))
  =K1 (.ref 1) (stF (lev3 a b c++[ownV a b c])).n (stF (lev3 a b c++[ownV a b c])).σ:=by
 kernel_rfl
theorem ZhK{C:Ctx}{a:Addr}{fd:FuncData}(T:FnAt C "_law_own" (fnOf "_law_own") a fd)(GK:GOK C gN)(hok:okFn (fnOf "_law_own")=true)(hp:Zc (fnOf "_law_own").params=[("levels":Str)]):ConOK C "_law_own" 101 ZdZ (.ref a):=by
 refine ZfE T GK 100 hok fun {vs st k} h=>?_;refine Classical.byContradiction fun hnG=>?_;obtain⟨_,rfl,h⟩:=Jm h;obtain⟨r,rfl,h⟩:=YJ h;obtain⟨_,e0,h⟩:=Zd h;obtain⟨l,e,e1⟩:=Option.bind_eq_some_iff.mp e0;obtain⟨x,y,z,rfl,vs⟩:=Ze6 [r] e1;have S:SubL st [r] [r] (lev3 x y z):= .cons _ _ _ _ _ (Ye e) vs .nil;refine hnG ?_;refine⟨[r],stF (lev3 x y z),[.ref 0],S.sub (by simp), .cons _ _ _ _ (.ref _ 0 rfl) .nil,?_⟩
 exact ZaS (objs:=lev3 x y z) (extra:=[ownV x y z]) (n:=1) (l:=ownV x y z) (mm:=[("levels", .ref 0)]) (by refine(hp).symm▸?_;rfl) (fun K1=>(Zmt x y z K1).mpr) (Nat.le_refl 1) rfl rfl (.refl _) h
end Mine
end
noncomputable section
open PySem PySem.W PyProof.Rows
namespace Mine
set_option backward.match.sparseCases true
section
theorem ZV{C:Ctx}{K:Frag}{T:List (Addr×Addr)}{f:Str}{d:FnDef}{a:Addr}{fd:FuncData}{oc:Value}{od:Option Addr}{osl:Array (Option Value)}(PK:PF C K T)(hg:C.mg f=some (.ref a))(h:K.lookup a=some ⟨oc,od, .func fd,osl⟩)
  (hb:fd.body= .stmts d.body)(hs:fd.scope=d.scope)(hc:fd.closure=[])(hgl:fd.globals=mainGlobals)(hbl:fd.builtins=builtinsNs)(hcode:codeIn K fd.code fd.qualname=true)
  (hbind:∀vals:List Value,vals.length=(Zc d.params).length→bindArgs fd ⟨vals,[]⟩=pure ((Zc d.params).zip vals)):FnAt C f d a fd where
 glob:=hg
 obj:=fun μ μ hi=>⟨_,inK PK hi _ _ h,rfl⟩
 body:=hb
 scope:=hs
 clo:=hc
 gl:=hgl
 bl:=hbl
 crec:=fun μ μ hi=>codeRec_of (inK PK hi) hcode
 bind:=hbind
variable{C:Ctx}{p:Params}
theorem y_own(PK:PG C p):∃fd,FnAt C "_law_own" (fnOf "_law_own") 274 fd:=
 ⟨_,ZV PK.pf (PK.cf.mg _ _ rfl) rfl (by kernel_rfl) (by kernel_rfl) rfl rfl rfl (by kernel_rfl) (vl1 (by kernel_rfl) fun μ=>rfl)⟩
theorem y_det(PK:PG C p):∃fd,FnAt C "_law_det" (fnOf "_law_det") 303 fd:=
 ⟨_,ZV PK.pf (PK.cf.mg _ _ rfl) rfl (by kernel_rfl) (by kernel_rfl) rfl rfl rfl (by kernel_rfl) (vl2 (by kernel_rfl) fun μ μ=>rfl)⟩
theorem y_yiq(PK:PG C p):∃fd,FnAt C "rgb_to_yiq" (fnOf "rgb_to_yiq") 71 fd:=
 ⟨_,ZV PK.pf (PK.cf.mg _ _ rfl) rfl (by kernel_rfl) (by kernel_rfl) rfl rfl rfl (by kernel_rfl) (vl3 (by kernel_rfl) fun μ μ μ=>rfl)⟩
theorem y_rgb(PK:PG C p):∃fd,FnAt C "yiq_to_rgb" (fnOf "yiq_to_rgb") 78 fd:=
 ⟨_,ZV PK.pf (PK.cf.mg _ _ rfl) rfl (by kernel_rfl) (by kernel_rfl) rfl rfl rfl (by kernel_rfl) (vl3 (by kernel_rfl) fun μ μ μ=>rfl)⟩
theorem y_dm(PK:PG C p):∃fd,FnAt C "domain_match" (fnOf "domain_match") 57 fd:=
 ⟨_,ZV PK.pf (PK.cf.mg _ _ rfl) rfl (by kernel_rfl) (by kernel_rfl) rfl rfl rfl (by kernel_rfl) (vl2 (by kernel_rfl) fun μ μ=>rfl)⟩
theorem ZlY(PK:PG C p):∃fd,FnAt C "reach" (fnOf "reach") 64 fd:=
 ⟨_,ZV PK.pf (PK.cf.mg _ _ rfl) rfl (by kernel_rfl) (by kernel_rfl) rfl rfl rfl (by kernel_rfl) (vl1 (by kernel_rfl) fun μ=>rfl)⟩
theorem y_loc(PK:PG C p):∃fd,FnAt C "_build_localename" (fnOf "_build_localename") 253 fd:=
 ⟨_,ZV PK.pf (PK.cf.mg _ _ rfl) rfl (by kernel_rfl) (by kernel_rfl) rfl rfl rfl (by kernel_rfl) (vl1 (by kernel_rfl) fun μ=>rfl)⟩
theorem y_row(PK:PG C p):∃fd,FnAt C "_law_row" (fnOf "_law_row") 291 fd:=
 ⟨_,ZV PK.pf (PK.cf.mg _ _ rfl) rfl (by kernel_rfl) (by kernel_rfl) rfl rfl rfl (by kernel_rfl) (vl4 (by kernel_rfl) fun μ μ μ μ=>rfl)⟩
theorem ZlZ(PK:PG C p):∃fd,FnAt C "_law_doors" (fnOf "_law_doors") 296 fd:=
 ⟨_,ZV PK.pf (PK.cf.mg _ _ rfl) rfl (by kernel_rfl) (by kernel_rfl) rfl rfl rfl (by kernel_rfl) (vl2 (by kernel_rfl) fun μ μ=>rfl)⟩
theorem y_way(PK:PG C p):∃fd,FnAt C "_law_way" (fnOf "_law_way") 286 fd:=
 ⟨_,ZV PK.pf (PK.cf.mg _ _ rfl) rfl (by kernel_rfl) (by kernel_rfl) rfl rfl rfl (by kernel_rfl) (vl2 (by kernel_rfl) fun μ μ=>rfl)⟩
theorem ZnG(PK:PG C p):∃fd,FnAt C "_law_told" (fnOf "_law_told") 279 fd:=
 ⟨_,ZV PK.pf (PK.cf.mg _ _ rfl) rfl (by kernel_rfl) (by kernel_rfl) rfl rfl rfl (by kernel_rfl) (vl2 (by kernel_rfl) fun μ μ=>rfl)⟩
theorem ZlX(PK:PG C p):∃fd,FnAt C "_law_sizes" (fnOf "_law_sizes") 267 fd:=
 ⟨_,ZV PK.pf (PK.cf.mg _ _ rfl) rfl (by kernel_rfl) (by kernel_rfl) rfl rfl rfl (by kernel_rfl) (vl1 (by kernel_rfl) fun μ=>rfl)⟩
theorem Zl0(PK:PG C p):∃fd,FnAt C "_law_cells" (fnOf "_law_cells") 260 fd:=
 ⟨_,ZV PK.pf (PK.cf.mg _ _ rfl) rfl (by kernel_rfl) (by kernel_rfl) rfl rfl rfl (by kernel_rfl) (vl1 (by kernel_rfl) fun μ=>rfl)⟩
theorem y_hdn(PK:PG C p):∃fd,FnAt C "is_HDN" (fnOf "is_HDN") 50 fd:=
 ⟨_,ZV PK.pf (PK.cf.mg _ _ rfl) rfl (by kernel_rfl) (by kernel_rfl) rfl rfl rfl (by kernel_rfl) (vl1 (by kernel_rfl) fun μ=>rfl)⟩
theorem y_law(PK:PG C p):∃fd,FnAt C "law" (fnOf "law") 308 fd:=
 ⟨_,ZV PK.pf (PK.cf.mg _ _ rfl) rfl (by kernel_rfl) (by kernel_rfl) rfl rfl rfl (by kernel_rfl) (vl1 (by kernel_rfl) fun μ=>rfl)⟩
end
end Mine
end
noncomputable section
open PySem PySem.W PyProof.Rows
open PySem.Builtin.Re
namespace Mine
set_option backward.match.sparseCases true
theorem pa_re:PlainAttrs "re.Pattern":=
 ⟨⟨"object.__getattribute__",by rw[typeLookup_type,builtinLookup_eq_fast];kernel_rfl,by decide+kernel⟩,by rw[typeLookup_type,builtinLookup_eq_fast];kernel_rfl⟩
theorem Zhi:Slot "re.Pattern" "search" "re.Pattern.search":=
 .of (owner:="re.Pattern") (n:="search") (by rw[typeLookup_type,builtinLookup_eq_fast];kernel_rfl) (by decide+kernel) (by decide+kernel) (by decide+kernel)
  (by first|exact .inl (by decide+kernel)|exact .inr (by decide+kernel)) (by rw[isSubtype_type];kernel_rfl)
theorem Zl6:typeOf (.builtin "re.Pattern.search")=pure (.type "method_descriptor"):=by show builtinType _=_;refine(builtinType_eq_fast).symm▸?_;kernel_rfl
theorem ZkK:entryFor table "re.Pattern.search"=some Builtin.«re.Pattern.search»:=entryFor_of_tree (by kernel_rfl)
theorem Zny(a b:Value):argsOk "re.Pattern.search" ⟨[a,b],[]⟩:=by unfold argsOk;kernel_rfl
noncomputable def Zbk:Nat→Sre.M→Option Sre.M
 |0,_=>none
 |n+1,m=>match(m.runFor 4).outcome with
  |some _=>some (m.runFor 4)
  |none=>Zbk n (m.runFor 4)
section
variable{M:Model}{A:Around}{E:VP}
theorem ZfD{Q:Sre.M→Shared→Prop}:∀(n turns:Nat) (m m':Sre.M),n≤turns→Zbk n m=some m'→∀s,Q m' s→wpAny M A (reDrive turns m) Q E s
 |0,_,_,_,_,h,_,_=>by exact nnO h
 |n+1,0,_,_,hl,_,_,_=>absurd hl (Nat.not_succ_le_zero n)
 |n+1,t+1,m,m',hl,h,s,hQ=>by
  show wpAny M A (if(m.runFor reTurnSteps).outcome.isSome=true then pure (m.runFor reTurnSteps)else rule "sre.turn" >>= fun μ=>reDrive t (m.runFor reTurnSteps)) Q E s
  have e:m.runFor reTurnSteps=m.runFor 4:=rfl;refine(e).symm▸?_;unfold Zbk at h;cases ho:(m.runFor 4).outcome with
  |some o=>
   rw[ho]at h;refine(if_pos (show(some o).isSome=true from rfl)).symm▸?_;cases h;exact Wp hQ
  |none=>
   rw[ho]at h;refine(if_neg (show¬(none:Option Sre.Outcome).isSome=true by decide)).symm▸?_
   exact Wb (wpAny_rule (ZfD n t _ _ (Nat.le_of_succ_le_succ hl) h s hQ))
noncomputable def outN(o:Option Sre.M):Nat:=match o with
 |some m=>match m.outcome with
  |some .matched=>1
  |some .failed=>2
  |some (.stuck _)=>3
  |none=>4
 |none=>5
theorem Zoc{Q:Option Sre.M→Shared→Prop}{m:Sre.M}{s:Shared}(h:(outN (Zbk 200 m)=2∧Q none s)∨(outN (Zbk 200 m)=1∧∀m',Q (some m') s)):wpAny M A (reRunToEnd m) Q E s:=by
 skip
 cases hd:Zbk 200 m with
 |none=>
  rw[hd]at h;rcases h with h|h<;>exact absurd h.1 (by decide)
 |some m'=>
  rw[hd]at h;refine Wb (ZfD 200 _ m m' (by decide) hd s ?_)
  refine Wb ?_;refine wpAny_forIn_list _ (fun μ μ s'=>s'=s) _ (fun x rest b s' e=>?_) (fun b s' e=>?_) _ _ rfl
  ·subst e;split
   ·exact Wb (wpAny_rule (Wp rfl))
   ·exact Wp rfl
  ·subst e;unfold outN at h;cases ho:m'.outcome with
   |none=>simp only[ho]at h;rcases h with h|h<;>exact absurd h.1 (by decide)
   |some o=>
    simp only[ho]at h;cases o with
    |matched=>
     rcases h with h|h
     ·exact absurd h.1 (by decide)
     ·exact Wp (h.2 m')
    |failed=>
     rcases h with h|h
     ·exact Wp h.2
     ·exact absurd h.1 (by decide)
    |stuck w=>rcases h with h|h<;>exact absurd h.1 (by simp)
end
noncomputable def srch(code:Array Nat)(t:Str):Nat:=outN (Zbk 200 (Sre.forSearch code t.cps 0 (min (0:Int).toNat t.cps.size) (min (2 ^ 63-1:Int).toNat t.cps.size) false))
theorem Zem{M:Model}{A:Around}{E:VP}{s:Shared}{c:Addr}{o:Obj}{items:Array Value}{n:Nat}{Q:Array Int→Shared→Prop}(ho:s.heap.get? c=some o)(hd:o.data= .seq items n)(h:Q (items.map reRawOf) s):
  wpAny M A (reRawItems (.ref c)) Q E s:=by
 skip
 exact Wb (wpAny_seqItems ho hd (Wp h))
section
variable{prog:Program}{w:World}{A:Around}{E:VP}{s:Shared}
theorem Zhr{Q:VP}{p c:Addr}{o oc:Obj}{vs:Array Value}{items:Array Value}{n:Nat}{code:Array Nat}{x:Str}{t:Tok}
  (ho:s.heap.get? p=some o)(hcls:o.cls= .type "re.Pattern")(hd:o.data= .fields vs)(h2:reRawNat (vs.getD 2 .none)=0)(h5:vs.getD 5 .none= .ref c)(h6:reRawNat (vs.getD 6 .none)=0)
  (hc:s.heap.get? c=some oc)(hcd:oc.data= .seq items n)(hcode:(items.map reRawOf).map (·.toNat)=code)
  (h:(srch code x=2∧Q .none s)∨(srch code x=1∧∀i j k l m,Q (.ref (s.heap.objs.size+1)) {s with heap:=(s.heap.push {cls:= .type "tuple",data:= .seq #[i,j]}).push {cls:= .type "re.Match",data:= .fields #[.str x t, .ref p,k,l,m, .ref s.heap.objs.size]}})):
  wpAny (model prog w) A (call (.builtin "re.Pattern.search") [.ref p, .str x t]) Q E s:=by
 refine wpAny_call_entry Zhi ⟨o,ho,hcls⟩ ZkK ?_ (Zny _ _);unfold Builtin.«re.Pattern.search»;refine Wb ?_;unfold reTarget;refine Wb (wpAny_of_eq (a:=[some (.str x t),none,none]) rfl ?_);refine Wb (Wp (Wb (Wp (Wb (wpAny_fieldsOf ho hd ?_)))));refine Wb (wpAny_of_eq (a:=(x.cps,0)) rfl ?_);rw[h6,h5];refine Wb (wpAny_of_eq (a:=()) rfl ?_);refine Wb (Zem hc hcd (Wp ?_));unfold reAnswer;refine Wb (Zoc ?_);simp only[h2,hcode];rcases h with⟨h1,h⟩|⟨h1,h⟩
 ·exact .inl ⟨h1,Wp ⟨_,rfl,h⟩⟩
 ·refine .inr ⟨h1,fun m'=>?_⟩;refine Wb ?_;unfold reNewMatch;refine Wb (wpAny_newTuple ?_ (show 2≤sizeLine by decide))
  refine wpAny_newObj_type ?_ (show 6≤sizeLine+2 by decide)
  exact Wp ⟨_,rfl,by simpa using h _ _ _ _ _⟩
end
end Mine
end
noncomputable section
open PySem PySem.W PyProof.Rows
namespace Mine
set_option backward.match.sparseCases true
theorem Zal:typeLookup (.type "re.Match") "__bool__"=pure none:=by rw[typeLookup_type,builtinLookup_eq_fast];kernel_rfl
theorem Za3:typeLookup (.type "re.Match") "__len__"=pure none:=by rw[typeLookup_type,builtinLookup_eq_fast];kernel_rfl
theorem Zc0{M:Model}{A:Around}{E:VP}{s:Shared}{a:Addr}{o:Obj}{Q:Bool→Shared→Prop}(ho:s.heap.get? a=some o)(hc:o.cls= .type "re.Match")(h:Q true s):wpAny M A (truthy (.ref a)) Q E s:=by
 have hT:s.TypeIs (.ref a) "re.Match":=⟨o,ho,hc⟩
 skip
 first
  |refine Wb (wpAny_callSpecial?_none (name:=Str.ofString "__bool__") hT Zal ?_)
  |refine Wb (Wp (Wb (wpAny_callSpecial?_none (name:=Str.ofString "__bool__") hT Zal ?_)))
 first
  |refine Wb (wpAny_specialOf (name:=Str.ofString "__len__") hT Za3 ?_)
  |refine Wb (Wp (Wb (wpAny_specialOf (name:=Str.ofString "__len__") hT Za3 ?_)))
 exact Wp h
structure ReAt(C:Ctx)(f:Str)(p:Addr)(code:Array Nat):Prop where
 glob:C.mg f=some (.ref p)
 at_:∀h,OldK C.base h→C.inv h→∃(o:Obj) (c:Addr) (oc:Obj) (vs items:Array Value) (n:Nat),h.get? p=some o∧o.cls= .type "re.Pattern"∧o.dict=none∧o.data= .fields vs∧Builtin.Re.reRawNat (vs.getD 2 .none)=0∧vs.getD 5 .none= .ref c∧Builtin.Re.reRawNat (vs.getD 6 .none)=0∧h.get? c=some oc∧oc.data= .seq items n∧(items.map Builtin.Re.reRawOf).map (·.toNat)=code
section
variable{C:Ctx}{A:Around}{env:Env}{sc:Sc}{ρ:Rho}{st:St}{s:Shared}{rec:Rec}{n:Nat}{E:VP}
theorem Zmq(S:Snd C rec n){f:Str}{p:Addr}{code:Array Nat}(R:ReAt C f p code){np ap pos:Pos}{args:List Expr}{k:Bool→St→Prop}{Q:Bool→Shared→Prop}(hg:Jh sc f=true)(hst:Z3 args=true)(hl:Nat.beq ap.endLine pos.line=true)(hn:Nat.blt args.length 20=true)
  (hb:evs rec sc args st fun vs st'=>∃x b,vs=[.str x b]∧((srch code x=1∧k true st')∨(srch code x=2∧k false st')))
  (H:HI C ρ st s)(F:FI C env sc ρ st.m s)(hs:okSc sc=true)(hA:Room n A)(K:KB C ρ s st.m k Q):
  wpAny (model C.prog C.w) A (isTrue (.Call (.Attribute (.Name f np) "search" ap) args [] pos) env (eval (.Call (.Attribute (.Name f np) "search" ap) args [] pos) env)) Q E s:=by
 refine wpAny_isTrue_value ?_ rfl;rw[arm_eval_Call,ZfR (o:= .Name f np) rfl];refine Wb (Ju hg H F hs (.inl R.glob) ?_);refine Wb (wpAny_standAt (ZK hst hl hn fun pl=>?_));obtain⟨o,c,oc,vs,items,nn,h1,h2,h3,h4,h5,h6,h7,h8,h9,h10⟩:=R.at_ _ H.old H.inv;refine getMethod_builtin ⟨o,h1,h2⟩ pa_re Zhi Zl6 (fun a e=>by cases e;exact⟨o,h1,h3⟩) ?_
 refine Zf (ZC hst) (ZcJ S hb H F hs hA fun vs1 st1 ρ1 s1 xs hk H1 e1 r1 m1=>⟨Zg,?_⟩);obtain⟨x,b,rfl,hk⟩:=hk;cases r1 with|cons _ _ y ys py r1=>cases r1 with|nil=>cases py with|str _ _ t ht=>
 obtain⟨o,c,oc,vs,items,nn,h1,h2,h3,h4,h5,h6,h7,h8,h9,h10⟩:=R.at_ _ H1.old H1.inv;refine Zhr h1 h2 h4 h5 h6 h7 h8 h9 h10 ?_;rcases hk with⟨hx,hk⟩|⟨hx,hk⟩
 ·refine .inr ⟨hx,fun i j a' b' c'=>?_⟩;refine Zc0 (o:={cls:= .type "re.Match",data:= .fields #[.str x t, .ref p,a',b',c', .ref s1.heap.objs.size]}) ?_ rfl ?_
  ·have hsz:(s1.heap.push {cls:= .type "tuple",data:= .seq #[i,j]}).objs.size=s1.heap.objs.size+1:=by simp[Heap.push]
   show((s1.heap.push {cls:= .type "tuple",data:= .seq #[i,j]}).push _).get? (s1.heap.objs.size+1)=_
   rw[←hsz];exact Heap.get?_push_size _ rfl
  ·have P:Plain nox s1 {s1 with heap:=(s1.heap.push {cls:= .type "tuple",data:= .seq #[i,j]}).push {cls:= .type "re.Match",data:= .fields #[.str x t, .ref p,a',b',c', .ref s1.heap.objs.size]}}:=(Plain.push' nox s1 _).trans (Plain.push' nox _ _)
   exact K _ st1 ρ1 _ hk (H1.plain0 P) (e1.trans (Ext.plain0 P)) m1
 ·exact .inl ⟨hx,by show wpAny _ _ (pure false) _ _ _;exact Wp (K _ st1 ρ1 s1 hk H1 e1 m1)⟩
end
noncomputable def kkS(rec:Rec)(sc:Sc)(r:List Stmt)(k:KS):KS:=fun f st=>match f with
 | .nxt=>rec.ss sc r st k
 |f=>k f st
noncomputable abbrev reS(np ap:Pos)(args:List Expr)(pos:Pos)(b o:List Stmt)(p:Pos)(r:List Stmt):List Stmt:= .If (.Call (.Attribute (.Name "IPV4_RE" np) "search" ap) args [] pos) b o p::r
noncomputable def ssH(rec:Rec)(code:Array Nat)(sc:Sc)(l:List Stmt)(st:St)(k:KS):Prop:=
 ∃np ap args pos b o p r,l=reS np ap args pos b o p r∧(Jh sc "IPV4_RE"=true∧Z3 args=true∧Nat.beq ap.endLine pos.line=true∧Nat.blt args.length 20=true)∧
  evs rec sc args st fun vs st'=>∃x bb,vs=[.str x bb]∧((srch code x=1∧rec.ss sc b st' (kkS rec sc r k))∨(srch code x=2∧rec.ss sc o st' (kkS rec sc r k)))
noncomputable def recH(rec:Rec)(code:Array Nat):Rec:={rec with ss:=ssH rec code}
section
variable{C:Ctx}
set_option tactic.hygienic true in
theorem ZjO{rec:Rec}{n:Nat}(S:Snd C rec n){p:Addr}{code:Array Nat}(R:ReAt C "IPV4_RE" p code):Snd C (recH rec code) (n+1) where
 fu:=Nat.le_trans S.fu (Nat.le_succ n)
 ex:=fun hb H F hs hA K=>S.ex hb H F hs (hA.less (Nat.le_succ n)) K
 ts:=fun hb H F hs hA K=>S.ts hb H F hs (hA.less (Nat.le_succ n)) K
 ss:=fun {sc b st k A env ρ s Q E} hb H F hs hA1 K=>by
  have hA:Room n A:=hA1.less (Nat.le_succ n);have wk:∀{ρ ρ':Rho} {s s':Shared},Ext C nox ρ s ρ' s'→Ext C (own env sc) ρ s ρ' s':=fun e=>e.weaken fun μ h=>h.elim
  replace hb:ssH rec code sc b st k:=hb
  refine exE8 hb fun np ap args pos b' o p' r e=>?_;rw[e.1];refine PySem.wpAny_execs_cons ?_;rw[arm_exec_If];refine Wb (wpAny_standAt (Wb (Zmq S (k:=fun c st'=>match c with|true=>rec.ss sc b' st' (kkS rec sc r k)|false=>rec.ss sc o st' (kkS rec sc r k)) R e.2.1.1 e.2.1.2.1 e.2.1.2.2.1 e.2.1.2.2.2 e.2.2 H F hs hA fun c st1 ρ1 s1 h1 H1 e1 m1=>?_)))
  have F1:=F.after e1 m1;have fin:∀{bb:List Stmt},rec.ss sc bb st1 (kkS rec sc r k)→wpAny (model C.prog C.w) A (execs bb env) (fun f s'=>match f with| .next=>wpAny (model C.prog C.w) A (execs r env) Q E s'|f=>Q f s') E s1:=fun h1=>
   S.ss h1 H1 F1 hs hA fun f fl st2 ρ2 s2 h2 H2 F2 e2 r2=>by
    cases r2 with
    |nxt=>exact S.ss h2 H2 F2 hs hA fun f fl st3 ρ3 s3 h3 H3 F3 e3 r3=>K f fl st3 ρ3 s3 h3 H3 F3 ((wk e1).trans (e2.trans e3)) r3
    |brk=>exact K _ _ st2 ρ2 s2 h2 H2 F2 ((wk e1).trans e2) .brk
    |cnt=>exact K _ _ st2 ρ2 s2 h2 H2 F2 ((wk e1).trans e2) .cnt
    |ret v x r=>exact K _ _ st2 ρ2 s2 h2 H2 F2 ((wk e1).trans e2) (.ret v x r)
  cases c with
  |true=>exact fin h1
  |false=>exact fin h1
 wl:=fun hb H F hs hA K=>S.wl hb H F hs (hA.less (Nat.le_succ n)) K
 fl:=fun hb H F hs hA Ap I K=>S.fl hb H F hs (hA.less (Nat.le_succ n)) Ap I K
 cl:=fun hb H F hs hA Ap I hm K=>S.cl hb H F hs (hA.less (Nat.le_succ n)) Ap I hm K
 us:=fun hb H F hs hA KU K=>S.us hb H F hs (hA.less (Nat.le_succ n)) KU K
end
noncomputable def Yp:Array Nat:= #[14,8,1,2,4294967295,1,1,46,0,16,46,24,9,1,4294967295,13,4,8,0,0,1,6,5,1]
noncomputable def restH:List Stmt:=(fnOf "is_HDN").body.drop 1
noncomputable def runH(x:Str)(K1:V→Nat→Tr AO→Prop):Prop:=(evF gN 100).ss (fnOf "is_HDN").scope.names restH {stF []with m:=[("text", .str x 64)]} (contF K1)
noncomputable def HOK(x:Str)(r:Bool):Prop:=(srch Yp x=1∧r=false)∨(srch Yp x=2∧∀K1:V→Nat→Tr AO→Prop,runH x K1=K1 (.bool r) (stF []).n (stF []).σ)
noncomputable def mapT{α β:Type}(f:α→β)(l:List α):List β:=List.rec (motive:=fun μ=>List β) [] (fun a μ ih=>f a::ih) l
noncomputable def mapU{α β:Type}(f:α→β)(l:List α):List β:=List.rec (motive:=fun μ=>List β) [] (fun a μ ih=>f a::ih) l
theorem Zh1{α β:Type}{f g:α→β}{l:List α}:mapT f l=mapU g l→∀{x},x∈l→f x=g x:=by
 induction l with
 |nil=>exact fun μ μ hm=>(List.not_mem_nil hm).elim
 |cons e l ih=>
  intro h x hm;rcases List.mem_cons.mp hm with q|hm
  ·exact q▸(List.cons.inj h).1
  ·exact ih (List.cons.inj h).2 hm
noncomputable def okL:List Str:=["local","e.local","d.local","c.local","b.local","e.d.local","e.c.local","e.b.local","d.c.local","d.b.local","c.b.local","e.d.c.local","e.d.b.local","e.c.b.local","d.c.b.local","e.d.c.b.local","e.localx","e.d.localx","e.c.localx","e.b.localx","e.d.c.localx","e.d.b.localx","e.c.b.localx","e.d.c.b.localx"]
noncomputable def noL:List Str:=["e.local.7","e.d.local.7","e.c.local.7","e.b.local.7","e.d.c.local.7","e.d.b.local.7","e.c.b.local.7","e.d.c.b.local.7"]
noncomputable def okN:List Str:=["n.com","e.n.com","d.n.com","c.n.com","b.n.com","e.d.n.com","e.c.n.com","e.b.n.com","d.c.n.com","d.b.n.com","c.b.n.com","e.d.c.n.com","e.d.b.n.com","e.c.b.n.com","d.c.b.n.com","e.d.c.b.n.com","e.n.comx","e.d.n.comx","e.c.n.comx","e.b.n.comx","e.d.c.n.comx","e.d.b.n.comx","e.c.b.n.comx","e.d.c.b.n.comx"]
noncomputable def noN:List Str:=["e.n.com.7","e.d.n.com.7","e.c.n.com.7","e.b.n.com.7","e.d.c.n.com.7","e.d.b.n.com.7","e.c.b.n.com.7","e.d.c.b.n.com.7"]
noncomputable def ans(r:Bool)(l:List Str):List (Str×Bool):=mapT (fun x=>(x,r)) l
theorem ZgK{l:List Str}{r:Bool}(h:mapT (srch Yp) l=mapU (fun μ=>2) l)(hr:∀K1,mapT (fun x=>runH x K1) l=mapU (fun μ=>K1 (.bool r) (stF []).n (stF []).σ) l){x:Str}(hm:x∈l):HOK x r:=
 .inr ⟨Zh1 h hm,fun K1=>Zh1 (hr K1) hm⟩
theorem no_of{l:List Str}(h:mapT (srch Yp) l=mapU (fun μ=>1) l){x:Str}(hm:x∈l):HOK x false:= .inl ⟨Zh1 h hm,rfl⟩
theorem Zi9{r q:Bool}{x:Str}{l:List Str}:(x,q)∈ans r l→q=r∧x∈l:=by
 induction l with
 |nil=>exact fun h=>(List.not_mem_nil h).elim
 |cons e l ih=>
  intro h;rcases List.mem_cons.mp h with h|h
  ·exact⟨(Prod.mk.inj h).2,(Prod.mk.inj h).1▸ .head _⟩
  ·exact⟨(ih h).1, .tail _ (ih h).2⟩
theorem Zdm{a b:List (Str×Bool)}{x:Str}{r:Bool}(ha:(x,r)∈a→HOK x r)(hb:(x,r)∈b→HOK x r)(hm:(x,r)∈a++b):HOK x r:=(List.mem_append.mp hm).elim ha hb
theorem Zd5{l:List Str}{r q:Bool}{x:Str}(h:∀{x},x∈l→HOK x r)(hm:(x,q)∈ans r l):HOK x q:=(Zi9 hm).1▸h (Zi9 hm).2
noncomputable def tabL:List (Str×Bool):=ans true okL++ans false noL
noncomputable def tabN:List (Str×Bool):=ans true okN++(ans false noN++ans false [""])
theorem allL{x:Str}{r:Bool}:(x,r)∈tabL→HOK x r:=
 Zdm (Zd5 (ZgK (by kernel_rfl) fun K1=>by kernel_rfl)) (Zd5 (no_of (by kernel_rfl)))
theorem allN{x:Str}{r:Bool}:(x,r)∈tabN→HOK x r:=
 Zdm (Zd5 (ZgK (by kernel_rfl) fun K1=>by kernel_rfl)) (Zdm (Zd5 (no_of (by kernel_rfl))) (Zd5 (ZgK (by kernel_rfl) fun K1=>by kernel_rfl)))
noncomputable def tabH(top:Bool):List (Str×Bool):=match top with
 |true=>tabN++tabL
 |false=>tabL++tabN
noncomputable def ZfF(top:Bool):Con:=fun vs st k=>Z8 vs 312 fun v=>Z0 v 312 fun x b=>Zk (lookS x (tabH top)) 311 fun r=>gd (Nat.ble b 64) 310 (k (.bool r) st)
noncomputable def hdnA:List Expr:=[.Name "text" ⟨8,22,8,26⟩]
noncomputable def hdnB:List Stmt:=[.Return (some (.Constant (.bool false) 0 ⟨9,15,9,20⟩)) ⟨9,8,9,20⟩]
theorem Zkt:(fnOf "is_HDN").body=reS ⟨8,7,8,14⟩ ⟨8,7,8,21⟩ hdnA ⟨8,7,8,27⟩ hdnB [] ⟨8,4,9,20⟩ restH:=by kernel_rfl
theorem ZoN:Jh (fnOf "is_HDN").scope.names "IPV4_RE"=true∧Z3 hdnA=true∧Nat.beq 8 8=true∧Nat.blt hdnA.length 20=true:=⟨by kernel_rfl,rfl,rfl,rfl⟩
theorem Zm6(x:Str)(kk:KS):(evs (evF gN 100) (fnOf "is_HDN").scope.names hdnA {stF []with m:=[("text", .str x 64)]} fun vs st'=>∃x bb,vs=[.str x bb]∧((srch Yp x=1∧(evF gN 100).ss (fnOf "is_HDN").scope.names hdnB st' (kkS (evF gN 100) (fnOf "is_HDN").scope.names restH kk))∨(srch Yp x=2∧(evF gN 100).ss (fnOf "is_HDN").scope.names [] st' (kkS (evF gN 100) (fnOf "is_HDN").scope.names restH kk))))
 =(∃y bb,[V.str x 64]=[V.str y bb]∧((srch Yp y=1∧kk (.ret (.bool false)) {stF []with m:=[("text", .str x 64)]})∨(srch Yp y=2∧(evF gN 100).ss (fnOf "is_HDN").scope.names restH {stF []with m:=[("text", .str x 64)]} kk))):=by
 kernel_rfl
theorem ZoO(x:Str)(kk:KS)(h:∃y bb,[V.str x 64]=[V.str y bb]∧((srch Yp y=1∧kk (.ret (.bool false)) {stF []with m:=[("text", .str x 64)]})∨(srch Yp y=2∧(evF gN 100).ss (fnOf "is_HDN").scope.names restH {stF []with m:=[("text", .str x 64)]} kk))):
  ssH (evF gN 100) Yp (fnOf "is_HDN").scope.names (fnOf "is_HDN").body {stF []with m:=[("text", .str x 64)]} kk:=
 ⟨_,_,_,_,_,_,_,_,Zkt,ZoN,(Zm6 x kk).mpr h⟩
theorem ZnW{top:Bool}{x:Str}{r:Bool}(h:(x,r)∈tabH top):HOK x r:=by
 cases top with
 |true=>exact Zdm allN allL h
 |false=>exact Zdm allL allN h
theorem Zip{C:Ctx}{a:Addr}{fd:FuncData}(T:FnAt C "is_HDN" (fnOf "is_HDN") a fd)(GK:GOK C gN){p:Addr}(R:ReAt C "IPV4_RE" p Yp)(top:Bool)(hok:okFn (fnOf "is_HDN")=true)(hp:Zc (fnOf "is_HDN").params=[("text":Str)]):ConOK C "is_HDN" 102 (ZfF top) (.ref a):=by
 refine ZeK T 101 hok fun {vs st k} h=>?_;refine Classical.byContradiction fun hnG=>?_;obtain⟨_,rfl,h⟩:=Jm h;obtain⟨x,b,rfl,h⟩:=YH h;obtain⟨r,hl,h⟩:=Zd h;obtain⟨hb,h⟩:=gd_of h;refine hnG ⟨recH (ev gN 100) Yp,ZjO (Zb2 GK 100) R,[],stF [],[.str x 64],SubL.nil.sub List.nodup_nil, .cons _ _ _ _ (.str _ _ _ (Nat.le_of_ble_eq_true hb)) .nil,?_⟩;refine ZbK (objs:=[]) (extra:=[]) (v:= .bool r) (mm:=[("text", .str x 64)]) (by rw[hp];rfl) (fun K1 hK=>?_) rfl h
 refine ZoO x (contF K1) ⟨x,64,rfl,?_⟩;rcases ZnW (YM hl)with⟨h1,h2⟩|⟨h1,h2⟩
 ·subst h2;exact .inl ⟨h1,hK⟩
 ·exact .inr ⟨h1,(h2 K1).mpr hK⟩
section
variable{C:Ctx}{p:Params}
theorem x_re(PK:PG C p):ReAt C "IPV4_RE" 43 Yp where
 glob:=PK.cf.mg _ _ rfl
 at_:=fun h μ hi=>⟨_,42,_,_,_,_,inG PK hi 43 _ rfl,rfl,rfl,rfl,rfl,rfl,rfl,inG PK hi 42 _ rfl,rfl,by decide+kernel⟩
end
end Mine
end
noncomputable section
open PySem PyProof.Rows
namespace Mine
set_option backward.match.sparseCases false
noncomputable def SS(C:Ctx)(n:Nat)(sc:Sc)(l:List Stmt)(st:St)(k:KS):Prop:=
 ∀(A:Around) (env:Env) (ρ:Rho) (s:Shared) (Q:Flow→Shared→Prop) (E:VP),HI C ρ st s→FI C env sc ρ st.m s→okSc sc=true→Room n A→KF C env sc ρ s k Q→wpAny (model C.prog C.w) A (execs l env) Q E s
noncomputable def FL(C:Ctx)(n:Nat)(sc:Sc)(t:Expr)(b o:List Stmt)(it:It)(st:St)(k:KS):Prop:=
 ∀(A:Around) (env:Env) (ρ:Rho) (s:Shared) (a:Addr) (R:Result→Shared→Prop),HI C ρ st s→FI C env sc ρ st.m s→okSc sc=true→Room n A→Apart C env ρ a→ItR ρ s.heap a it→
  (∀f fl st' ρ' s',k f st'→HI C ρ' st' s'→FI C env sc ρ' st'.m s'→Ext C (XI env sc a) ρ s ρ' s'→FlR ρ' s'.heap f fl→R (.ok fl) s')→codeAny (model C.prog C.w) A (.forLoop t (.ref a) b o env) R s
noncomputable def semR(C:Ctx)(g:G)(n:Nat):Rec:={ev g n with ss:=SS C n,fl:=FL C n}
section
variable{C:Ctx}{g:G}{n m:Nat}{sc:Sc}{st:St}{k:KS}
theorem JN(GK:GOK C g)(n:Nat):Snd C (semR C g n) n:=
 have S:=Zb2 GK n
 {fu:=S.fu
  ex:=S.ex
  ts:=S.ts
  ss:=fun hb H F hs hA K=>hb _ _ _ _ _ _ H F hs hA K
  wl:=S.wl
  fl:=fun hb H F hs hA Ap I K=>hb _ _ _ _ _ _ H F hs hA Ap I K
  cl:=S.cl
  us:=S.us}
theorem Zhd(GK:GOK C g){l:List Stmt}(h:Zc2 g (semR C g n) sc l st k):SS C (n+1) sc l st k:=
 fun μ μ μ μ μ μ H F hs hA K=>ZbJ (JN GK n) GK h H F hs hA K
theorem ZcI(GK:GOK C g){t:Expr}{b o:List Stmt}{it:It}(h:ZdQ (semR C g n) sc t b o it st k):FL C (n+1) sc t b o it st k:=
 fun μ μ μ μ μ μ H F hs hA Ap I K=>ZlE (JN GK n) h H F hs (hA.less (Nat.le_succ n)) Ap I K
theorem ZbI(GK:GOK C g){l:List Stmt}(hm:m≤n)(h:(evF g m).ss sc l st k):SS C n sc l st k:=
 fun μ μ μ μ μ μ H F hs hA K=>(Zb2 GK m).ss (by rw[←ZlJ];exact h) H F hs (hA.less hm) K
theorem Ze3(h:k .nxt st):SS C n sc [] st k:=
 fun μ μ μ μ μ μ H F μ μ K=>PySem.wpAny_execs_nil (K _ _ _ _ _ h H F (.refl _ _ _ _) .nxt)
theorem Zbj(b:List Stmt)(env:Env):∀a:List Stmt,execs (a++b) env=execs a env >>= fun f=>match f with| .next=>execs b env|f=>pure f
 | []=>rfl
 |x::a=>by
  rw[List.cons_append,execs_cons,execs_cons,bind_assoc];refine bind_congr fun f=>?_;cases f with
  |next=>exact Zbj b env a
  |_=>rfl
theorem Zn8:∀{a b:List Stmt} {st:St} {k:KS},SS C n sc a st (fun f st'=>match f with| .nxt=>SS C n sc b st' k|f=>k f st')→SS C n sc (a++b) st k:=by
 intro a b st k h A env ρ s Q E H F hs hA K;have key:∀(Q':Flow→Shared→Prop) (s:Shared),wpAny (model C.prog C.w) A (execs a env) (fun f s'=>match f with| .next=>wpAny (model C.prog C.w) A (execs b env) Q' E s'|f=>Q' f s') E s→wpAny (model C.prog C.w) A (execs (a++b) env) Q' E s:=by
  intro Q' s h;rw[Zbj];refine Wb (wpAny_mono h (fun f s' h=>?_) fun μ μ h=>h);cases f with
  |next=>exact h
  |_=>exact Wp h
 exact key Q s (h A env ρ s _ E H F hs hA fun f fl st' ρ' s' hk H' F' e' r'=>by
  cases r' with
  |nxt=>exact hk A env ρ' s' Q E H' F' hs hA fun f fl st2 ρ2 s2 h2 H2 F2 e2 r2=>K f fl st2 ρ2 s2 h2 H2 F2 (e'.trans e2) r2
  |brk=>exact K _ _ st' ρ' s' hk H' F' e' .brk
  |cnt=>exact K _ _ st' ρ' s' hk H' F' e' .cnt
  |ret v x r=>exact K _ _ st' ρ' s' hk H' F' e' (.ret v x r))
inductive WV:V→V→Prop
 |refl (v:V):WV v v
 |int (x y:Int) (b b':Nat):x=y→(b'≠0→y.natAbs<b')→WV (.int x b) (.int y b')
 |str (x y:Str) (b b':Nat):x=y→y.length≤b'→WV (.str x b) (.str y b')
inductive WVs:List V→List V→Prop
 |nil:WVs [] []
 |cons (v v':V) (l l':List V):WV v v'→WVs l l'→WVs (v::l) (v'::l')
theorem WVs.refl:∀l:List V,WVs l l
 | []=> .nil
 |v::l=> .cons _ _ _ _ (.refl v) (.refl l)
inductive WO:AO→AO→Prop
 |refl (o:AO):WO o o
 |list (l l':List V):WVs l l'→WO (.list l) (.list l')
theorem WV.vr{ρ:Rho}{h:Heap}{v v':V}{x:Value}(w:WV v v')(r:VR ρ h v x):VR ρ h v' x:=by
 cases w with
 |refl=>exact r
 |int i j b b' e p=>subst e;cases r with|int _ _ t _=>exact .int _ _ t p
 |str i j b b' e p=>subst e;cases r with|str _ _ t _=>exact .str _ _ t p
theorem WVs.vrs{ρ:Rho}{h:Heap}:∀{l l':List V} {xs:List Value},WVs l l'→VRs ρ h l xs→VRs ρ h l' xs:=by
 intro l l' xs w
 induction w generalizing xs with
 |nil=>exact id
 |cons _ _ _ _ w _ ih=>intro r;exact exE2 (Zq r) fun μ μ e=>e.1▸ .cons _ _ _ _ (w.vr e.2.1) (ih e.2.2)
theorem lt0{P:Nat→Prop}:∀i,i<0→P i:=fun μ h=>absurd h (Nat.not_lt_zero _)
theorem ltS{P:Nat→Prop}{n:Nat}(h:∀i,i<n→P i)(hn:P n):∀i,i<n+1→P i:=fun i hi=>(Nat.lt_succ_iff_lt_or_eq.mp hi).elim (h i) fun e=>e▸hn
structure WS(st st':St):Prop where
 n:st'.n=st.n
 m:∀x v',lookS x st'.m=some v'→∃v,lookS x st.m=some v∧WV v v'
 σ:∀i o',st'.σ.get i=some o'→∃o,st.σ.get i=some o∧WO o o'
theorem HI.weak{ρ:Rho}{s:Shared}{st st':St}(H:HI C ρ st s)(W:WS st st'):HI C ρ st' s where
 old:=H.old
 inv:=H.inv
 os:=H.os
 gens:=H.gens
 nod:=H.nod
 lo:=H.lo
 live:=H.live
 gnod:=H.gnod
 ghi:=H.ghi
 len:=by rw[W.n];exact H.len
 dom:=fun i o e=>by
  obtain⟨o1,e1,_⟩:=W.σ i o e;rw[W.n];exact H.dom i o1 e1
 sto:=fun i o e=>by
  obtain⟨o1,e1,w⟩:=W.σ i o e;obtain⟨en,q1,q2⟩:=H.sto i o1 e1;refine⟨en,q1,?_⟩;cases w with
  |refl=>exact q2
  |list l l' w=>
   obtain⟨a,n,xs,r1,r2,r3⟩:=q2;exact⟨a,n,xs,r1,r2,w.vrs r3⟩
theorem FI.weak{env:Env}{ρ:Rho}{s:Shared}{st st':St}(F:FI C env sc ρ st.m s)(W:WS st st'):FI C env sc ρ st'.m s:=
 {F with
  vars:=fun x v' h=>
   let ⟨v,h1,w⟩:=W.m x v' h
   let ⟨val,h2,h3⟩:=F.vars x v h1
   ⟨val,h2,w.vr h3⟩}
theorem Zeg{st':St}{l:List Stmt}(W:WS st st')(h:SS C n sc l st' k):SS C n sc l st k:=
 fun μ μ μ μ μ μ H F hs hA K=>h _ _ _ _ _ _ (H.weak W) (F.weak W) hs hA K
theorem Ziu{st':St}{t:Expr}{b o:List Stmt}{it:It}(W:WS st st')(h:FL C n sc t b o it st' k):FL C n sc t b o it st k:=
 fun μ μ μ μ μ μ H F hs hA Ap I K=>h _ _ _ _ _ _ (H.weak W) (F.weak W) hs hA Ap I K
end
noncomputable def S0(C:Ctx)(n:Nat)(sc:Sc)(l:List Stmt)(st:St)(Z:V→Prop):Prop:=
 ∀(A:Around) (env:Env) (ρ:Rho) (s:Shared) (Q:Flow→Shared→Prop) (E:VP),HI C ρ st s→FI C env sc ρ st.m s→okSc sc=true→Room n A→(∀v x ρ' st' s',Z v→HI C ρ' st' s'→VR ρ' s'.heap v x→Q (.ret x) s')→wpAny (model C.prog C.w) A (execs l env) Q E s
section
variable{C:Ctx}{g:G}{n m:Nat}{sc:Sc}{st:St}{Z:V→Prop}
theorem Zlm{a b:List Stmt}(h:SS C n sc a st (fun f st'=>match f with| .nxt=>S0 C n sc b st' Z| .ret v=>Z v|_=>False)):S0 C n sc (a++b) st Z:=by
 intro A env ρ s Q E H F hs hA K;rw[Zbj];refine Wb (h A env ρ s _ E H F hs hA fun f fl st' ρ' s' hk H' F' e' r'=>?_);cases r' with
 |nxt=>exact hk A env ρ' s' Q E H' F' hs hA K
 |brk=>exact hk.elim
 |cnt=>exact hk.elim
 |ret v x r=>exact Wp (K v x ρ' st' s' hk H' r)
theorem Zej{st':St}{l:List Stmt}(W:WS st st')(h:S0 C n sc l st' Z):S0 C n sc l st Z:=
 fun μ μ μ μ μ μ H F hs hA K=>h _ _ _ _ _ _ (H.weak W) (F.weak W) hs hA K
theorem FI.sub{env:Env}{ρ:Rho}{s:Shared}{rs:List Nat}{st0:St}(H:HI C ρ st s)(F:FI C env sc ρ st.m s)(S:Sub st rs st0)(hm:∀x v',lookS x st0.m=some v'→∃v,lookS x st.m=some v∧Val rs v v'):FI C env sc (pick ρ rs) st0.m s where
 ok:=F.ok
 lo:=F.lo
 ns:=F.ns
 out:=fun h=>by
  obtain⟨i,_,e,he,ha⟩:=Z6 h;exact F.out (Zz he ha)
 cell:=fun x c hc=>by
  obtain⟨h1,h2,h3,h4⟩:=F.cell x c hc;refine⟨h1,fun h=>?_,h3,h4⟩;obtain⟨i,_,e,he,ha⟩:=Z6 h;exact h2 (Zz he ha)
 apart:=F.apart
 has:=F.has
 vars:=fun x v' h=>by
  obtain⟨v,h1,w⟩:=hm x v' h;obtain⟨val,h2,h3⟩:=F.vars x v h1;exact⟨val,h2,w.to (S.ins H) h3⟩
theorem Zoa{st0:St}{rs:List Nat}{l:List Stmt}(S:Sub st rs st0)(hm:∀x v',lookS x st0.m=some v'→∃v,lookS x st.m=some v∧Val rs v v')(h:S0 C n sc l st0 Z):S0 C n sc l st Z:=
 fun μ μ μ μ μ μ H F hs hA K=>h _ _ _ _ _ _ (H.sub S) (F.sub H S hm) hs hA K
noncomputable def puts:List (Nat×AO)→Tr AO
 | []=> .nil
 |(i,o)::r=>(puts r).put (i+1) i o
theorem Zct:∀{l:List (Nat×AO)} {i:Nat} {o:AO},(puts l).get i=some o→(i,o)∈l
 | [],_,_,h=>by exact nnO h
 |(j,p)::r,i,o,h=>by
  have e:(puts ((j,p)::r)).get i=if i=j then some p else(puts r).get i:=Tr.get_put _ _ _ _ _ (Nat.lt_succ_self j)
  rw[e]at h;by_cases q:i=j
  ·rw[if_pos q]at h;cases h;subst q;exact List.mem_cons_self
  ·rw[if_neg q]at h;exact List.mem_cons_of_mem _ (Zct h)
noncomputable def mkSt(n:Nat)(os:List (Nat×AO))(m:List (Str×V)):St:=⟨m,n,puts os⟩
noncomputable def Yv(is:List Nat)(st:St):List (Option AO):=is.map fun i=>st.σ.get i
noncomputable def Y5(xs:List Str)(st:St):List (Option V):=xs.map fun x=>lookS x st.m
inductive WOs:List Nat→List (Option AO)→List (Nat×AO)→Prop
 |nil:WOs [] [] []
 |cons (i:Nat) (o o':AO) (is:List Nat) (os:List (Option AO)) (l:List (Nat×AO)):WO o o'→WOs is os l→WOs (i::is) (some o::os) ((i,o')::l)
inductive WMs:List Str→List (Option V)→List (Str×V)→Prop
 |nil:WMs [] [] []
 |cons (x:Str) (v v':V) (xs:List Str) (vs:List (Option V)) (l:List (Str×V)):WV v v'→WMs xs vs l→WMs (x::xs) (some v::vs) ((x,v')::l)
theorem WOs.mem:∀{is:List Nat} {os:List (Option AO)} {l:List (Nat×AO)},WOs is os l→∀{st:St},Yv is st=os→∀{i:Nat} {o':AO},(i,o')∈l→∃o,st.σ.get i=some o∧WO o o':=by
 intro is os l w
 induction w with
 |nil=>intro μ μ μ μ h;cases h
 |cons i o o1 is os l w _ ih=>
  intro st e j o' h;have e':=List.cons.inj e;exact(List.mem_cons.mp h).elim (fun h=>(Prod.mk.inj h).1▸(Prod.mk.inj h).2▸⟨o,e'.1,w⟩) (ih e'.2)
theorem WMs.look:∀{xs:List Str} {vs:List (Option V)} {l:List (Str×V)},WMs xs vs l→∀{st:St},Y5 xs st=vs→∀{x:Str} {v':V},lookS x l=some v'→∃v,lookS x st.m=some v∧WV v v':=by
 intro xs vs l w
 induction w with
 |nil=>intro μ μ μ μ h;exact nnO h
 |cons y v v1 xs vs l w _ ih=>
  intro st e x v' h;have e':=List.cons.inj e;rw[ZE]at h;cases q:strEq y x with
  |true=>rw[q]at h;exact Za.mp q▸Option.some.inj h▸⟨v,e'.1,w⟩
  |false=>rw[q]at h;exact ih e'.2 h
theorem ws_of{st:St}{n:Nat}{is:List Nat}{xs:List Str}{os:List (Option AO)}{vs:List (Option V)}{os':List (Nat×AO)}{m':List (Str×V)}(h1:st.n=n)(h2:Yv is st=os)(h3:Y5 xs st=vs)(w2:WOs is os os')(w3:WMs xs vs m'):WS st (mkSt n os' m') where
 n:=h1.symm
 m:=fun x v' h=>w3.look h3 h
 σ:=fun i o' h=>w2.mem h2 (Zct h)
noncomputable abbrev KO:=Nat→List (Option AO)→List (Option V)→Prop
noncomputable def kO(is:List Nat)(xs:List Str)(K:KO):KS:=fun f st=>match f with
 | .nxt=>K st.n (Yv is st) (Y5 xs st)
 |_=>Bad 600
theorem YR(GK:GOK C g)(hm:m≤n){a b:List Stmt}{is:List Nat}{xs:List Str}{n1:Nat}{os:List (Option AO)}{vs:List (Option V)}{os':List (Nat×AO)}{m':List (Str×V)}{O:Prop}
  (run:∀K:KO,(evF g m).ss sc a st (kO is xs K)=(O∧K n1 os vs))(hO:O)(w2:WOs is os os')(w3:WMs xs vs m')(h:S0 C n sc b (mkSt n1 os' m') Z):S0 C n sc (a++b) st Z:=by
 refine Zlm ?_;have hr:=run fun n2 o2 v2=>∀st':St,st'.n=n2→Yv is st'=o2→Y5 xs st'=v2→S0 C n sc b st' Z;have h0:=hr.symm▸(⟨hO,fun st' h1 h2 h3=>Zej (ws_of h1 h2 h3 w2 w3) h⟩:O∧_);have S:=ZbI GK hm h0;intro A env ρ s Q E H F hs hA K;refine S A env ρ s Q E H F hs hA fun f fl st' ρ' s' hk H' F' e' r'=>?_;refine K f fl st' ρ' s' ?_ H' F' e' r';cases f with
 |nxt=>exact hk st' rfl rfl rfl
 |_=>exact noB hk
end
noncomputable def yiqV(r g b:UInt64):List V:=[.flt (yF r g b), .flt (iF (yF r g b) r b), .flt (qF (yF r g b) r b)]
noncomputable def ZeF(vs:List V)(n:Nat)(k:UInt64→UInt64→UInt64→Prop):Prop:=ZcU vs n fun a b c=>Zas a n fun x=>Zas b n fun y=>Zas c n fun z=>k x y z
theorem Zb0{vs:List V}{n:Nat}{k:UInt64→UInt64→UInt64→Prop}(h:ZeF vs n k):∃x y z,vs=[.flt x, .flt y, .flt z]∧k x y z:=by
 refine Classical.byContradiction fun hnG=>?_;obtain⟨_,_,_,rfl,h⟩:=Zbu h;obtain⟨x,rfl,h⟩:=Zbi h;obtain⟨y,rfl,h⟩:=Zbi h;obtain⟨z,rfl,h⟩:=Zbi h;refine hnG ?_;exact⟨x,y,z,rfl,h⟩
noncomputable def ZiO:Con:=fun vs st k=>ZeF vs 340 fun r g b=>k (.tup (yiqV r g b)) st
theorem ZlW(r g b:UInt64)(K1:V→Nat→Tr AO→Prop):((evF gN 100).ss (fnOf "rgb_to_yiq").scope.names (fnOf "rgb_to_yiq").body {stF []with m:=[("r", .flt r),("g", .flt g),("b", .flt b)]} (contF K1))
  =K1 (.tup (yiqV r g b)) (stF ([]++[])).n (stF ([]++[])).σ:=by
 kernel_rfl
theorem ZgJ{C:Ctx}{a:Addr}{fd:FuncData}(T:FnAt C "rgb_to_yiq" (fnOf "rgb_to_yiq") a fd)(GK:GOK C gN)(hok:okFn (fnOf "rgb_to_yiq")=true)(hp:Zc (fnOf "rgb_to_yiq").params=[("r":Str),("g":Str),("b":Str)]):ConOK C "rgb_to_yiq" 101 ZiO (.ref a):=by
 refine ZfE T GK 100 hok fun {vs st k} h=>?_;refine Classical.byContradiction fun hnG=>?_;obtain⟨r,g,b,rfl,h⟩:=Zb0 h;refine hnG ?_;refine⟨[],stF [],[.flt r, .flt g, .flt b],SubL.nil.sub List.nodup_nil, .cons _ _ _ _ (.flt r) (.cons _ _ _ _ (.flt g) (.cons _ _ _ _ (.flt b) .nil)),?_⟩;exact Zc5 (objs:=[]) (extra:=[]) (l:=yiqV r g b) (mm:=[("r", .flt r),("g", .flt g),("b", .flt b)]) (by refine(hp).symm▸?_;rfl) (fun K1=>(ZlW r g b K1).mpr) rfl h
noncomputable def cutY(b1 b2 b3 b4 b5 b6:Bool)(p:Pos):Option V:=match Nat.beq p.line 48 with
 |true=>some (.bool b1)
 |false=>match Nat.beq p.line 50 with
  |true=>some (.bool b2)
  |false=>match Nat.beq p.line 52 with
   |true=>some (.bool b3)
   |false=>match Nat.beq p.line 54 with
    |true=>some (.bool b4)
    |false=>match Nat.beq p.line 56 with
     |true=>some (.bool b5)
     |false=>match Nat.beq p.line 58 with
      |true=>some (.bool b6)
      |false=>none
noncomputable def gY(b1 b2 b3 b4 b5 b6:Bool):G:={gN with cut:=cutY b1 b2 b3 b4 b5 b6}
noncomputable def rgbL(y i q:UInt64)(K1:V→Nat→Tr AO→Prop)(b1 b2 b3 b4 b5 b6:Bool):Prop:=(evF (gY b1 b2 b3 b4 b5 b6) 100).ss (fnOf "yiq_to_rgb").scope.names (fnOf "yiq_to_rgb").body {stF []with m:=[("y", .flt y),("i", .flt i),("q", .flt q)]} (contF K1)
noncomputable def rgbR(y i q:UInt64)(K1:V→Nat→Tr AO→Prop)(b1 b2 b3 b4 b5 b6:Bool):Prop:=isLo (rF y i q)=b1∧isLo (gF y i q)=b2∧isLo (bF y i q)=b3∧isHi (sel b1 0x0000000000000000 (rF y i q))=b4∧isHi (sel b2 0x0000000000000000 (gF y i q))=b5∧isHi (sel b3 0x0000000000000000 (bF y i q))=b6∧
   K1 (.tup [.flt (sel b4 0x3ff0000000000000 (sel b1 0x0000000000000000 (rF y i q))), .flt (sel b5 0x3ff0000000000000 (sel b2 0x0000000000000000 (gF y i q))), .flt (sel b6 0x3ff0000000000000 (sel b3 0x0000000000000000 (bF y i q)))]) (stF ([]++[])).n (stF ([]++[])).σ
theorem bool2{P:Bool→Prop}(f:P false)(t:P true):∀b,P b:=fun b=>by cases b with|false=>exact f|true=>exact t
section
variable(y i q:UInt64)(K1:V→Nat→Tr AO→Prop)
noncomputable abbrev R6(b1 b2 b3 b4 b5 b6:Bool):Prop:=rgbL y i q K1 b1 b2 b3 b4 b5 b6=rgbR y i q K1 b1 b2 b3 b4 b5 b6
noncomputable def R5(b1 b2 b3 b4 b5:Bool):Prop:=∀b6,R6 y i q K1 b1 b2 b3 b4 b5 b6
noncomputable def R4(b1 b2 b3 b4:Bool):Prop:=∀b5,R5 y i q K1 b1 b2 b3 b4 b5
noncomputable def R3'(b1 b2 b3:Bool):Prop:=∀b4,R4 y i q K1 b1 b2 b3 b4
noncomputable def R2'(b1 b2:Bool):Prop:=∀b3,R3' y i q K1 b1 b2 b3
noncomputable def R1'(b1:Bool):Prop:=∀b2,R2' y i q K1 b1 b2
theorem rgb5(b1 b2 b3 b4 b5:Bool)(f:rgbL y i q K1 b1 b2 b3 b4 b5 false=rgbR y i q K1 b1 b2 b3 b4 b5 false)(t:rgbL y i q K1 b1 b2 b3 b4 b5 true=rgbR y i q K1 b1 b2 b3 b4 b5 true):R5 y i q K1 b1 b2 b3 b4 b5:=bool2 f t
theorem rgb4(b1 b2 b3 b4:Bool)(f:R5 y i q K1 b1 b2 b3 b4 false)(t:R5 y i q K1 b1 b2 b3 b4 true):R4 y i q K1 b1 b2 b3 b4:=bool2 f t
theorem Zmo:∀b1,R1' y i q K1 b1:=
 (bool2 (bool2 (bool2 (bool2 (rgb4 y i q K1 false false false false (rgb5 y i q K1 false false false false false (by kernel_rfl) (by kernel_rfl)) (rgb5 y i q K1 false false false false true (by kernel_rfl) (by kernel_rfl))) (rgb4 y i q K1 false false false true (rgb5 y i q K1 false false false true false (by kernel_rfl) (by kernel_rfl)) (rgb5 y i q K1 false false false true true (by kernel_rfl) (by kernel_rfl)))) (bool2 (rgb4 y i q K1 false false true false (rgb5 y i q K1 false false true false false (by kernel_rfl) (by kernel_rfl)) (rgb5 y i q K1 false false true false true (by kernel_rfl) (by kernel_rfl))) (rgb4 y i q K1 false false true true (rgb5 y i q K1 false false true true false (by kernel_rfl) (by kernel_rfl)) (rgb5 y i q K1 false false true true true (by kernel_rfl) (by kernel_rfl))))) (bool2 (bool2 (rgb4 y i q K1 false true false false (rgb5 y i q K1 false true false false false (by kernel_rfl) (by kernel_rfl)) (rgb5 y i q K1 false true false false true (by kernel_rfl) (by kernel_rfl))) (rgb4 y i q K1 false true false true (rgb5 y i q K1 false true false true false (by kernel_rfl) (by kernel_rfl)) (rgb5 y i q K1 false true false true true (by kernel_rfl) (by kernel_rfl)))) (bool2 (rgb4 y i q K1 false true true false (rgb5 y i q K1 false true true false false (by kernel_rfl) (by kernel_rfl)) (rgb5 y i q K1 false true true false true (by kernel_rfl) (by kernel_rfl))) (rgb4 y i q K1 false true true true (rgb5 y i q K1 false true true true false (by kernel_rfl) (by kernel_rfl)) (rgb5 y i q K1 false true true true true (by kernel_rfl) (by kernel_rfl)))))) (bool2 (bool2 (bool2 (rgb4 y i q K1 true false false false (rgb5 y i q K1 true false false false false (by kernel_rfl) (by kernel_rfl)) (rgb5 y i q K1 true false false false true (by kernel_rfl) (by kernel_rfl))) (rgb4 y i q K1 true false false true (rgb5 y i q K1 true false false true false (by kernel_rfl) (by kernel_rfl)) (rgb5 y i q K1 true false false true true (by kernel_rfl) (by kernel_rfl)))) (bool2 (rgb4 y i q K1 true false true false (rgb5 y i q K1 true false true false false (by kernel_rfl) (by kernel_rfl)) (rgb5 y i q K1 true false true false true (by kernel_rfl) (by kernel_rfl))) (rgb4 y i q K1 true false true true (rgb5 y i q K1 true false true true false (by kernel_rfl) (by kernel_rfl)) (rgb5 y i q K1 true false true true true (by kernel_rfl) (by kernel_rfl))))) (bool2 (bool2 (rgb4 y i q K1 true true false false (rgb5 y i q K1 true true false false false (by kernel_rfl) (by kernel_rfl)) (rgb5 y i q K1 true true false false true (by kernel_rfl) (by kernel_rfl))) (rgb4 y i q K1 true true false true (rgb5 y i q K1 true true false true false (by kernel_rfl) (by kernel_rfl)) (rgb5 y i q K1 true true false true true (by kernel_rfl) (by kernel_rfl)))) (bool2 (rgb4 y i q K1 true true true false (rgb5 y i q K1 true true true false false (by kernel_rfl) (by kernel_rfl)) (rgb5 y i q K1 true true true false true (by kernel_rfl) (by kernel_rfl))) (rgb4 y i q K1 true true true true (rgb5 y i q K1 true true true true false (by kernel_rfl) (by kernel_rfl)) (rgb5 y i q K1 true true true true true (by kernel_rfl) (by kernel_rfl)))))))
end
theorem Zmn(y i q:UInt64)(K1:V→Nat→Tr AO→Prop)(b1 b2 b3 b4 b5 b6:Bool):((evF (gY b1 b2 b3 b4 b5 b6) 100).ss (fnOf "yiq_to_rgb").scope.names (fnOf "yiq_to_rgb").body {stF []with m:=[("y", .flt y),("i", .flt i),("q", .flt q)]} (contF K1))
 =rgbR y i q K1 b1 b2 b3 b4 b5 b6:=Zmo y i q K1 b1 b2 b3 b4 b5 b6
noncomputable def rgbV(y i q:UInt64):List V:=[.flt (clip (rF y i q)), .flt (clip (gF y i q)), .flt (clip (bF y i q))]
noncomputable def ZiQ:Con:=fun vs st k=>ZeF vs 341 fun y i q=>k (.tup (rgbV y i q)) st
theorem Zhz{C:Ctx}{a:Addr}{fd:FuncData}(T:FnAt C "yiq_to_rgb" (fnOf "yiq_to_rgb") a fd)(GK:GOK C gN)(hok:okFn (fnOf "yiq_to_rgb")=true)(hp:Zc (fnOf "yiq_to_rgb").params=[("y":Str),("i":Str),("q":Str)]):ConOK C "yiq_to_rgb" 101 ZiQ (.ref a):=by
 refine ZiN T 100 hok fun {vs st k} h=>?_;refine Classical.byContradiction fun hnG=>?_;obtain⟨y,i,q,rfl,h⟩:=Zb0 h;refine hnG ?_;refine⟨gY (isLo (rF y i q)) (isLo (gF y i q)) (isLo (bF y i q)) (isHi (sel (isLo (rF y i q)) 0 (rF y i q))) (isHi (sel (isLo (gF y i q)) 0 (gF y i q))) (isHi (sel (isLo (bF y i q)) 0 (bF y i q))),⟨GK.fn,GK.con,GK.meth,GK.nob,GK.nxt⟩,[],stF [],[.flt y, .flt i, .flt q],SubL.nil.sub List.nodup_nil, .cons _ _ _ _ (.flt y) (.cons _ _ _ _ (.flt i) (.cons _ _ _ _ (.flt q) .nil)),?_⟩;refine Zc5 (objs:=[]) (extra:=[]) (l:=rgbV y i q) (mm:=[("y", .flt y),("i", .flt i),("q", .flt q)]) (by refine(hp).symm▸?_;rfl) (fun K1 h=>(Zmn y i q K1 _ _ _ _ _ _).mpr ⟨rfl,rfl,rfl,rfl,rfl,rfl,h⟩) rfl h
end Mine
end
noncomputable section
open PySem PyProof.Rows
open Float64
namespace Mine
set_option backward.match.sparseCases false
theorem Fi_of{x:UInt64}(h:isFinite x=true):Fi x:=by
 delta isFinite at h
 cases hd:decode x with
 |fin a m e=>exact⟨a,m,e,hd⟩
 |nan=>rw[hd]at h;cases h
 |inf a=>rw[hd]at h;cases h
theorem ZhX{x y:UInt64}(hx:Fi x)(hy:Fi y):mul x y=mul y x:=by
 obtain⟨a,m,e,hx⟩:=hx;obtain⟨b,k,f,hy⟩:=hy
 delta mul
 rw[hx,hy]
 dsimp only
 rw[Nat.mul_comm k m,Int.add_comm f e];congr 1;cases a<;>cases b<;>rfl
noncomputable def eF(a:Int):UInt64:=Float64.ofFrac (decide (a<0) !=decide ((8:Int)<0)) a.natAbs (8:Int).natAbs
noncomputable def dueZ(n:Int):Int:=if(if n > 0 then n else 0)<800 then(if n > 0 then n else 0)else 800
noncomputable def partF(x:UInt64)(n:Int):Bool:=Float64.cmpInt (Float64.mul (Float64.abs (Float64.sub (Float64.mul x (Float64.ofInt 800)) (Float64.ofInt (dueZ n)))) (Float64.ofInt 1000)) 1==some Ordering.gt
noncomputable def cutF(x:UInt64):Int:=match Float64.decode x with| .fin sg m e=>Float64.truncOf sg m e|_=>0
noncomputable def JF(x:UInt64)(l h:Int):Prop:=Fi x∧l*U≤val x∧val x≤h*U
theorem pw53:(2:Int) ^ 53=9007199254740992:=by decide+kernel
theorem pw34:(2:Int) ^ 34=17179869184:=by decide+kernel
theorem ltUU{a b:Int}(h:a<b):a*U<b*U:=Int.mul_lt_mul_of_pos_right h U_pos
theorem leUU{a b:Int}(h:a≤b):a*U≤b*U:=Int.mul_le_mul_of_nonneg_right h (Int.le_of_lt U_pos)
theorem J_add{x y:UInt64}{l h l' h':Int}(X:JF x l h)(Y:JF y l' h')(k1: -9007199254740992<l+l')(k2:h+h'<9007199254740992):JF (add x y) (l+l'-1) (h+h'+1):=by
 rw[←pw53]at k1 k2;have q1:=ltUU k1;have q2:=ltUU k2;rw[Int.neg_mul,Int.add_mul]at q1;rw[Int.add_mul]at q2;have s:=ZlR X.1 Y.1 (Int.lt_of_lt_of_le q1 (Int.add_le_add X.2.1 Y.2.1)) (Int.lt_of_le_of_lt (Int.add_le_add X.2.2 Y.2.2) q2);refine⟨s.1,Int.le_trans ?_ s.2.1,Int.le_trans s.2.2 ?_⟩
 ·rw[Int.sub_mul,Int.add_mul,Int.one_mul];exact Int.sub_le_sub_right (Int.add_le_add X.2.1 Y.2.1) _
 ·rw[Int.add_mul,Int.add_mul,Int.one_mul];exact Int.add_le_add_right (Int.add_le_add X.2.2 Y.2.2) _
theorem J_neg{y:UInt64}{l h:Int}(Y:JF y l h):JF (neg y) (-h) (-l):=by
 obtain⟨⟨b,k,f,hy⟩,h1,h2⟩:=Y;refine⟨⟨_,_,_,neg_decode hy⟩,?_⟩;rw[neg_val hy,Int.neg_mul,Int.neg_mul];exact⟨Int.neg_le_neg h2,Int.neg_le_neg h1⟩
theorem ZlU{c x:UInt64}{C P l h:Int}(hc:Fi c)(hv:val c*P=C*2 ^ 1074)(hP:0<P)(hC:0≤C)(X:JF x l h)(k1: -(P*9007199254740992)<C*l)(k2:C*h<P*9007199254740992):JF (mul c x) (C*l / P-1) (-(-(C*h) / P)+1):=by
 rw[←pw53]at k1 k2;have a1:C*l*U≤C*val x:=by rw[Int.mul_assoc];exact Int.mul_le_mul_of_nonneg_left X.2.1 hC
 have a2:C*val x≤C*h*U:=by rw[Int.mul_assoc];exact Int.mul_le_mul_of_nonneg_left X.2.2 hC
 have q1:=ltUU k1;rw[Int.neg_mul]at q1;have m:=Zmz hc hv hP X.1 (Int.lt_of_lt_of_le q1 a1) (Int.lt_of_le_of_lt a2 (ltUU k2));refine⟨m.1,Int.le_of_mul_le_mul_right (a:=P) (Int.le_trans ?_ m.2.1) hP,Int.le_of_mul_le_mul_right (a:=P) (Int.le_trans m.2.2 ?_) hP⟩
 ·rw[Int.mul_right_comm,Int.sub_mul,Int.one_mul,Int.sub_mul];exact Int.sub_le_sub_right (Int.le_trans (leUU (Int.ediv_mul_le _ (Int.ne_of_gt hP))) a1) _
 ·rw[Int.mul_right_comm,Int.add_mul,Int.one_mul,Int.add_mul];refine Int.add_le_add_right (Int.le_trans a2 (leUU ?_)) _;rw[Int.neg_mul];exact Int.le_neg_of_le_neg (Int.ediv_mul_le _ (Int.ne_of_gt hP))
theorem J_int{n:Int}(h1: -524288<n)(h2:n<524288):JF (ofInt n) (n*17179869184-1) (n*17179869184+1):=by
 have o:=ZjW (n:=n) h1 h2;refine(pw34)▸?_;refine⟨o.1,?_,?_⟩
 ·rw[Int.sub_mul,Int.one_mul,Int.mul_assoc];exact o.2.1
 ·rw[Int.add_mul,Int.one_mul,Int.mul_assoc];exact o.2.2
theorem val0:val 0x0000000000000000=0:=by decide+kernel
noncomputable def mxI(a b:Int):Int:=match decide (a≤b)with
 |true=>b
 |false=>a
theorem Zoy(a b:Int):(a≤b∧mxI a b=b)∨(b≤a∧mxI a b=a):=by
 delta mxI
 cases h:decide (a≤b)
 ·exact .inr ⟨Int.le_of_lt (Int.not_le.mp (of_decide_eq_false h)),rfl⟩
 ·exact .inl ⟨of_decide_eq_true h,rfl⟩
theorem mxIU(a b:Int):(a*U≤b*U∧mxI a b*U=b*U)∨(b*U≤a*U∧mxI a b*U=a*U):=
 (Zoy a b).imp (fun h=>⟨leUU h.1,by rw[h.2]⟩) fun h=>⟨leUU h.1,by rw[h.2]⟩
theorem J_abs{x:UInt64}{l h:Int}(X:JF x l h):JF (Float64.abs x) 0 (mxI (-l) h):=by
 have a:=ZnD X.1;refine⟨a.1,?_,?_⟩<;>refine(a.2).symm▸?_
 ·rw[Int.zero_mul];exact Int.natCast_nonneg _
 ·have:=mxIU (-l) h;rw[Int.neg_mul]at this;have:=X.2;generalize mxI (-l) h*U=m at*;generalize l*U=l at*;generalize h*U=h at*;omega
theorem J_lo{x:UInt64}{l h:Int}(X:JF x l h):JF (sel (isLo x) 0x0000000000000000 x) (mxI l 0) (mxI h 0):=by
 have hc:isLo x=decide (val x<0):=by
  obtain⟨a,m,e,h⟩:=X.1
  delta isLo
  rw[cmp_right h (show decode 0x0000000000000000= .fin false 0 (-1074) by kernel_rfl),val0]
  by_cases q:val x<0
  ·rw[Int.compare_eq_lt.mpr q,decide_eq_true q];rfl
  ·refine(decide_eq_false q).symm▸?_;rcases Int.lt_or_eq_of_le (Int.not_lt.mp q)with q|q
   ·refine(Int.compare_eq_gt.mpr q).symm▸?_;rfl
   ·refine(q)▸?_;decide
 have a:=mxIU l 0;have b:=mxIU h 0;rw[Int.zero_mul]at a b;obtain⟨f,c,d⟩:=X;refine(hc).symm▸?_;by_cases q:val x<0
 ·refine(decide_eq_true q).symm▸?_;refine⟨Fi_of (x:=0x0000000000000000) (by decide+kernel),?_,?_⟩<;>refine(show val (sel true 0x0000000000000000 x)=0 from val0).symm▸?_
  ·generalize mxI l 0*U=m at *; generalize l*U=l at *; generalize val x=v at *; clear b hc d;lia
  ·generalize mxI h 0*U=m at *; generalize h*U=h at *; generalize val x=v at *; clear a hc c;lia
 ·refine(decide_eq_false q).symm▸?_;refine⟨f,?_,?_⟩<;>dsimp only[sel]
  ·generalize mxI l 0*U=m at *; generalize l*U=l at *; generalize val x=v at *; clear b hc d;lia
  ·generalize mxI h 0*U=m at *; generalize h*U=h at *; generalize val x=v at *; clear a hc c;lia
noncomputable def mnI(a b:Int):Int:=match decide (a≤b)with
 |true=>a
 |false=>b
theorem mnIU(a b:Int):(a*U≤b*U∧mnI a b*U=a*U)∨(b*U≤a*U∧mnI a b*U=b*U):=by
 delta mnI
 cases h:decide (a≤b)
 ·exact .inr ⟨leUU (Int.le_of_lt (Int.not_le.mp (of_decide_eq_false h))),rfl⟩
 ·exact .inl ⟨leUU (of_decide_eq_true h),rfl⟩
theorem val1:val 0x3ff0000000000000=2 ^ 34*U:=by decide+kernel
theorem J_hi{x:UInt64}{l h:Int}(X:JF x l h):JF (sel (isHi x) 0x3ff0000000000000 x) (mnI l 17179869184) (mnI h 17179869184):=by
 refine(pw34)▸?_;have hc:isHi x=decide (2 ^ 34*U<val x):=by
  obtain⟨a,m,e,h⟩:=X.1
  delta isHi
  rw[cmp_right h (show decode 0x3ff0000000000000= .fin false (2 ^ 52) (-52) by kernel_rfl),val1]
  by_cases q:2 ^ 34*U<val x
  ·rw[Int.compare_eq_gt.mpr q,decide_eq_true q];rfl
  ·refine(decide_eq_false q).symm▸?_;rcases Int.lt_or_eq_of_le (Int.not_lt.mp q)with q|q
   ·refine(Int.compare_eq_lt.mpr q).symm▸?_;rfl
   ·rw[q,Int.compare_eq_eq.mpr rfl];decide
 have a:=mnIU l (2 ^ 34);have b:=mnIU h (2 ^ 34);obtain⟨f,c,d⟩:=X;refine(hc).symm▸?_;have val1:=val1;generalize (2 ^ 34:Int)*U=w at*;by_cases q:w<val x
 ·refine(decide_eq_true q).symm▸?_;refine⟨Fi_of (x:=0x3ff0000000000000) (by decide+kernel),?_,?_⟩<;>dsimp only[sel]<;>refine(val1).symm▸?_
  ·generalize mnI l (2 ^ 34)*U=m at *; generalize l*U=l at *; generalize val x=v at *; clear b hc d val1;lia
  ·generalize mnI h (2 ^ 34)*U=m at *; generalize h*U=h at *; generalize val x=v at *; clear a hc c val1;lia
 ·refine(decide_eq_false q).symm▸?_;refine⟨f,?_,?_⟩<;>dsimp only[sel]
  ·generalize mnI l (2 ^ 34)*U=m at *; generalize l*U=l at *; generalize val x=v at *; clear b hc d val1;lia
  ·generalize mnI h (2 ^ 34)*U=m at *; generalize h*U=h at *; generalize val x=v at *; clear a hc c val1;lia
inductive FE where
 |leaf (x:UInt64) (l h:Int)
 |add (a b:FE)
 |neg (a:FE)
 |mulc (c:UInt64) (C P:Int) (a:FE)
 |mulr (a:FE) (n:Int)
 |abs (a:FE)
 |clip (a:FE)
 |int (n:Int)
noncomputable def fxV:FE→UInt64
 | .leaf x _ _=>x
 | .add a b=>Float64.add (fxV a) (fxV b)
 | .neg a=>Float64.neg (fxV a)
 | .mulc c _ _ a=>mul c (fxV a)
 | .mulr a n=>mul (fxV a) (ofInt n)
 | .abs a=>Float64.abs (fxV a)
 | .clip a=>Mine.clip (fxV a)
 | .int n=>ofInt n
noncomputable def CstF(c:UInt64)(C P:Int):Prop:=Fi c∧val c*P=C*2 ^ 1074∧0<P∧0≤C
noncomputable def WFx:FE→Prop
 | .leaf x l h=>JF x l h
 | .add a b=>WFx a∧WFx b
 | .neg a=>WFx a
 | .mulc c C P a=>CstF c C P∧WFx a
 | .mulr a n=>CstF (ofInt n) n 1∧WFx a
 | .abs a=>WFx a
 | .clip a=>WFx a
 | .int _=>True
noncomputable def frcI(i:Int)(k:Int→Bool):Bool:=match i with
 | .ofNat n=>Nat.rec (motive:=fun μ=>Bool) (k (.ofNat 0)) (fun m μ=>k (.ofNat (Nat.succ m))) n
 | .negSucc n=>Nat.rec (motive:=fun μ=>Bool) (k (.negSucc 0)) (fun m μ=>k (.negSucc (Nat.succ m))) n
theorem Zab(i:Int)(k:Int→Bool):frcI i k=k i:=by
 cases i with
 |ofNat n=>cases n<;>rfl
 |negSucc n=>cases n<;>rfl
noncomputable def ckI(P l h:Int)(k:Int→Int→Bool):Bool:=frcI l fun l=>frcI h fun h=>decide (-(P*9007199254740992)<l)&&(decide (h<P*9007199254740992)&&k l h)
theorem ZiV{P l h:Int}{k:Int→Int→Bool}(e:ckI P l h k=true): -(P*9007199254740992)<l∧h<P*9007199254740992∧k l h=true:=by
 delta ckI at e
 rw[Zab,Zab,Bool.and_eq_true,Bool.and_eq_true]at e;exact⟨of_decide_eq_true e.1,of_decide_eq_true e.2.1,e.2.2⟩
noncomputable def fxE:FE→(Int→Int→Bool)→Bool
 | .leaf _ l h,k=>frcI l fun l=>frcI h fun h=>k l h
 | .add a b,k=>fxE a fun l h=>fxE b fun l' h'=>ckI 1 (l+l') (h+h') fun l h=>k (l-1) (h+1)
 | .neg a,k=>fxE a fun l h=>k (-h) (-l)
 | .mulc _ C P a,k=>fxE a fun l h=>ckI P (C*l) (C*h) fun l h=>k (l / P-1) (-(-h / P)+1)
 | .mulr a n,k=>fxE a fun l h=>ckI 1 (n*l) (n*h) fun l h=>k (l / 1-1) (-(-h / 1)+1)
 | .abs a,k=>fxE a fun l h=>k 0 (mxI (-l) h)
 | .clip a,k=>fxE a fun l h=>k (mnI (mxI l 0) 17179869184) (mnI (mxI h 0) 17179869184)
 | .int n,k=>frcI n fun n=>decide (-524288<n)&&(decide (n<524288)&&k (n*17179869184-1) (n*17179869184+1))
theorem Zaq:∀(e:FE) (k:Int→Int→Bool),WFx e→fxE e k=true→∃l h,JF (fxV e) l h∧k l h=true
 | .leaf x l h,k,W,e=>⟨l,h,W,by refine(e)▸?_;exact((Zab _ _).trans (Zab _ _)).symm⟩
 | .add a b,k,W,e=>
  have⟨_,_,A,e⟩:=Zaq a _ W.1 e;have⟨_,_,B,e⟩:=Zaq b _ W.2 e;have⟨c,d,e⟩:=ZiV e
  ⟨_,_,J_add A B (by rw[Int.one_mul]at c;exact c) (by rw[Int.one_mul]at d;exact d),e⟩
 | .neg a,k,W,e=>
  have⟨_,_,A,e⟩:=Zaq a _ W e
  ⟨_,_,J_neg A,e⟩
 | .mulc c C P a,k,W,e=>
  have⟨_,_,A,e⟩:=Zaq a _ W.2 e;have⟨x,y,e⟩:=ZiV e
  ⟨_,_,ZlU W.1.1 W.1.2.1 W.1.2.2.1 W.1.2.2.2 A x y,e⟩
 | .mulr a n,k,W,e=>
  have⟨_,_,A,e⟩:=Zaq a _ W.2 e;have⟨x,y,e⟩:=ZiV e
  ⟨_,_,by
   have:=ZlU W.1.1 W.1.2.1 W.1.2.2.1 W.1.2.2.2 A x y;rw[ZhX W.1.1 A.1]at this;exact this,e⟩
 | .abs a,k,W,e=>
  have⟨_,_,A,e⟩:=Zaq a _ W e
  ⟨_,_,J_abs A,e⟩
 | .clip a,k,W,e=>
  have⟨_,_,A,e⟩:=Zaq a _ W e
  ⟨_,_,J_hi (J_lo A),e⟩
 | .int n,k,W,e=>by
  delta fxE at e
  have e:=(Zab _ _).symm.trans e;rw[Bool.and_eq_true,Bool.and_eq_true]at e;exact⟨_,_,J_int (of_decide_eq_true e.1) (of_decide_eq_true e.2.1),e.2.2⟩
theorem eF_ok{a:Int}(h0:0≤a)(h1:a≤8):Float64.isInf (eF a)=false∧JF (eF a) (2147483648*a) (2147483648*a):=by
 have:a=0∨a=1∨a=2∨a=3∨a=4∨a=5∨a=6∨a=7∨a=8:=by lia
 rcases this with rfl|rfl|rfl|rfl|rfl|rfl|rfl|rfl|rfl<;>exact⟨by decide+kernel,Fi_of (by decide+kernel),by decide+kernel,by decide+kernel⟩
noncomputable def cstB(t:UInt64×Int×Int):Bool:=isFinite t.1&&(decide (val t.1*t.2.2=t.2.1*2 ^ 1074)&&(decide (0<t.2.2)&&decide (0≤t.2.1)))
theorem ZlN{c:UInt64}{C P:Int}(h:cstB (c,C,P)=true):CstF c C P:=by
 delta cstB at h
 simp only[Bool.and_eq_true,decide_eq_true_eq]at h;exact⟨Fi_of h.1,h.2.1,h.2.2.1,h.2.2.2⟩
theorem ZdO{x:UInt64}(hx:Fi x){n:Int}(hn:0≤n)(h0:0<val x)(h1:n*2 ^ 1074≤val x)(h2:val x<(n+1)*2 ^ 1074):Float64.isFinite x=true∧cutF x=n:=by
 obtain⟨a,m,e,hd⟩:=hx;refine⟨by delta isFinite;rw[hd],?_⟩
 delta cutF
 rw[hd];exact Zjr hd hn h0 h1 h2
noncomputable def halfB(n l h:Int):Bool:=decide (0≤n)&&(decide (0<l)&&(decide (17179869184*(2*n)≤l)&&decide (h<17179869184*(2*n+1+1))))
theorem ZeD{x:UInt64}{l h n:Int}(X:JF x l h)(k:halfB n l h=true):Float64.isFinite x=true∧(cutF x).fdiv 2=n:=by
 delta halfB at k
 simp only[Bool.and_eq_true,decide_eq_true_eq]at k;rw[←pw34]at k;obtain⟨k0,k1,k2,k3⟩:=k;have h0:0<val x:=Int.lt_of_lt_of_le (by rw[←Int.zero_mul U];exact ltUU k1) X.2.1
 have e (m:Int):m*2 ^ 1074=2 ^ 34*m*U:=by rw[S_eq,←Int.mul_assoc,Int.mul_comm m]
 have h1:2 ^ 34*(2*n)*U≤val x:=Int.le_trans (leUU k2) X.2.1;have h2:val x<2 ^ 34*(2*n+1+1)*U:=Int.lt_of_le_of_lt X.2.2 (ltUU k3);by_cases q:val x<(2*n+1)*2 ^ 1074
 ·obtain⟨r1,r2⟩:=ZdO X.1 (n:=2*n) (by lia) h0 (by rw[e];exact h1) q
  refine⟨r1,?_⟩;rw[r2,Int.fdiv_eq_ediv_of_nonneg _ (by decide)]
  lia
 ·obtain⟨r1,r2⟩:=ZdO X.1 (n:=2*n+1) (by lia) h0 (Int.not_lt.mp q) (by rw[e];exact h2)
  refine⟨r1,?_⟩;rw[r2,Int.fdiv_eq_ediv_of_nonneg _ (by decide)]
  lia
noncomputable def fxY(a b c:Int):FE:= .add (.add (.mulc 0x3fd3333333333333 5404319552844595 18014398509481984 (.leaf (eF a) (2147483648*a) (2147483648*a))) (.mulc 0x3fe2e147ae147ae1 5314247560297185 9007199254740992 (.leaf (eF b) (2147483648*b) (2147483648*b)))) (.mulc 0x3fbc28f5c28f5c29 7926335344172073 72057594037927936 (.leaf (eF c) (2147483648*c) (2147483648*c)))
noncomputable def fxI(y a c:FE):FE:= .add (.mulc 0x3fe7ae147ae147ae 6665327448508334 9007199254740992 (.add a (.neg y))) (.neg (.mulc 0x3fd147ae147ae148 4863887597560136 18014398509481984 (.add c (.neg y))))
noncomputable def fxQ(y a c:FE):FE:= .add (.mulc 0x3fdeb851eb851eb8 8646911284551352 18014398509481984 (.add a (.neg y))) (.mulc 0x3fda3d70a3d70a3d 7385903388887613 18014398509481984 (.add c (.neg y)))
noncomputable def fxR(y i q:FE):FE:= .add (.add y (.mulc 0x3fee4cdbef721b32 8528756800101170 9007199254740992 i)) (.mulc 0x3fe3f42ceedac0be 5616498380554430 9007199254740992 q)
noncomputable def fxG(y i q:FE):FE:= .add (.add y (.neg (.mulc 0x3fd1961eec8cbb3a 4950134165912378 18014398509481984 i))) (.neg (.mulc 0x3fe45794d16efff3 5725796214702067 9007199254740992 q))
noncomputable def fxB(y i q:FE):FE:= .add (.add y (.neg (.mulc 0x3ff1bc99b7dee436 4992443004937270 4503599627370496 i))) (.mulc 0x3ffb5817a6224a7f 7696682965944959 4503599627370496 q)
noncomputable def fxP(x:FE)(n:Int):FE:= .mulr (.abs (.add (.mulr (.clip x) 800) (.neg (.int n)))) 1000
noncomputable def tpB(n:Int)(x:FE):Bool:=frcI (dueZ n) fun n=>fxE (fxP x n) fun μ h=>decide (h≤17179869184)
noncomputable def fwC:FE→Bool
 | .leaf _ _ _=>true
 | .add a b=>fwC a&&fwC b
 | .neg a=>fwC a
 | .mulc c C P a=>cstB (c,C,P)&&fwC a
 | .mulr a n=>cstB (ofInt n,n,1)&&fwC a
 | .abs a=>fwC a
 | .clip a=>fwC a
 | .int _=>true
noncomputable def LFx:FE→Prop
 | .leaf x l h=>JF x l h
 | .add a b=>LFx a∧LFx b
 | .neg a=>LFx a
 | .mulc _ _ _ a=>LFx a
 | .mulr a _=>LFx a
 | .abs a=>LFx a
 | .clip a=>LFx a
 | .int _=>True
theorem wf_of:∀e:FE,fwC e=true→LFx e→WFx e
 | .leaf _ _ _,_,h=>h
 | .add a b,w,h=>⟨wf_of a (Bool.and_eq_true_iff.mp w).1 h.1,wf_of b (Bool.and_eq_true_iff.mp w).2 h.2⟩
 | .neg a,w,h=>wf_of a w h
 | .mulc _ _ _ a,w,h=>⟨ZlN (Bool.and_eq_true_iff.mp w).1,wf_of a (Bool.and_eq_true_iff.mp w).2 h⟩
 | .mulr a _,w,h=>⟨ZlN (Bool.and_eq_true_iff.mp w).1,wf_of a (Bool.and_eq_true_iff.mp w).2 h⟩
 | .abs a,w,h=>wf_of a w h
 | .clip a,w,h=>wf_of a w h
 | .int _,_,_=>trivial
theorem JT{e:FE}{k:Int→Int→Bool}(w:fwC e=true)(L:LFx e)(h:fxE e k=true):∃l h,JF (fxV e) l h∧k l h=true:=Zaq e k (wf_of e w L) h
theorem Zg2{n:Int}{x:FE}(w:fwC (fxP x 0)=true)(L:LFx x)(k:tpB n x=true):partF (Mine.clip (fxV x)) n=false:=by
 delta tpB at k
 rw[Zab]at k;obtain⟨l,h,X,k⟩:=JT (e:=fxP x (dueZ n)) w ⟨L,trivial⟩ k;have k:=of_decide_eq_true k;rw[←pw34]at k;obtain⟨a,m,e,hd⟩:=X.1
 delta partF Float64.sub
 show(cmpInt (fxV (fxP x (dueZ n))) 1==some Ordering.gt)=false;rw[cmpInt_right hd,Int.one_mul,S_eq];have:val (fxV (fxP x (dueZ n)))≤2 ^ 34*U:=Int.le_trans X.2.2 (leUU k);rcases Int.lt_or_eq_of_le this with q|q
 ·rw[Int.compare_eq_lt.mpr q];rfl
 ·rw[q,Int.compare_eq_eq.mpr rfl];rfl
noncomputable def yT(a b c:Int):UInt64:=yF (eF a) (eF b) (eF c)
noncomputable def iT(a b c:Int):UInt64:=iF (yT a b c) (eF a) (eF c)
noncomputable def qT(a b c:Int):UInt64:=qF (yT a b c) (eF a) (eF c)
noncomputable def iT'(a b c f:Int):UInt64:=Float64.mul (Float64.ofInt f) (iT a b c)
noncomputable def qT'(a b c f:Int):UInt64:=Float64.mul (Float64.ofInt f) (qT a b c)
noncomputable def yI(a b c:Int):UInt64:=Float64.add (Float64.mul (yT a b c) (Float64.ofInt 1600)) (Float64.ofInt 1)
noncomputable def iI(x:UInt64):UInt64:=Float64.add (Float64.mul x (Float64.ofInt 160000)) (Float64.ofInt 200001)
noncomputable def fxH(x:FE)(m n:Int):FE:= .add (.mulr x m) (.int n)
noncomputable def tfol(a b c f:Int)(y i q:FE):Bool:=fxE (.mulc (ofInt f) f 1 i) fun l h=>fxE (.mulc (ofInt f) f 1 q) fun l' h'=>
 tpB (lumaZ a b c+f*(100*a-lumaZ a b c)) (fxR y (.leaf (iT' a b c f) l h) (.leaf (qT' a b c f) l' h'))&&
 (tpB (lumaZ a b c+f*(100*b-lumaZ a b c)) (fxG y (.leaf (iT' a b c f) l h) (.leaf (qT' a b c f) l' h'))&&
 tpB (lumaZ a b c+f*(100*c-lumaZ a b c)) (fxB y (.leaf (iT' a b c f) l h) (.leaf (qT' a b c f) l' h')))
noncomputable def tollB(a b c:Int):Bool:=fxE (fxY a b c) fun l h=>fxE (fxH (.leaf (yT a b c) l h) 1600 1) (halfB (lumaZ a b c))&&
 fxE (fxI (.leaf (yT a b c) l h) (.leaf (eF a) (2147483648*a) (2147483648*a)) (.leaf (eF c) (2147483648*c) (2147483648*c))) fun l1 h1=>fxE (fxH (.leaf (iT a b c) l1 h1) 160000 200001) (halfB (warmZ a b c+100000))&&
 fxE (fxQ (.leaf (yT a b c) l h) (.leaf (eF a) (2147483648*a) (2147483648*a)) (.leaf (eF c) (2147483648*c) (2147483648*c))) fun l2 h2=>fxE (fxH (.leaf (qT a b c) l2 h2) 160000 200001) (halfB (tintZ a b c+100000))&&
 (tfol a b c 1 (.leaf (yT a b c) l h) (.leaf (iT a b c) l1 h1) (.leaf (qT a b c) l2 h2)&&(tfol a b c 2 (.leaf (yT a b c) l h) (.leaf (iT a b c) l1 h1) (.leaf (qT a b c) l2 h2)&&tfol a b c 3 (.leaf (yT a b c) l h) (.leaf (iT a b c) l1 h1) (.leaf (qT a b c) l2 h2)))
noncomputable def allZ(n:Nat)(p:Int→Bool):Bool:=Nat.rec (motive:=fun μ=>Bool) true (fun k r=>p (Int.ofNat k)&&r) n
theorem ZcV{p:Int→Bool}:∀{n:Nat},allZ n p=true→∀{i:Int},0≤i→i<n→p i=true
 |0,_,i,h0,h1=>absurd h1 (Int.not_lt.mpr h0)
 |n+1,h,i,h0,h1=>by
  have h:=Bool.and_eq_true_iff.mp h;rcases Int.lt_or_eq_of_le (Int.le_of_lt_add_one (b:=Int.ofNat n) h1)with q|q
  ·exact ZcV h.2 h0 q
  ·rw[q];exact h.1
theorem J0{n:Nat}{p:Int→Bool}(h:p (Int.ofNat n)=true)(r:allZ n p=true):allZ (n+1) p=true:=Bool.and_eq_true_iff.mpr ⟨h,r⟩
theorem Zpe{p:Int→Bool}:allZ 0 p=true:=rfl
noncomputable def tollA(a:Int):Bool:=allZ 9 fun b=>allZ 9 fun c=>tollB a b c
theorem toll0:tollA (Int.ofNat 0)=true:=by decide+kernel
theorem toll1:tollA (Int.ofNat 1)=true:=by decide+kernel
theorem toll2:tollA (Int.ofNat 2)=true:=by decide+kernel
theorem toll3:tollA (Int.ofNat 3)=true:=by decide+kernel
theorem toll4:tollA (Int.ofNat 4)=true:=by decide+kernel
theorem toll5:tollA (Int.ofNat 5)=true:=by decide+kernel
theorem toll6:tollA (Int.ofNat 6)=true:=by decide+kernel
theorem toll7:tollA (Int.ofNat 7)=true:=by decide+kernel
theorem toll8:tollA (Int.ofNat 8)=true:=by decide+kernel
theorem Zg3:allZ 9 tollA=true:=J0 (n:=8) toll8 (J0 (n:=7) toll7 (J0 (n:=6) toll6 (J0 (n:=5) toll5 (J0 (n:=4) toll4 (J0 (n:=3) toll3 (J0 (n:=2) toll2 (J0 (n:=1) toll1 (J0 (n:=0) toll0 Zpe))))))))
theorem ZoV(y i q:FE):fxV (fxR y i q)=rF (fxV y) (fxV i) (fxV q):=by kernel_rfl
theorem ZoY(y i q:FE):fxV (fxG y i q)=gF (fxV y) (fxV i) (fxV q):=by kernel_rfl
theorem ZoZ(y i q:FE):fxV (fxB y i q)=bF (fxV y) (fxV i) (fxV q):=by kernel_rfl
theorem ZoU(a b c:Int):fxV (fxY a b c)=yT a b c:=by kernel_rfl
theorem ZoX(a b c l h l' h' l1 h1:Int):fxV (fxI (.leaf (yT a b c) l h) (.leaf (eF a) l' h') (.leaf (eF c) l1 h1))=iT a b c:=by kernel_rfl
theorem ZoW(a b c l h l' h' l1 h1:Int):fxV (fxQ (.leaf (yT a b c) l h) (.leaf (eF a) l' h') (.leaf (eF c) l1 h1))=qT a b c:=by kernel_rfl
theorem ZoT(a b c l h:Int):fxV (fxH (.leaf (yT a b c) l h) 1600 1)=yI a b c:=by kernel_rfl
theorem ZlD(x:UInt64)(l h:Int):fxV (fxH (.leaf x l h) 160000 200001)=iI x:=by kernel_rfl
theorem fwR(x y z:UInt64)(l h l' h' l1 h1:Int):fwC (fxP (fxR (.leaf x l h) (.leaf y l' h') (.leaf z l1 h1)) 0)=true:=by kernel_rfl
theorem fwG(x y z:UInt64)(l h l' h' l1 h1:Int):fwC (fxP (fxG (.leaf x l h) (.leaf y l' h') (.leaf z l1 h1)) 0)=true:=by kernel_rfl
theorem fwB(x y z:UInt64)(l h l' h' l1 h1:Int):fwC (fxP (fxB (.leaf x l h) (.leaf y l' h') (.leaf z l1 h1)) 0)=true:=by kernel_rfl
theorem Zl8{a b c f l h l1 h1 l2 h2:Int}(hf:f=1∨f=2∨f=3)(Y:JF (yT a b c) l h)(I:JF (iT a b c) l1 h1)(Q:JF (qT a b c) l2 h2)(k:tfol a b c f (.leaf (yT a b c) l h) (.leaf (iT a b c) l1 h1) (.leaf (qT a b c) l2 h2)=true):
  partF (Mine.clip (rF (yT a b c) (iT' a b c f) (qT' a b c f))) (lumaZ a b c+f*(100*a-lumaZ a b c))=false∧
   partF (Mine.clip (gF (yT a b c) (iT' a b c f) (qT' a b c f))) (lumaZ a b c+f*(100*b-lumaZ a b c))=false∧
   partF (Mine.clip (bF (yT a b c) (iT' a b c f) (qT' a b c f))) (lumaZ a b c+f*(100*c-lumaZ a b c))=false:=by
 have hc:cstB (ofInt f,f,1)=true:=by rcases hf with rfl|rfl|rfl<;>decide+kernel
 delta tfol at k
 obtain⟨l3,h3,X,k⟩:=JT (e:= .mulc (ofInt f) f 1 (.leaf (iT a b c) l1 h1)) (Bool.and_eq_true_iff.mpr ⟨hc,rfl⟩) I k;obtain⟨l4,h4,Z,k⟩:=JT (e:= .mulc (ofInt f) f 1 (.leaf (qT a b c) l2 h2)) (Bool.and_eq_true_iff.mpr ⟨hc,rfl⟩) Q k;have X:JF (iT' a b c f) l3 h3:=X;have Z:JF (qT' a b c f) l4 h4:=Z;rw[Bool.and_eq_true,Bool.and_eq_true]at k;have r:=Zg2 (fwR ..) ⟨⟨Y,X⟩,Z⟩ k.1;have g:=Zg2 (fwG ..) ⟨⟨Y,X⟩,Z⟩ k.2.1;have b:=Zg2 (fwB ..) ⟨⟨Y,X⟩,Z⟩ k.2.2;rw[ZoV]at r;rw[ZoY]at g;rw[ZoZ]at b;exact⟨r,g,b⟩
noncomputable def ToldP(a b c f:Int):Prop:=
 (Float64.isInf (eF a)=false∧Float64.isInf (eF b)=false∧Float64.isInf (eF c)=false∧
  partF (Mine.clip (rF (yT a b c) (iT' a b c f) (qT' a b c f))) (lumaZ a b c+f*(100*a-lumaZ a b c))=false∧
  partF (Mine.clip (gF (yT a b c) (iT' a b c f) (qT' a b c f))) (lumaZ a b c+f*(100*b-lumaZ a b c))=false∧
  partF (Mine.clip (bF (yT a b c) (iT' a b c f) (qT' a b c f))) (lumaZ a b c+f*(100*c-lumaZ a b c))=false∧
  Float64.isFinite (yI a b c)=true∧Float64.isFinite (iI (iT a b c))=true∧Float64.isFinite (iI (qT a b c))=true)∧
 (cutF (yI a b c)).fdiv 2=lumaZ a b c∧(cutF (iI (iT a b c))).fdiv 2=warmZ a b c+100000∧(cutF (iI (qT a b c))).fdiv 2=tintZ a b c+100000
theorem Zjt{a b c f:Int}(a1:0≤a)(a2:a≤8)(b1:0≤b)(b2:b≤8)(c1:0≤c)(c2:c≤8)(hf:f=1∨f=2∨f=3):ToldP a b c f:=by
 have k:tollB a b c=true:=ZcV (ZcV (show tollA a=true from ZcV Zg3 a1 (Int.lt_add_one_of_le a2)) b1 (Int.lt_add_one_of_le b2)) c1 (Int.lt_add_one_of_le c2);obtain⟨A,ja⟩:=eF_ok a1 a2;obtain⟨B,jb⟩:=eF_ok b1 b2;obtain⟨C,jc⟩:=eF_ok c1 c2
 delta tollB at k
 obtain⟨l,h,Y,k⟩:=JT (e:=fxY a b c) (by kernel_rfl) ⟨⟨ja,jb⟩,jc⟩ k
 rw[ZoU]at Y;obtain⟨k1,k⟩:=Bool.and_eq_true_iff.mp k;obtain⟨_,_,Z,k1⟩:=JT (e:=fxH (.leaf (yT a b c) l h) 1600 1) (by kernel_rfl) ⟨Y,trivial⟩ k1
 rw[ZoT]at Z;have y1:=ZeD Z k1;obtain⟨l1,h1,I,k⟩:=JT (e:=fxI (.leaf (yT a b c) l h) (.leaf (eF a) (2147483648*a) (2147483648*a)) (.leaf (eF c) (2147483648*c) (2147483648*c))) (by kernel_rfl) ⟨⟨ja,Y⟩,jc,Y⟩ k
 rw[ZoX]at I;obtain⟨k1,k⟩:=Bool.and_eq_true_iff.mp k;obtain⟨_,_,Z,k1⟩:=JT (e:=fxH (.leaf (iT a b c) l1 h1) 160000 200001) (by kernel_rfl) ⟨I,trivial⟩ k1
 rw[ZlD]at Z;have i1:=ZeD Z k1;obtain⟨l2,h2,Q,k⟩:=JT (e:=fxQ (.leaf (yT a b c) l h) (.leaf (eF a) (2147483648*a) (2147483648*a)) (.leaf (eF c) (2147483648*c) (2147483648*c))) (by kernel_rfl) ⟨⟨ja,Y⟩,jc,Y⟩ k
 rw[ZoW]at Q;obtain⟨k1,k⟩:=Bool.and_eq_true_iff.mp k;obtain⟨_,_,Z,k1⟩:=JT (e:=fxH (.leaf (qT a b c) l2 h2) 160000 200001) (by kernel_rfl) ⟨Q,trivial⟩ k1
 rw[ZlD]at Z;have q1:=ZeD Z k1;rw[Bool.and_eq_true,Bool.and_eq_true]at k;have F:tfol a b c f (.leaf (yT a b c) l h) (.leaf (iT a b c) l1 h1) (.leaf (qT a b c) l2 h2)=true:=by
  rcases hf with rfl|rfl|rfl
  ·exact k.1
  ·exact k.2.1
  ·exact k.2.2
 obtain⟨p1,p2,p3⟩:=Zl8 hf Y I Q F;exact⟨⟨A,B,C,p1,p2,p3,y1.1,i1.1,q1.1⟩,y1.2,i1.2,q1.2⟩
end Mine
end
noncomputable section
open PySem PyProof.Rows
namespace Mine
set_option backward.match.sparseCases false
noncomputable def ZiP:Str→Option Con:=fun f=>match strEq f "rgb_to_yiq" with
 |true=>some ZiO
 |false=>match strEq f "yiq_to_rgb" with
  |true=>some ZiQ
  |false=>match strEq f "_law_own" with
   |true=>some ZdZ
   |false=>none
noncomputable def cutTo(p:Pos):Option V:=match Nat.beq p.line 217 with
 |true=>match Nat.beq p.col 11 with
  |true=>match Nat.beq p.endCol 47 with
   |true=>some (.bool false)
   |false=>none
  |false=>none
 |false=>none
noncomputable def gT:G:={fn:=fun μ=>none,con:=ZiP,cut:=cutTo,need:=fun μ=>101}
noncomputable def iV(x:UInt64):V:= .int ((JU (iI x)).fdiv 2-100000) (addB ((JU (iI x)).natAbs+1) (Int.natAbs 100000+1))
noncomputable def yV(a b c:Int):V:= .int ((JU (yI a b c)).fdiv 2) ((JU (yI a b c)).natAbs+1)
noncomputable def toldX(a b c:Int):List (List V):=[ownV a b c,[yV a b c],[.flt (iT a b c), .flt (qT a b c)],[iV (iT a b c),iV (qT a b c)],[yV a b c,iV (iT a b c),iV (qT a b c)]]
theorem Zjs(a b c f:Int)(K1:V→Nat→Tr AO→Prop):((evF gT 300).ss (fnOf "_law_told").scope.names (fnOf "_law_told").body {stF (lev3 a b c)with m:=[("levels", .ref 0),("factor", .int f 4)]} (contF K1))
  =(Float64.isInf (eF a)=false∧Float64.isInf (eF b)=false∧Float64.isInf (eF c)=false∧
   partF (clip (rF (yT a b c) (iT' a b c f) (qT' a b c f))) (lumaZ a b c+f*(100*a-lumaZ a b c))=false∧
   partF (clip (gF (yT a b c) (iT' a b c f) (qT' a b c f))) (lumaZ a b c+f*(100*b-lumaZ a b c))=false∧
   partF (clip (bF (yT a b c) (iT' a b c f) (qT' a b c f))) (lumaZ a b c+f*(100*c-lumaZ a b c))=false∧
   Float64.isFinite (yI a b c)=true∧Float64.isFinite (iI (iT a b c))=true∧Float64.isFinite (iI (qT a b c))=true∧
   K1 (.ref 5) (stF (lev3 a b c++toldX a b c)).n (stF (lev3 a b c++toldX a b c)).σ):=by
 kernel_rfl
noncomputable def Zly(v:V)(lid n:Nat)(k:Int→Prop):Prop:=Zo v n fun i b=>gd (under b lid) n (k i)
theorem Zh6{v:V}{lid n:Nat}{k:Int→Prop}(h:Zly v lid n k):∃i b,v= .int i b∧under b lid=true∧k i:=by
 refine Classical.byContradiction fun hnG=>?_;obtain⟨i,b,rfl,h⟩:=Yf h;refine hnG ?_;exact⟨i,b,rfl,(gd_of h).1,(gd_of h).2⟩
noncomputable def ZcM:Con:=fun vs st k=>Zaw vs 323 fun v w=>Z2 v 323 fun r=>Zly w 4 321 fun f=>Zk ((st.items r).bind fun l=>rowL3 9 l fun a b c=>(a,b,c)) 322 fun q=>
 (0≤q.1∧0≤q.2.1∧0≤q.2.2∧1≤f)∧(q.1≤8∧q.2.1≤8∧q.2.2≤8∧f≤3)∧k (.ref st.n) (st.new (.list (ownV q.1 q.2.1 q.2.2)))
theorem f123{f:Int}(h:1≤f)(h3:f≤3):f=1∨f=2∨f=3:=by lia
theorem ZfZ{C:Ctx}{a:Addr}{fd:FuncData}(T:FnAt C "_law_told" (fnOf "_law_told") a fd)(GK:GOK C gT)(hok:okFn (fnOf "_law_told")=true)(hp:Zc (fnOf "_law_told").params=[("levels":Str),("factor":Str)]):ConOK C "_law_told" 301 ZcM (.ref a):=by
 refine ZfE T GK 300 hok fun {vs st k} h=>?_;refine Classical.byContradiction fun hnG=>?_;obtain⟨_,_,rfl,h⟩:=JZ h;obtain⟨r,rfl,h⟩:=YJ h;obtain⟨f,_,rfl,h4,h⟩:=Zh6 h;obtain⟨_,e0,h⟩:=Zd h;obtain⟨l,e,e1⟩:=Option.bind_eq_some_iff.mp e0;obtain⟨x,y,z,rfl,vs⟩:=Ze6 [r] e1;have S:SubL st [r] [r] (lev3 x y z):= .cons _ _ _ _ _ (Ye e) vs .nil;obtain⟨⟨x0,y0,z0,f0⟩,⟨x8,y8,z8,f3⟩,h⟩:=h;obtain⟨⟨o1,o2,o3,o4,o5,o6,o7,o8,o9⟩,e1,e2,e3⟩:=Zjt x0 x8 y0 y8 z0 z8 (f123 f0 f3);have e1:(JU (yI x y z)).fdiv 2=lumaZ x y z:=e1;have e2:(JU (iI (iT x y z))).fdiv 2-100000=warmZ x y z:=Int.sub_eq_iff_eq_add.mpr e2;have e3:(JU (iI (qT x y z))).fdiv 2-100000=tintZ x y z:=Int.sub_eq_iff_eq_add.mpr e3;refine hnG ?_;refine⟨[r],stF (lev3 x y z),[.ref 0, .int f 4],S.sub (by simp), .cons _ _ _ _ (.ref _ 0 rfl) (.cons _ _ _ _ (.int _ _ _ (Ze0 h4)) .nil),?_⟩
 refine ZaS (objs:=lev3 x y z) (extra:=toldX x y z) (n:=5) (l:=[yV x y z,iV (iT x y z),iV (qT x y z)]) (l':=ownV x y z) (mm:=[("levels", .ref 0),("factor", .int f 4)]) (by refine(hp).symm▸?_;rfl) (fun K1 h=>(Zjs x y z f K1).mpr ⟨o1,o2,o3,o4,o5,o6,o7,o8,o9,h⟩) (Nat.le_of_ble_eq_true rfl) rfl rfl ?_ h
 ·unfold yV iV ownV;rw[e1,e2,e3];refine .cons _ _ _ _ (.int _ _ _ fun μ=>?_) (.cons _ _ _ _ (.int _ _ _ fun μ=>?_) (.cons _ _ _ _ (.int _ _ _ fun μ=>?_) .nil))
  ·unfold lumaZ;lia
  ·unfold warmZ lumaZ;lia
  ·unfold tintZ lumaZ;lia
noncomputable def onesV:Nat→List V
 |0=>[]
 |n+1=> .int 1 2::onesV n
noncomputable def szK(fin:List V→Prop)(l:List V):Nat→Option V→List V→Prop:=List.rec (motive:=fun μ=>Nat→Option V→List V→Prop) (fun n μ acc=>fin (acc++onesV (4-n)))
 (fun v μ ih n l acc=>Zo v 315 fun x b=>ifB (Nat.beq n 4) (fin acc) (ifB (Nat.beq b 1) (Zk l 312 fun v=>fin (acc++List.replicate (4-n) v))
  (ifB (Nat.beq b 128) (gd (decide (x=127)) 313 (fin (acc++onesV (4-n)))) (gd (Nat.blt b 128&&!Nat.beq b 0) 314 (x≠0∧ih (n+1) (some (.int x b)) (acc++[.int x b])))))) l
noncomputable def isI(v:V):Bool:=match v with
 | .int _ _=>true
 |_=>false
noncomputable def intsV(l:List V):Bool:=l.all isI
noncomputable def ZaK:Con:=fun vs st k=>Z8 vs 317 fun v=>Z2 v 317 fun r=>Zk (st.items r) 316 fun xs=>gd (intsV xs) 318 (szK (fun l=>k (.ref st.n) (st.new (.list l))) xs 0 none [])
noncomputable def ZkO(cs:List V):Con:=fun vs st k=>match vs with
 | [.ref _]=>k (.ref st.n) (st.new (.list cs))
 |_=>Bad 330
noncomputable def conT(top:Bool)(cs:List V)(f:Str):Option Con:=match strEq f "is_HDN" with
 |true=>some (ZfF top)
 |false=>match strEq f "_ValueFormatter" with
   |true=>some ZcN
   |false=>match strEq f "_law_sizes" with
    |true=>some ZaK
    |false=>match strEq f "_law_cells" with
     |true=>some (ZkO cs)
     |false=>match strEq f "_law_own" with
      |true=>some ZdZ
      |false=>match strEq f "_law_told" with
       |true=>some ZcM
       |false=>match strEq f "_law_det" with
        |true=>some ZfG
        |false=>none
structure Cuts where
 a2:Int
 a3:Int
 a4:Int
 top:Nat
 kind:Nat
 head:Int
 lead:Int
noncomputable def cutOf(q:Cuts)(p:Pos):Option V:=match Nat.blt p.line 262 with
 |true=>none
 |false=>match Nat.beq p.line 262 with
  |true=>match Nat.beq p.endCol 28 with
   |true=>some (.int q.a2 2)
   |false=>match Nat.beq p.endCol 44 with
    |true=>some (.int q.a3 3)
    |false=>match Nat.beq p.endCol 60 with
     |true=>some (.int q.a4 4)
     |false=>none
  |false=>match Nat.beq p.line 263 with
   |true=>match Nat.beq p.col 29 with
    |true=>none
    |false=>match Nat.beq p.endCol 63 with
     |true=>some (.int q.top 2)
     |false=>match Nat.beq p.endCol 81 with
      |true=>some (.int q.head 4)
      |false=>match Nat.beq p.endCol 99 with
       |true=>some (.int q.lead 3)
       |false=>match Nat.beq p.endCol 110 with
        |true=>some (.int q.kind 4)
        |false=>none
   |false=>match Nat.blt p.line 295 with
    |true=>none
    |false=>match Nat.beq p.line 295&&Nat.beq p.endCol 60 with
     |true=>match Nat.beq p.col 15 with
      |true=>some (.bool false)
      |false=>none
     |false=>match Nat.beq p.line 302&&(Nat.beq p.endCol 29 || (Nat.beq p.endCol 106&&Nat.beq p.col 77))with
      |true=>some (.bool false)
      |false=>match Nat.beq p.line 308&&Nat.beq p.col 7 with
       |true=>some (.bool false)
       |false=>match Nat.beq p.line 310&&((Nat.beq p.col 7&&Nat.beq p.endCol 71) || Nat.beq p.col 75)with
        |true=>some (.bool false)
        |false=>match Nat.beq p.line 314&&Nat.beq p.col 7 with
         |true=>some (.bool false)
         |false=>match Nat.beq p.line 317&&Nat.beq p.col 7&&Nat.beq p.endCol 96 with
          |true=>some (.bool false)
          |false=>match Nat.beq p.line 323&&Nat.beq p.col 11&&Nat.beq p.endCol 93 with
           |true=>some (.bool false)
           |false=>none
noncomputable def needT(f:Str):Nat:=match strEq f "is_HDN" with
 |true=>102
 |false=>match strEq f "_ValueFormatter" with
   |true=>0
   |false=>match strEq f "_law_own" with
      |true=>101
      |false=>match strEq f "_law_told" with
       |true=>301
       |false=>201
noncomputable def lawB:List Stmt:=(fnOf "law").body
noncomputable def lawN:Sc:=(fnOf "law").scope.names
noncomputable def lawS(i j:Nat):List Stmt:=(lawB.drop i).take (j-i)
noncomputable def forT:Stmt→Expr
 | .For t _ _ _ _=>t
 |_=> .Constant .none 0 ⟨0,0,0,0⟩
noncomputable def forI:Stmt→Expr
 | .For _ i _ _ _=>i
 |_=> .Constant .none 0 ⟨0,0,0,0⟩
noncomputable def forB:Stmt→List Stmt
 | .For _ _ b _ _=>b
 |_=>[]
noncomputable def Y7:Stmt:=(lawB.drop 19).headD (.Pass ⟨0,0,0,0⟩)
noncomputable def stFar:Stmt:=(forB Y7).headD (.Pass ⟨0,0,0,0⟩)
noncomputable def bodyE:List Stmt:=forB stFar
noncomputable def okFns(f:Str):Bool:=strEq f "reach" || strEq f "domain_match" || strEq f "_build_localename" || strEq f "_law_way" || strEq f "_law_row" || strEq f "_law_doors"
noncomputable def conE(top:Bool)(f:Str):Option Con:=match strEq f "is_HDN" with
 |true=>some (ZfF top)
 |false=>match strEq f "_ValueFormatter" with
   |true=>some ZcN
   |false=>match strEq f "_law_own" with
      |true=>some ZdZ
      |false=>match strEq f "_law_told" with
       |true=>some ZcM
       |false=>match strEq f "_law_det" with
        |true=>some ZfG
        |false=>none
noncomputable def cutE(p:Pos):Option V:=match Nat.blt p.line 295 with
 |true=>none
 |false=>match Nat.beq p.line 295&&Nat.beq p.endCol 60 with
  |true=>match Nat.beq p.col 15 with
   |true=>some (.bool false)
   |false=>none
  |false=>match Nat.beq p.line 302&&(Nat.beq p.endCol 29 || (Nat.beq p.endCol 106&&Nat.beq p.col 77))with
   |true=>some (.bool false)
   |false=>match Nat.beq p.line 308&&Nat.beq p.col 7 with
    |true=>some (.bool false)
    |false=>match Nat.beq p.line 310&&((Nat.beq p.col 7&&Nat.beq p.endCol 71) || Nat.beq p.col 75)with
     |true=>some (.bool false)
     |false=>match Nat.beq p.line 314&&Nat.beq p.col 7 with
      |true=>some (.bool false)
      |false=>match Nat.beq p.line 317&&Nat.beq p.col 7&&Nat.beq p.endCol 96 with
       |true=>some (.bool false)
       |false=>match Nat.beq p.line 323&&Nat.beq p.col 11&&Nat.beq p.endCol 93 with
        |true=>some (.bool false)
        |false=>none
noncomputable def fnE(f:Str):Option FnDef:=match okFns f with
 |true=>g0.fn f
 |false=>none
noncomputable def gE(top:Bool):G:={fn:=fnE,con:=conE top,cut:=cutE,need:=needT}
structure Tree where
 p2:Nat
 p3:Nat
 p4:Nat
noncomputable def par(t:Tree)(k:Nat):Nat:=match k with
 |2=>t.p2
 |3=>t.p3
 |4=>t.p4
 |_=>0
noncomputable def upF'(t:Tree):Nat→Nat→List Nat
 |0,k=>[k]
 |f+1,k=>match k with
  |0=>[0]
  |k+1=>(k+1)::upF' t f (par t (k+1))
noncomputable def up(t:Tree)(k:Nat):List Nat:=upF' t 4 k
noncomputable def memN(k:Nat):List Nat→Bool
 | []=>false
 |a::r=>match Nat.beq a k with
  |true=>true
  |false=>memN k r
noncomputable def notIn(b:List Nat):List Nat→List Nat
 | []=>[]
 |a::r=>match memN a b with
  |true=>notIn b r
  |false=>a::notIn b r
noncomputable def Ziv(b:List Nat):List Nat→Nat
 | []=>0
 |a::r=>match memN a b with
  |true=>a
  |false=>Ziv b r
noncomputable def left(t:Tree)(a b:Nat):List Nat:=notIn (up t b) (up t a)++notIn (up t a) (up t b)
noncomputable def meet(t:Tree)(a b:Nat):Nat:=Ziv (up t b) (up t a)
noncomputable def pairs:List (Nat×Nat):=[(0,1),(0,2),(0,3),(0,4),(1,2),(1,3),(1,4),(2,3),(2,4),(3,4)]
noncomputable def Zj(e:Nat):Nat×Nat:=(pairs.drop e).headD (0,0)
noncomputable def sgOf(p:Nat×Nat):Nat×Nat:=match Nat.beq ((p.1+p.2) % 2) 0 with
 |true=>p
 |false=>(p.2,p.1)
noncomputable def ksOf(t:Tree)(p:Nat×Nat):List Nat:=left t (sgOf p).1 (sgOf p).2
noncomputable def Za5(t:Tree)(p:Nat×Nat):Nat:=meet t (sgOf p).1 (sgOf p).2
noncomputable def topL(top:Bool):List Nat:=match top with
 |true=>[110,46,99,111,109]
 |false=>[108,111,99,97,108]
noncomputable def nameL(t:Tree)(top:Bool):List Nat→List Nat
 | []=>topL top
 |k::r=>match k with
  |0=>topL top
  |k+1=>(97+(k+1))::46::nameL t top r
noncomputable def nameV(t:Tree)(top:Bool)(k:Nat):V:= .str ⟨(nameL t top (up t k)).toArray⟩ (nameL t top (up t k)).length
structure Wts where
 a:Int
 b:Int
 c:Int
 d:Int
noncomputable def Wts.at(w:Wts)(k:Nat):Int:=match k with
 |1=>w.a
 |2=>w.b
 |3=>w.c
 |_=>w.d
noncomputable def Zh7(k:Nat):Str:=⟨#[97+k]⟩
noncomputable def JY(n:Int):Str:=Txt.mul " " n
noncomputable def JW(w:Wts)(k:Nat):Chunk:=⟨JY (w.at k-1),6,Zh7 k,1⟩
noncomputable def rowS(w:Wts)(ks:List Nat):Str:=⟨(Y6 (ks.map (JW w))).toArray⟩
noncomputable def rowJ(w:Wts)(ks:List Nat):Str:=⟨(joinL [] (ks.map fun k=>appF (JY (w.at k-1)) (Zh7 k))).toArray⟩
noncomputable def distW(w:Wts):List Nat→Int
 | []=>0
 |k::r=>w.at k+distW w r
noncomputable def Yj(e:Nat)(i j:Nat):List (Nat×Nat)→Bool
 | []=>false
 |p::r=>match e with
  |0=>false
  |e+1=>match(Nat.beq p.1 i&&Nat.beq p.2 j) || (Nat.beq p.1 j&&Nat.beq p.2 i)with
   |true=>true
   |false=>Yj e i j r
noncomputable def gapV(t:Tree)(w:Wts)(e i j:Nat):V:=match Yj e i j pairs with
 |true=> .int (distW w (ksOf t (min i j,max i j))) 21
 |false=> .int 0 1
noncomputable def meetV(t:Tree)(e i j:Nat):V:=match Yj e i j pairs with
 |true=> .lit (Za5 t (min i j,max i j))
 |false=> .lit i
noncomputable def rowV(f:Nat→V):AO:= .list [f 0,f 1,f 2,f 3,f 4]
noncomputable def Zao(t:Tree)(w:Wts)(e:Nat):List (Str×Nat):=(pairs.take e).map fun p=>(rowS w (ksOf t p),7*(ksOf t p).length)
noncomputable def rowsW(t:Tree)(w:Wts)(e:Nat):List V:=(pairs.take e).map fun p=> .str (rowS w (ksOf t p)) (8*(ksOf t p).length)
noncomputable def wtsV(w:Wts):List V:=[.int w.a 6, .int w.b 6, .int w.c 6, .int w.d 6]
structure EV where
 w:Wts
 h:Int
 l:Int
 on:Nat→List V
 to:Nat→List V
noncomputable def pageE(t:Tree)(v:EV)(e:Nat):Page:=match e with
 |0=>⟨v.h,4,[],[],v.l,3⟩
 |e+1=>⟨0,1,match Nat.beq e 9 with|true=>(ksOf t (3,4)).map (JW v.w)++[⟨" ",1,"",0⟩]|false=>[],Zao t v.w (match Nat.beq e 9 with|true=>9|false=>e+1),v.l,3⟩
noncomputable def idxE:List Nat:=[0,1,2,3,4,5,6,7,8,9,10,11,12,13,14,15,16,17,19,21,23,25,27,28,30,32,34,36,38,39]
noncomputable def objE(t:Tree)(top:Bool)(v:EV)(pg:Page)(x y:Nat→Nat→V)(rows:List V):List AO:=
 [.list [.lit 0, .lit 0, .lit t.p2, .lit t.p3, .lit t.p4], .list (wtsV v.w), .list (wtsV v.w),rowV (nameV t top),
  .list [.ref 5, .ref 6, .ref 7, .ref 8, .ref 9], .list (v.on 0), .list (v.on 1), .list (v.on 2), .list (v.on 3), .list (v.on 4),
  .list [.ref 11, .ref 12, .ref 13, .ref 14, .ref 15], .list (v.to 0), .list (v.to 1), .list (v.to 2), .list (v.to 3), .list (v.to 4),
  .page pg, .list [.ref 19, .ref 21, .ref 23, .ref 25, .ref 27],rowV (x 0),rowV (x 1),rowV (x 2),rowV (x 3),rowV (x 4),
  .list [.ref 30, .ref 32, .ref 34, .ref 36, .ref 38],rowV (y 0),rowV (y 1),rowV (y 2),rowV (y 3),rowV (y 4), .list rows]
noncomputable def xsE:List Str:=["above","head","lead","weights","sizes","names","own","told","page","apart","shared","rows"]
noncomputable def vsE(v:EV):List V:=[.ref 0, .int v.h 4, .int v.l 3, .ref 1, .ref 2, .ref 3, .ref 4, .ref 10, .ref 16, .ref 17, .ref 28, .ref 39]
noncomputable def upd2(i j:Nat)(z:V)(f:Nat→Nat→V):Nat→Nat→V:=fun a b=>match(Nat.beq a i&&Nat.beq b j) || (Nat.beq a j&&Nat.beq b i)with
 |true=>z
 |false=>f a b
noncomputable def zipO:List Nat→List AO→List (Nat×AO)
 |i::r,o::s=>(i,o)::zipO r s
 |_,_=>[]
noncomputable def zipV:List Str→List V→List (Str×V)
 |x::r,v::s=>(x,v)::zipV r s
 |_,_=>[]
noncomputable def stWay(t:Tree)(top:Bool)(v:EV)(e:Nat)(m:List (Str×V)):St:=mkSt (40+12*e) (zipO idxE (objE t top v (pageE t v e) (gapV t v.w e) (meetV t e) (rowsW t v.w e))) (zipV xsE (vsE v)++m)
noncomputable def roomO(v:EV):Prop:=(!(decide (40-v.l=40-v.l)&&(decide (40-v.l=40-v.l)&&true)))=false
noncomputable def ZbZ(t:Tree)(v:EV)(e:Nat):V:=match e with
 |0=> .int (40-(40-(v.h+ ↑(Jx ((ksOf t (0,1)).map (JW v.w)))))-v.h) (addB (addB 41 (41+4+7*(ksOf t (0,1)).length)) 4)
 |e=> .int (40-(40-(0+ ↑(Jx ((ksOf t (Zj e)).map (JW v.w)))))-0) (addB (addB 41 (41+1+7*(ksOf t (Zj e)).length)) 1)
noncomputable def rawO(t:Tree)(top:Bool)(v:EV)(e:Nat):List AO:=objE t top v (pageE t v (e+1)) (upd2 (Zj e).1 (Zj e).2 (ZbZ t v e) (gapV t v.w e)) (upd2 (Zj e).1 (Zj e).2 (.lit (Za5 t (Zj e))) (meetV t e)) (rowsW t v.w e++[.str (rowJ v.w (ksOf t (Zj e))) (8*(ksOf t (Zj e)).length)])
noncomputable def wayEq(t:Tree)(top:Bool)(e:Nat):Prop:=∀(a b c d h l:Int) (on to:Nat→List V) (K:KO),
 (evF (gE top) 560).ss lawN bodyE (stWay t top ⟨⟨a,b,c,d⟩,h,l,on,to⟩ e [("near", .lit (Zj e).1),("far", .lit (Zj e).2)]) (kO idxE (xsE++[("near":Str)]) K)
 =(roomO ⟨⟨a,b,c,d⟩,h,l,on,to⟩∧K (40+12*(e+1)) ((rawO t top ⟨⟨a,b,c,d⟩,h,l,on,to⟩ e).map some) ((vsE ⟨⟨a,b,c,d⟩,h,l,on,to⟩++[V.lit (Zj e).1]).map some))
noncomputable def Zk9(t:Tree)(top:Bool):Prop:=wayEq t top 0∧wayEq t top 1∧wayEq t top 2∧wayEq t top 3∧wayEq t top 4∧wayEq t top 5∧wayEq t top 6∧wayEq t top 7∧wayEq t top 8∧wayEq t top 9
noncomputable def textW(t:Tree)(w:Wts):Str:=⟨(joinL [47] ((Zao t w 10).map fun x=>x.1)).toArray⟩
noncomputable def idxG:List Nat:=[0,1,4,5,6,7,8,9,10,11,12,13,14,15,16,17,19,21,23,25,27,28,30,32,34,36,38,39]
noncomputable def objG(t:Tree)(v:EV)(pg:Page)(x y:Nat→Nat→V)(rows:List V):List AO:=
 [.list [.lit 0, .lit 0, .lit t.p2, .lit t.p3, .lit t.p4], .list (wtsV v.w),
  .list [.ref 5, .ref 6, .ref 7, .ref 8, .ref 9], .list (v.on 0), .list (v.on 1), .list (v.on 2), .list (v.on 3), .list (v.on 4),
  .list [.ref 11, .ref 12, .ref 13, .ref 14, .ref 15], .list (v.to 0), .list (v.to 1), .list (v.to 2), .list (v.to 3), .list (v.to 4),
  .page pg, .list [.ref 19, .ref 21, .ref 23, .ref 25, .ref 27],rowV (x 0),rowV (x 1),rowV (x 2),rowV (x 3),rowV (x 4),
  .list [.ref 30, .ref 32, .ref 34, .ref 36, .ref 38],rowV (y 0),rowV (y 1),rowV (y 2),rowV (y 3),rowV (y 4), .list rows]
noncomputable def xsG:List Str:=["above","weights","own","told","page","apart","shared","rows"]
noncomputable def vsG:List V:=[.ref 0, .ref 1, .ref 4, .ref 10, .ref 16, .ref 17, .ref 28, .ref 39]
noncomputable def stG(t:Tree)(v:EV):St:=mkSt 160 (zipO idxG (objG t v (pageE t v 10) (gapV t v.w 10) (meetV t 10) (rowsW t v.w 10))) (zipV xsG vsG)
noncomputable def idxG':List Nat:=[0,1,4,5,6,7,8,9,10,11,12,13,14,15,17,19,21,23,25,27,28,30,32,34,36,38,39]
noncomputable def objG'(t:Tree)(v:EV)(x y:Nat→Nat→V)(rows:List V):List AO:=
 [.list [.lit 0, .lit 0, .lit t.p2, .lit t.p3, .lit t.p4], .list (wtsV v.w),
  .list [.ref 5, .ref 6, .ref 7, .ref 8, .ref 9], .list (v.on 0), .list (v.on 1), .list (v.on 2), .list (v.on 3), .list (v.on 4),
  .list [.ref 11, .ref 12, .ref 13, .ref 14, .ref 15], .list (v.to 0), .list (v.to 1), .list (v.to 2), .list (v.to 3), .list (v.to 4),
  .list [.ref 19, .ref 21, .ref 23, .ref 25, .ref 27],rowV (x 0),rowV (x 1),rowV (x 2),rowV (x 3),rowV (x 4),
  .list [.ref 30, .ref 32, .ref 34, .ref 36, .ref 38],rowV (y 0),rowV (y 1),rowV (y 2),rowV (y 3),rowV (y 4), .list rows]
noncomputable def xsG':List Str:=["above","weights","own","told","apart","shared","rows","text"]
noncomputable def vsG':List V:=[.ref 0, .ref 1, .ref 4, .ref 10, .ref 17, .ref 28, .ref 39]
noncomputable def Zlg(t:Tree):Prop:=∀(a b c d h l:Int) (on to:Nat→List V) (K:KO),
 (evF (gE true) 560).ss lawN (lawS 20 22) (stG t ⟨⟨a,b,c,d⟩,h,l,on,to⟩) (kO idxG' xsG' K)
 =((!(strEq (textW t ⟨a,b,c,d⟩) (textW t ⟨a,b,c,d⟩)))=false∧(!(strEq ⟨(joinL [47] ((Yk [32,32] 2 (Zao t ⟨a,b,c,d⟩ 10)).map fun x=>x.1)).toArray⟩ (appF (textW t ⟨a,b,c,d⟩) "  ")))=false∧
  K 160 ((objG' t ⟨⟨a,b,c,d⟩,h,l,on,to⟩ (gapV t ⟨a,b,c,d⟩ 10) (meetV t 10) (rowsW t ⟨a,b,c,d⟩ 10)).map some) ((vsG'++[V.str (textW t ⟨a,b,c,d⟩) (YN (Zao t ⟨a,b,c,d⟩ 10)*2)]).map some))
noncomputable def one1(b:Bool)(n:Nat):Nat:=match b with
 |true=>n
 |false=>0
noncomputable def size3(t:Tree):Nat:=1+one1 (Nat.beq t.p4 3) 1
noncomputable def size2(t:Tree):Nat:=1+one1 (Nat.beq t.p3 2) (size3 t)+one1 (Nat.beq t.p4 2) 1
noncomputable def size1(t:Tree):Nat:=1+one1 (Nat.beq t.p2 1) (size2 t)+one1 (Nat.beq t.p3 1) (size3 t)+one1 (Nat.beq t.p4 1) 1
noncomputable def sizeN(t:Tree)(k:Nat):Nat:=match k with
 |4=>1
 |3=>size3 t
 |2=>size2 t
 |1=>size1 t
 |_=>5
noncomputable def prtN(t:Tree)(k:Nat):Int:=(sizeN t k:Int)*(5-(sizeN t k:Int))
noncomputable def tieN(t:Tree)(k:Nat):Nat:=(match k with|0=>0|_+1=>1)+(match Nat.beq (par t 1) k with|true=>1|false=>0)+(match Nat.beq (par t 2) k with|true=>1|false=>0)+(match Nat.beq (par t 3) k with|true=>1|false=>0)+(match Nat.beq (par t 4) k with|true=>1|false=>0)
noncomputable def YF(t:Tree)(x:Nat→Int):Int:=0+x 0*(2-(tieN t 0:Int))+x 1*(2-(tieN t 1:Int))+x 2*(2-(tieN t 2:Int))+x 3*(2-(tieN t 3:Int))+x 4*(2-(tieN t 4:Int))
noncomputable def ZQ(w:Wts):Int:=0+w.a+w.b+w.c+w.d
noncomputable def rwV(r:Nat→Str)(rb:Nat→Nat):List V:=[.str (r 0) (rb 0), .str (r 1) (rb 1), .str (r 2) (rb 2), .str (r 3) (rb 3), .str (r 4) (rb 4), .str (r 5) (rb 5), .str (r 6) (rb 6), .str (r 7) (rb 7), .str (r 8) (rb 8), .str (r 9) (rb 9)]
noncomputable def rwS(r:Nat→Str):List Str:=[r 0,r 1,r 2,r 3,r 4,r 5,r 6,r 7,r 8,r 9]
noncomputable def rbOf(t:Tree)(i:Nat):Nat:=8*(ksOf t (Zj i)).length
noncomputable def tbOf(t:Tree):Nat:=YN (Zao t ⟨0,0,0,0⟩ 10)*2
noncomputable def ivR(b:Nat)(x:Nat→Nat→Int):Nat→Nat→V:=fun i j=> .int (x i j) b
noncomputable def objF(t:Tree)(w:Wts)(on to:Nat→List V)(x y:Nat→Nat→V):List AO:=[.list [.lit 0, .lit 0, .lit t.p2, .lit t.p3, .lit t.p4], .list (wtsV w),
 .list [.ref 3, .ref 4, .ref 5, .ref 6, .ref 7], .list (on 0), .list (on 1), .list (on 2), .list (on 3), .list (on 4),
 .list [.ref 9, .ref 10, .ref 11, .ref 12, .ref 13], .list (to 0), .list (to 1), .list (to 2), .list (to 3), .list (to 4),
 .list [.ref 15, .ref 16, .ref 17, .ref 18, .ref 19],rowV (x 0),rowV (x 1),rowV (x 2),rowV (x 3),rowV (x 4),
 .list [.ref 21, .ref 22, .ref 23, .ref 24, .ref 25],rowV (y 0),rowV (y 1),rowV (y 2),rowV (y 3),rowV (y 4)]
noncomputable def xsF:List Str:=["above","weights","own","told","apart","shared"]
noncomputable def vsF:List V:=[.ref 0, .ref 1, .ref 2, .ref 8, .ref 14, .ref 20]
noncomputable def idxF:List Nat:=List.range 26
noncomputable def stF3(t:Tree)(w:Wts)(tx:Str)(on to:Nat→List V)(x y:Nat→Nat→V)(r:Nat→Str):St:=mkSt 27 (zipO idxF (objF t w on to x y)++[(26, .list (rwV r (rbOf t)))]) (zipV xsF vsF++[(("rows":Str),V.ref 26),(("text":Str),V.str tx (tbOf t))])
noncomputable def Zli(t:Tree):Prop:=∀(a b c d:Int) (on to:Nat→List V) (x:Nat→Nat→Int) (y:Nat→Nat→V) (tx:Str) (r:Nat→Str) (K:KO),
 (evF (gE true) 560).ss lawN (lawS 22 30) (stF3 t ⟨a,b,c,d⟩ tx on to (ivR 21 x) y r) (kO idxF (xsF++[("whole":Str)]) K)
 =((!(decide ((Zm tx.cps.toList 47:Int)=9)&&(decide ((Zm tx.cps.toList 98:Int)=prtN t 1)&&(decide ((Zm tx.cps.toList 99:Int)=prtN t 2)&&(decide ((Zm tx.cps.toList 100:Int)=prtN t 3)&&(decide ((Zm tx.cps.toList 101:Int)=prtN t 4)&&true))))))=false∧
 (!(decide ((tx.length:Int)-9=0+a*prtN t 1+b*prtN t 2+c*prtN t 3+d*prtN t 4)))=false∧
 (!(strEq tx ⟨(joinL [47] (rwS r)).toArray⟩))=false∧
 (!(decide (YF t (x 0)=ZQ ⟨a,b,c,d⟩)&&(decide (YF t (x 1)=ZQ ⟨a,b,c,d⟩)&&(decide (YF t (x 2)=ZQ ⟨a,b,c,d⟩)&&(decide (YF t (x 3)=ZQ ⟨a,b,c,d⟩)&&(decide (YF t (x 4)=ZQ ⟨a,b,c,d⟩)&&true))))))=false∧
 K 49 ((objF t ⟨a,b,c,d⟩ on to (ivR 21 x) y).map some) ((vsF++[V.int (ZQ ⟨a,b,c,d⟩) 21]).map some))
noncomputable def chR(n:Nat):List V:=(chOf n).map fun p=> .tup [.int (p.1:Int) (p.1+1), .int (p.2:Int) (addB (n+1) (3 ^ p.1+1))]
noncomputable def oddN(i:Nat):Nat→List Nat
 |0=>[]
 |n+1=>i::oddN (i+2) n
noncomputable def idxC:List Nat:=26::oddN 28 32
noncomputable def ZiX(n:Nat):Nat→List AO
 |0=>[]
 |m+1=> .list (chR n)::ZiX (n+1) m
noncomputable def objC:List AO:= .list ((oddN 28 32).map V.ref)::ZiX 0 32
noncomputable def objL(l:Nat→List V):List AO:=[.list (l 0), .list (l 1), .list [.ref 3, .ref 4, .ref 5, .ref 6, .ref 7], .list (l 3), .list (l 4), .list (l 5), .list (l 6), .list (l 7),
 .list [.ref 9, .ref 10, .ref 11, .ref 12, .ref 13], .list (l 9), .list (l 10), .list (l 11), .list (l 12), .list (l 13),
 .list [.ref 15, .ref 16, .ref 17, .ref 18, .ref 19], .list (l 15), .list (l 16), .list (l 17), .list (l 18), .list (l 19),
 .list [.ref 21, .ref 22, .ref 23, .ref 24, .ref 25], .list (l 21), .list (l 22), .list (l 23), .list (l 24), .list (l 25)]
noncomputable def stL0(l:Nat→List V)(W:Int):St:=mkSt 26 (zipO idxF (objL l)) (zipV xsF vsF++[(("whole":Str),V.int W 21)])
noncomputable def chEq:Prop:=∀(l:Nat→List V) (W:Int) (K:KO),
 (evF (gE true) 560).ss lawN (lawS 30 31) (stL0 l W) (kO (idxF++idxC) (xsF++[("whole":Str),("choices":Str)]) K)
 =K 91 ((objL l++objC).map some) ((vsF++[V.int W 21, .ref 26]).map some)
noncomputable def detX(x:Nat→Nat→Int):Int:=(atB (YW [row5B (x 0 0) (x 0 1) (x 0 2) (x 0 3) (x 0 4),row5B (x 1 0) (x 1 1) (x 1 2) (x 1 3) (x 1 4),row5B (x 2 0) (x 2 1) (x 2 2) (x 2 3) (x 2 4),row5B (x 3 0) (x 3 1) (x 3 2) (x 3 3) (x 3 4),row5B (x 4 0) (x 4 1) (x 4 2) (x 4 3) (x 4 4)] 31) 31).1
noncomputable def stC1(t:Tree)(w:Wts)(on to:Nat→List V)(x y:Nat→Nat→V)(W:Int):St:=mkSt 91 (zipO (idxF++idxC) (objF t w on to x y++objC)) (zipV xsF vsF++[(("whole":Str),V.int W 21),(("choices":Str),V.ref 26)])
noncomputable def detEq:Prop:=∀(t:Tree) (a b c d W:Int) (on to:Nat→List V) (x:Nat→Nat→Int) (y:Nat→Nat→V) (K:KO),
 (evF (gE true) 560).ss lawN (lawS 31 32) (stC1 t ⟨a,b,c,d⟩ on to (ivR 21 x) y W) (kO (idxF++idxC) (xsF++[("choices":Str)]) K)
 =((!(decide (detX x=8*W*a*b*c*d)))=false∧K 91 ((objF t ⟨a,b,c,d⟩ on to (ivR 21 x) y++objC).map some) ((vsF++[V.ref 26]).map some))
noncomputable def Zx(p:Nat→Nat→Int)(k:Nat):List V:=[.int (p k 0) 801, .int (p k 1) 161601, .int (p k 2) 142401]
noncomputable def dueP(t:Tree)(p:Nat→Int):Int:=p 0*(p 1-p (par t 1))*(p 2-p (par t 2))*(p 3-p (par t 3))*(p 4-p (par t 4))
noncomputable def stP(t:Tree)(w:Wts)(p:Nat→Nat→Int)(x:Nat→Nat→V):St:=mkSt 91 (zipO (idxF++idxC) (objF t w (Zx p) (Zx p) x (meetV t 10)++objC)) (zipV xsF vsF++[(("choices":Str),V.ref 26)])
noncomputable def Zak(t:Tree)(p:Nat→Int):Nat→Nat→Int:=fun i j=>match Nat.beq i j with
 |true=>p i
 |false=>p (Za5 t (min i j,max i j))
noncomputable def endK(K:V→Prop):KS:=fun f μ=>match f with
 | .ret v=>K v
 |_=>Bad 601
noncomputable def ZhI(t:Tree):Prop:=∀(w:Wts) (p:Nat→Nat→Int) (x:Nat→Nat→V) (K:V→Prop),
 (evF (gE true) 560).ss lawN (lawS 32 34) (stP t w p x) (endK K)
 =((!(decide (detX (Zak t fun k=>p k 0)=dueP t fun k=>p k 0)))=false∧(!(decide (detX (Zak t fun k=>p k 1)=dueP t fun k=>p k 1)))=false∧(!(decide (detX (Zak t fun k=>p k 2)=dueP t fun k=>p k 2)))=false∧K (.bool true))
noncomputable def conA(f:Str):Option Con:=match strEq f "_law_sizes" with
 |true=>some ZaK
 |false=>none
noncomputable def gA(q:Cuts):G:={fn:=fnE,con:=conA,cut:=cutOf q,need:=needT}
noncomputable def wf(c:Int)(k:Nat):Int:=(c.fdiv (4*5 ^ k)).fmod 5+1
noncomputable def wfW(kind:Nat)(c:Int):Wts:=match kind with
 |0=>⟨wf c 0,wf c 1,wf c 2,wf c 3⟩
 |1=>⟨wf c 0,wf c 1,wf c 1,wf c 1⟩
 |2=>⟨wf c 0,wf c 1,wf c 2,1⟩
 |_=>⟨wf c 0,wf c 1,1,1⟩
noncomputable def wfB(kind:Nat):Nat×Nat:=match kind with
 |0=>(6,6)
 |1=>(6,6)
 |2=>(6,2)
 |_=>(2,2)
noncomputable def wtsB(kind:Nat)(c:Int):List V:=[.int (wfW kind c).a 6, .int (wfW kind c).b 6, .int (wfW kind c).c (wfB kind).1, .int (wfW kind c).d (wfB kind).2]
noncomputable def topV(top:Bool):V:=match top with
 |true=> .str ⟨[110,46,99,111,109].toArray⟩ 5
 |false=> .str ⟨[108,111,99,97,108].toArray⟩ 5
noncomputable def topN(top:Bool):Nat:=match top with
 |true=>1
 |false=>0
noncomputable def nzO(kind:Nat)(c:Int)(P:Prop):Prop:=match kind with
 |0=>wf c 0≠0∧wf c 1≠0∧wf c 2≠0∧wf c 3≠0∧P
 |2=>wf c 0≠0∧wf c 1≠0∧wf c 2≠0∧P
 |_=>wf c 0≠0∧wf c 1≠0∧P
noncomputable def Z7(c:Nat→Int):List V:=[.int (c 0) 0, .int (c 1) 0, .int (c 2) 0, .int (c 3) 0, .int (c 4) 0, .int (c 5) 0, .int (c 6) 0]
noncomputable def xsA:List Str:=["cells","above","top","head","lead","weights","sizes"]
noncomputable def aEq(kind:Nat)(top:Bool):Prop:=∀(c:Nat→Int) (a2 a3 a4 h l:Int) (K:KO),
 (evF (gA ⟨a2,a3,a4,topN top,kind,h,l⟩) 400).ss lawN (lawS 1 8) (mkSt 1 [(0, .list (Z7 c))] [("cells", .ref 0)]) (kO [1,9+kind,14,0] xsA K)
 =(((c 0).fmod 2=a2∧(2≠0→((c 0).fmod 2).natAbs<2))∧(((c 0).fdiv 2).fmod 3=a3∧(3≠0→(((c 0).fdiv 2).fmod 3).natAbs<3))∧(((c 0).fdiv 6).fmod 4=a4∧(4≠0→(((c 0).fdiv 6).fmod 4).natAbs<4))∧
  (((c 0).fdiv 24).fmod 2=(topN top:Int)∧(2≠0→(((c 0).fdiv 24).fmod 2).natAbs<2))∧(((c 0).fdiv 48).fmod 4=h∧(4≠0→(((c 0).fdiv 48).fmod 4).natAbs<4))∧(((c 0).fdiv 192).fmod 3=l∧(3≠0→(((c 0).fdiv 192).fmod 3).natAbs<3))∧
  ((c 1).fmod 4=(kind:Int)∧(4≠0→((c 1).fmod 4).natAbs<4))∧
  nzO kind (c 1) (K 15 ([AO.list [.int 0 1, .int 0 1, .int a2 2, .int a3 3, .int a4 4], .list (wtsB kind (c 1)), .list (wtsB kind (c 1)), .list (Z7 c)].map some)
   ([V.ref 0, .ref 1,topV top, .int h 4, .int l 3, .ref (9+kind), .ref 14].map some)))
noncomputable def idxN:List Nat:=[0,1,2,3]
noncomputable def objB(t:Tree)(w:Wts)(c:Nat→Int):List AO:=[.list [.lit 0, .lit 0, .lit t.p2, .lit t.p3, .lit t.p4], .list (wtsV w), .list (wtsV w), .list (Z7 c)]
noncomputable def vsB(top:Bool)(h l:Int):List V:=[.ref 3, .ref 0,topV top, .int h 4, .int l 3, .ref 1, .ref 2]
noncomputable def stB(t:Tree)(top:Bool)(w:Wts)(h l:Int)(c:Nat→Int):St:=mkSt 4 (zipO idxN (objB t w c)) (zipV xsA (vsB top h l))
noncomputable def xsB:List Str:=["cells","above","head","lead","weights","sizes","names"]
noncomputable def bEq(t:Tree)(top:Bool):Prop:=∀(a b c d h l:Int) (cs:Nat→Int) (K:KO),
 (evF (gE top) 560).ss lawN (lawS 8 11) (stB t top ⟨a,b,c,d⟩ h l cs) (kO [0,1,2,3,4] xsB K)
 =K 11 ((objB t ⟨a,b,c,d⟩ cs++[rowV (nameV t top)]).map some) ([V.ref 3, .ref 0, .int h 4, .int l 3, .ref 1, .ref 2, .ref 4].map some)
noncomputable def pc(c:Nat→Int)(k i:Nat):Int:=match i with
 |0=>(c (2+k)).fmod 9
 |1=>((c (2+k)).fdiv 9).fmod 9
 |_=>((c (2+k)).fdiv 81).fmod 9
noncomputable def fc(c:Nat→Int)(k:Nat):Int:=((c (2+k)).fdiv 729).fmod 3+1
noncomputable def pO(c:Nat→Int)(k:Nat)(P:Prop):Prop:=(0≤pc c k 0∧0≤pc c k 1∧0≤pc c k 2∧1≤fc c k)∧(pc c k 0≤8∧pc c k 1≤8∧pc c k 2≤8∧fc c k≤3)∧P
noncomputable def ownP(c:Nat→Int)(k:Nat):List V:=ownV (pc c k 0) (pc c k 1) (pc c k 2)
noncomputable def stC(ls:Nat→List V)(c:Nat→Int)(vs:Nat→V):St:=mkSt 5 [(0, .list (ls 0)),(1, .list (ls 1)),(2, .list (ls 2)),(3, .list (Z7 c)),(4, .list (ls 4))] [("cells", .ref 3),("above", .ref 0),("head",vs 0),("lead",vs 1),("weights", .ref 1),("sizes", .ref 2),("names", .ref 4)]
noncomputable def idxC2:List Nat:=[0,1,2,4,12,13,14,15,16,17,18,19,20,21,22,23]
noncomputable def xsC:List Str:=["above","head","lead","weights","sizes","names","own","told"]
noncomputable def cEq:Prop:=∀(ls:Nat→List V) (c:Nat→Int) (vs:Nat→V) (K:KO),
 (evF (gE true) 560).ss lawN (lawS 11 15) (stC ls c vs) (kO idxC2 xsC K)
 =pO c 0 (pO c 1 (pO c 2 (pO c 3 (pO c 4 (K 25 ([AO.list (ls 0), .list (ls 1), .list (ls 2), .list (ls 4), .list [.ref 13, .ref 14, .ref 15, .ref 16, .ref 17], .list (ownP c 0), .list (ownP c 1), .list (ownP c 2), .list (ownP c 3), .list (ownP c 4),
   .list [.ref 19, .ref 20, .ref 21, .ref 22, .ref 23], .list (ownP c 0), .list (ownP c 1), .list (ownP c 2), .list (ownP c 3), .list (ownP c 4)].map some)
   ([V.ref 0,vs 0,vs 1, .ref 1, .ref 2, .ref 4, .ref 12, .ref 18].map some))))))
noncomputable def idxD:List Nat:=List.range 16
noncomputable def objD(ls:Nat→List V):List AO:=[.list (ls 0), .list (ls 1), .list (ls 2), .list (ls 3), .list [.ref 5, .ref 6, .ref 7, .ref 8, .ref 9], .list (ls 5), .list (ls 6), .list (ls 7), .list (ls 8), .list (ls 9),
 .list [.ref 11, .ref 12, .ref 13, .ref 14, .ref 15], .list (ls 11), .list (ls 12), .list (ls 13), .list (ls 14), .list (ls 15)]
noncomputable def vsD(h l:Int):List V:=[.ref 0, .int h 4, .int l 3, .ref 1, .ref 2, .ref 3, .ref 4, .ref 10]
noncomputable def stD(ls:Nat→List V)(h l:Int):St:=mkSt 16 (zipO idxD (objD ls)) (zipV xsC (vsD h l))
noncomputable def zeroV(_:Nat):V:= .int 0 1
noncomputable def dEq:Prop:=∀(ls:Nat→List V) (h l:Int) (K:KO),
 (evF (gE true) 560).ss lawN (lawS 15 19) (stD ls h l) (kO idxE xsE K)
 =(0≤h∧K 40 ((objD ls++[.page ⟨h,4,[],[],((Txt.mul " " l).length:Int),3⟩, .list [.ref 19, .ref 21, .ref 23, .ref 25, .ref 27],rowV zeroV,rowV zeroV,rowV zeroV,rowV zeroV,rowV zeroV,
   .list [.ref 30, .ref 32, .ref 34, .ref 36, .ref 38],rowV fun μ=> .lit 0,rowV fun μ=> .int (0+1) 2,rowV fun μ=> .int (0+1+1) 3,rowV fun μ=> .int (0+1+1+1) 4,rowV fun μ=> .int (0+1+1+1+1) 5, .list []]).map some)
   ([V.ref 0, .int h 4, .int l 3, .ref 1, .ref 2, .ref 3, .ref 4, .ref 10, .ref 16, .ref 17, .ref 28, .ref 39].map some))
theorem ZdN(x:Array Nat):∀(k:Nat) (a:Array Nat),((List.replicate k x).foldl (· ++ ·) a).toList=a.toList++(List.replicate k x.toList).flatten
 |0,a=>by simp
 |k+1,a=>by
  rw[List.replicate_succ,List.foldl_cons,ZdN x k];simp[List.replicate_succ]
theorem Zhg:(" ":Str).cps.toList=[32]:=by kernel_rfl
theorem ZkD(k:Nat):(List.replicate k [32]).flatten=List.replicate k 32:=by
 induction k with
 |zero=>rfl
 |succ k ih=>rw[List.replicate_succ,List.flatten_cons,ih];rfl
theorem JH(n:Int):(JY n).cps.toList=List.replicate n.toNat 32:=by
 delta JY Txt.mul
 split
 ·rename_i h;have:n.toNat=0:=by lia
  refine(this).symm▸?_;rfl
 ·rename_i h;split
  ·rename_i h2;have hl:((" ":Str).length==0)=false:=by decide+kernel
   rw[hl,Bool.or_false]at h2;have:n=1:=by simpa using h2
   subst this;refine(Zhg).symm▸?_;rfl
  ·show((List.replicate n.toNat _).foldl (· ++ ·) #[]).toList=_
   rw[ZdN,Zhg,ZkD];rfl
theorem Zcd(n:Int):(JY n).length=n.toNat:=by
 show(JY n).cps.size=_;rw[←Array.length_toList,JH,List.length_replicate]
noncomputable def goodW(w:Wts):Prop:=(1≤w.a∧w.a≤5)∧(1≤w.b∧w.b≤5)∧(1≤w.c∧w.c≤5)∧(1≤w.d∧w.d≤5)
theorem Zi5{w:Wts}(g:goodW w)(k:Nat):1≤w.at k∧w.at k≤5:=by
 unfold Wts.at;split
 ·exact g.1
 ·exact g.2.1
 ·exact g.2.2.1
 ·exact g.2.2.2
theorem Zgx{w:Wts}(k:Nat):(JW w k).text=List.replicate (w.at k-1).toNat 32++[97+k]:=by
 delta Chunk.text JW
 rw[JH];rfl
noncomputable def rowL(w:Wts)(ks:List Nat):List Nat:=ks.flatMap fun k=>List.replicate (w.at k-1).toNat 32++[97+k]
theorem ZaW(w:Wts)(ks:List Nat):(rowS w ks).cps.toList=rowL w ks:=by
 show Y6 _=_
 delta Y6 rowL
 induction ks with
 |nil=>rfl
 |cons k r ih=>rw[List.map_cons,List.flatMap_cons,List.flatMap_cons,ih,Zgx]
theorem ZdF:∀l:List Str,joinL [] l=l.flatMap fun s=>s.cps.toList
 | []=>rfl
 | [x]=>by simp[joinL]
 |x::y::r=>by
  have:=ZdF (y::r);show x.cps.toList++[]++joinL [] (y::r)=_;rw[this];simp
theorem Zmk(w:Wts)(ks:List Nat):rowJ w ks=rowS w ks:=by
 have:(rowJ w ks).cps.toList=(rowS w ks).cps.toList:=by
  rw[ZaW];show joinL [] _=_;rw[ZdF];unfold rowL
  induction ks with
  |nil=>rfl
  |cons k r ih=>
   rw[List.map_cons,List.flatMap_cons,List.flatMap_cons,ih];congr 1;show(JY (w.at k-1)).cps.toList++(Zh7 k).cps.toList=_;rw[JH];rfl
 have e:=Array.toList_inj.mp this;cases h1:rowJ w ks;cases h2:rowS w ks;rw[h1,h2]at e;simp at e;rw[e]
theorem Zbl{w:Wts}(g:goodW w):∀ks:List Nat,(Jx (ks.map (JW w)):Int)=distW w ks
 | []=>rfl
 |k::r=>by
  have ih:=Zbl g r;unfold Jx at ih ⊢;rw[List.map_cons,List.map_cons,List.sum_cons];have h1:(JW w k).f.length+(JW w k).s.length=(w.at k-1).toNat+1:=by
   show(JY (w.at k-1)).length+1=_;rw[Zcd]
  refine(h1).symm▸?_;have:=Zi5 g k;unfold distW;rw[←ih];omega
theorem ZiJ{w:Wts}(g:goodW w):∀ks:List Nat,0≤distW w ks∧distW w ks≤5*ks.length
 | []=>by simp[distW]
 |k::r=>by
  have ih:=ZiJ g r;have:=Zi5 g k;unfold distW;rw[List.length_cons]
  lia
theorem Zcr{w:Wts}(g:goodW w):∀ks:List Nat,((rowL w ks).length:Int)=distW w ks
 | []=>rfl
 |k::r=>by
  have ih:=Zcr g r;have:=Zi5 g k;unfold rowL at ih ⊢;rw[List.flatMap_cons,List.length_append,List.length_append,List.length_replicate];unfold distW;rw[←ih];simp only[List.length_cons,List.length_nil];omega
theorem Zml(v:EV):roomO v:=by
 unfold roomO;simp
theorem Znc{t:Tree}{v:EV}(g:goodW v.w)(e:Nat)(he:e<10)(h4:(ksOf t (Zj e)).length≤4):WV (ZbZ t v e) (.int (distW v.w (ksOf t (Zj e))) 21):=by
 have d:=ZiJ g (ksOf t (Zj e));unfold ZbZ;cases e with
 |zero=>
  have e1:=Zbl g (ksOf t (0,1));simp only;refine(e1).symm▸?_;exact .int _ _ _ _ (by show 40-(40-(v.h+distW v.w (ksOf t (0,1))))-v.h=distW v.w (ksOf t (0,1));lia) fun μ=>by lia
 |succ e=>
  simp only;rw[Zbl g];exact .int _ _ _ _ (by lia) fun μ=>by lia
section
variable{C:Ctx}{g:G}{n m:Nat}{sc:Sc}{st:St}{k:KS}
theorem Zll(GK:GOK C g)(hm:m≤n){a:List Stmt}{is:List Nat}{xs:List Str}{n1:Nat}{os:List (Option AO)}{vs:List (Option V)}{O:Prop}
  (run:∀K:KO,(evF g m).ss sc a st (kO is xs K)=(O∧K n1 os vs))(hO:O)(h:∀st':St,st'.n=n1→Yv is st'=os→Y5 xs st'=vs→k .nxt st'):SS C n sc a st k:=by
 have hr:=run fun n2 o2 v2=>∀st':St,st'.n=n2→Yv is st'=o2→Y5 xs st'=v2→k .nxt st';have h0:=hr.symm▸(⟨hO,h⟩:O∧_);have S:=ZbI GK hm h0;intro A env ρ s Q E H F hs hA K;refine S A env ρ s Q E H F hs hA fun f fl st' ρ' s' hk H' F' e' r'=>?_;refine K f fl st' ρ' s' ?_ H' F' e' r';cases f with
 |nxt=>exact hk st' rfl rfl rfl
 |_=>exact noB hk
theorem WOs.refl:∀(is:List Nat) (l:List AO),is.length=l.length→WOs is (l.map some) (zipO is l):=by
 intro is
 induction is with
 |nil=>intro l h;rw[List.eq_nil_of_length_eq_zero h.symm];exact .nil
 |cons i is ih=>intro l h;cases l with
  |nil=>exact absurd h (Nat.succ_ne_zero _)
  |cons o l=>exact .cons _ _ _ _ _ _ (.refl o) (ih l (Nat.succ.inj h))
theorem WMs.refl:∀(xs:List Str) (l:List V),xs.length=l.length→WMs xs (l.map some) (zipV xs l):=by
 intro is
 induction is with
 |nil=>intro l h;rw[List.eq_nil_of_length_eq_zero h.symm];exact .nil
 |cons i is ih=>intro l h;cases l with
  |nil=>exact absurd h (Nat.succ_ne_zero _)
  |cons o l=>exact .cons _ _ _ _ _ _ (.refl o) (ih l (Nat.succ.inj h))
inductive WOl:List AO→List AO→Prop
 |nil:WOl [] []
 |cons (o o':AO) (l l':List AO):WO o o'→WOl l l'→WOl (o::l) (o'::l')
theorem WOl.refl:∀l:List AO,WOl l l
 | []=> .nil
 |o::l=> .cons _ _ _ _ (.refl o) (.refl l)
theorem WOl.app:∀{a a' b b':List AO},WOl a a'→WOl b b'→WOl (a++b) (a'++b'):=by
 intro a a' b b' w
 induction w with
 |nil=>exact id
 |cons _ _ _ _ w _ ih=>intro h;exact .cons _ _ _ _ w (ih h)
theorem WOl.os:∀{l l':List AO},WOl l l'→∀(is:List Nat),is.length=l.length→WOs is (l.map some) (zipO is l'):=by
 intro l l' w
 induction w with
 |nil=>intro is h;rw[List.eq_nil_of_length_eq_zero h];exact .nil
 |cons _ _ _ _ w _ ih=>intro is h;cases is with
  |nil=>exact absurd h.symm (Nat.succ_ne_zero _)
  |cons i is=>exact .cons _ _ _ _ _ _ w (ih is (Nat.succ.inj h))
inductive WVl:List V→List V→Prop
 |nil:WVl [] []
 |cons (o o':V) (l l':List V):WV o o'→WVl l l'→WVl (o::l) (o'::l')
theorem WVl.ms:∀{l l':List V},WVl l l'→∀(xs:List Str),xs.length=l.length→WMs xs (l.map some) (zipV xs l'):=by
 intro l l' w
 induction w with
 |nil=>intro is h;rw[List.eq_nil_of_length_eq_zero h];exact .nil
 |cons _ _ _ _ w _ ih=>intro is h;cases is with
  |nil=>exact absurd h.symm (Nat.succ_ne_zero _)
  |cons i is=>exact .cons _ _ _ _ _ _ w (ih is (Nat.succ.inj h))
end
theorem Zlo{f f':Nat→V}(h0:WV (f 0) (f' 0))(h1:WV (f 1) (f' 1))(h2:WV (f 2) (f' 2))(h3:WV (f 3) (f' 3))(h4:WV (f 4) (f' 4)):WO (rowV f) (rowV f'):=
 .list _ _ (.cons _ _ _ _ h0 (.cons _ _ _ _ h1 (.cons _ _ _ _ h2 (.cons _ _ _ _ h3 (.cons _ _ _ _ h4 .nil)))))
theorem Zhx{f f':Nat→V}(h:∀j,j<5→WV (f j) (f' j)):WO (rowV f) (rowV f'):=
 Zlo (h 0 (by decide)) (h 1 (by decide)) (h 2 (by decide)) (h 3 (by decide)) (h 4 (by decide))
noncomputable def hitB(e i j:Nat):Bool:=(Nat.beq i (Zj e).1&&Nat.beq j (Zj e).2) || (Nat.beq i (Zj e).2&&Nat.beq j (Zj e).1)
theorem Zbs:∀e,e<10→∀i,i<5→∀j,j<5→Yj (e+1) i j pairs=(hitB e i j || Yj e i j pairs):=by decide+kernel
theorem Zfu:∀e,e<10→∀i,i<5→∀j,j<5→hitB e i j=true→(min i j,max i j)=Zj e:=by decide+kernel
theorem Zkx{t:Tree}{v:EV}(g:goodW v.w){e:Nat}(he:e<10)(h4:(ksOf t (Zj e)).length≤4){i j:Nat}(hi:i<5)(hj:j<5):WV (upd2 (Zj e).1 (Zj e).2 (ZbZ t v e) (gapV t v.w e) i j) (gapV t v.w (e+1) i j):=by
 have b:=Zbs e he i hi j hj;have hp:=Zfu e he i hi j hj;unfold upd2;show WV (match hitB e i j with|true=>ZbZ t v e|false=>gapV t v.w e i j) _
 unfold gapV;refine(b).symm▸?_;cases q:hitB e i j with
 |true=>
  dsimp only[Bool.true_or]
  refine(hp q).symm▸?_;exact Znc g e he h4
 |false=>exact .refl _
theorem Zh0{t:Tree}{e:Nat}(he:e<10){i j:Nat}(hi:i<5)(hj:j<5):WV (upd2 (Zj e).1 (Zj e).2 (.lit (Za5 t (Zj e))) (meetV t e) i j) (meetV t (e+1) i j):=by
 have b:=Zbs e he i hi j hj;have hp:=Zfu e he i hi j hj;unfold upd2;show WV (match hitB e i j with|true=>V.lit (Za5 t (Zj e))|false=>meetV t e i j) _
 unfold meetV;refine(b).symm▸?_;cases q:hitB e i j with
 |true=>
  dsimp only[Bool.true_or]
  refine(hp q).symm▸?_;exact .refl _
 |false=>exact .refl _
theorem WVs.snoc:∀{l l':List V} {v v':V},WVs l l'→WV v v'→WVs (l++[v]) (l'++[v']):=by
 intro l l' v v' r w
 induction r with
 |nil=>exact .cons _ _ _ _ w .nil
 |cons _ _ _ _ q _ ih=>exact .cons _ _ _ _ q ih
theorem Zhw{t:Tree}{w:Wts}{e:Nat}(he:e<10):rowsW t w (e+1)=rowsW t w e++[.str (rowS w (ksOf t (Zj e))) (8*(ksOf t (Zj e)).length)]:=by
 exact ltS (P:=fun e=>rowsW t w (e+1)=rowsW t w e++[.str (rowS w (ksOf t (Zj e))) (8*(ksOf t (Zj e)).length)]) (ltS (ltS (ltS (ltS (ltS (ltS (ltS (ltS (ltS lt0 rfl) rfl) rfl) rfl) rfl) rfl) rfl) rfl) rfl) rfl e he
theorem Zod{w:Wts}(g:goodW w){ks:List Nat}:WV (.str (rowJ w ks) (8*ks.length)) (.str (rowS w ks) (8*ks.length)):=by
 rw[Zmk];exact .refl _
theorem ZhQ{t:Tree}{top:Bool}{v:EV}(g:goodW v.w){e:Nat}(he:e<10)(h4:(ksOf t (Zj e)).length≤4):
  WOl (rawO t top v e) (objE t top v (pageE t v (e+1)) (gapV t v.w (e+1)) (meetV t (e+1)) (rowsW t v.w (e+1))):=by
 have R:∀i,i<5→WO (rowV (upd2 (Zj e).1 (Zj e).2 (ZbZ t v e) (gapV t v.w e) i)) (rowV (gapV t v.w (e+1) i)):=fun i hi=>Zhx fun j hj=>Zkx g he h4 hi hj;have M:∀i,i<5→WO (rowV (upd2 (Zj e).1 (Zj e).2 (.lit (Za5 t (Zj e))) (meetV t e) i)) (rowV (meetV t (e+1) i)):=fun i hi=>Zhx fun j hj=>Zh0 he hi hj;have L:WO (.list (rowsW t v.w e++[.str (rowJ v.w (ksOf t (Zj e))) (8*(ksOf t (Zj e)).length)])) (.list (rowsW t v.w (e+1))):=by
  rw[Zhw he];exact .list _ _ ((WVs.refl _).snoc (Zod g))
 skip
 exact .cons _ _ _ _ (.refl _) (.cons _ _ _ _ (.refl _) (.cons _ _ _ _ (.refl _) (.cons _ _ _ _ (.refl _) (.cons _ _ _ _ (.refl _) (.cons _ _ _ _ (.refl _) (.cons _ _ _ _ (.refl _) (.cons _ _ _ _ (.refl _) (.cons _ _ _ _ (.refl _) (.cons _ _ _ _ (.refl _)
  (.cons _ _ _ _ (.refl _) (.cons _ _ _ _ (.refl _) (.cons _ _ _ _ (.refl _) (.cons _ _ _ _ (.refl _) (.cons _ _ _ _ (.refl _) (.cons _ _ _ _ (.refl _) (.cons _ _ _ _ (.refl _) (.cons _ _ _ _ (.refl _)
  (.cons _ _ _ _ (R 0 (by decide)) (.cons _ _ _ _ (R 1 (by decide)) (.cons _ _ _ _ (R 2 (by decide)) (.cons _ _ _ _ (R 3 (by decide)) (.cons _ _ _ _ (R 4 (by decide)) (.cons _ _ _ _ (.refl _)
  (.cons _ _ _ _ (M 0 (by decide)) (.cons _ _ _ _ (M 1 (by decide)) (.cons _ _ _ _ (M 2 (by decide)) (.cons _ _ _ _ (M 3 (by decide)) (.cons _ _ _ _ (M 4 (by decide)) (.cons _ _ _ _ L .nil)))))))))))))))))))))))))))))
theorem Znx(rec:Rec)(v:V)(st:St)(K:St→Prop):asgA rec lawN (forT stFar) v st K=K {st with m:=updS "far" v st.m}:=by kernel_rfl
theorem Zk0(rec:Rec)(v:V)(st:St)(K:St→Prop):asgA rec lawN (forT Y7) v st K=K {st with m:=updS "near" v st.m}:=by kernel_rfl
noncomputable def turnK(rec:Rec)(sc:Sc)(t:Expr)(b o:List Stmt)(it:It)(k:KS):KS:=fun f st=>match f with
 | .nxt=>rec.fl sc t b o it st k
 | .cnt=>rec.fl sc t b o it st k
 | .brk=>k .nxt st
 | .ret v=>k (.ret v) st
theorem Zfw(rec:Rec)(sc:Sc)(t:Expr)(b o:List Stmt)(c d:Int)(n:Nat)(st:St)(k:KS):ZdQ rec sc t b o (.range c (n+1) d) st k=asgA rec sc t (.int c (c.natAbs+1)) st fun st=>rec.ss sc b st (turnK rec sc t b o (.range (c+d) n d) k):=by
 rfl
noncomputable def seqK(rec:Rec)(sc:Sc)(r:List Stmt)(k:KS):KS:=fun f st=>match f with
 | .nxt=>rec.ss sc r st k
 |f=>k f st
theorem Zjy(g:G)(rec:Rec)(st:St)(k:KS):Zc2 g rec lawN [stFar] st k=iterA rec lawN (forI stFar) st fun it st=>rec.fl lawN (forT stFar) bodyE [] it st (seqK rec lawN [] k):=by kernel_rfl
theorem Zhb(g:G)(rec:Rec)(st:St)(k:KS):Zc2 g rec lawN [Y7] st k=iterA rec lawN (forI Y7) st fun it st=>rec.fl lawN (forT Y7) [stFar] [] it st (seqK rec lawN [] k):=by kernel_rfl
section
variable{C:Ctx}{n:Nat}{k:KS}{t:Tree}{top:Bool}{v:EV}
theorem Zo0(e:Nat)(near far:Int):({stWay t top v e [("near", .lit near)]with m:=updS "far" (.lit far) (stWay t top v e [("near", .lit near)]).m}:St)=stWay t top v e [("near", .lit near),("far", .lit far)]:=by kernel_rfl
theorem Zmy(e:Nat)(near:Int):({stWay t top v e []with m:=updS "near" (.lit near) (stWay t top v e []).m}:St)=stWay t top v e [("near", .lit near)]:=by kernel_rfl
theorem ZiI(e:Nat)(near:V):WS (stWay t top v e [("near",near)]) (stWay t top v e []) where
 n:=rfl
 m:=fun x v' h=>by
  have:∀(l r:List (Str×V)),lookS x l=some v'→lookS x (l++r)=some v':=by
   intro l r
   induction l with
   |nil=>intro h;exact nnO h
   |cons p l ih=>
    obtain⟨y,u⟩:=p;intro h;rw[ZE]at h;rw[List.cons_append,ZE];cases q:strEq y x with
    |true=>rw[q]at h;exact h
    |false=>rw[q]at h;exact ih h
  refine⟨v',this _ _ ?_, .refl _⟩;have e:(stWay t top v e []).m=zipV xsE (vsE v)++[]:=rfl;rw[e,List.append_nil]at h;exact h
 σ:=fun i o h=>⟨o,h, .refl _⟩
theorem ZL(GK:GOK C (gE top)){e:Nat}(W:wayEq t top e)(g:goodW v.w)(he:e<10)(h4:(ksOf t (Zj e)).length≤4)(hn:560≤n){m1:Nat}
  (h:FL C n lawN (forT stFar) bodyE [] (.range (((Zj e).2:Int)+1) m1 1) (stWay t top v (e+1) [("near", .lit (Zj e).1)]) k):
  FL C (n+1) lawN (forT stFar) bodyE [] (.range ((Zj e).2:Int) (m1+1) 1) (stWay t top v e [("near", .lit (Zj e).1)]) k:=by
 refine ZcI GK ?_;rw[Zfw,Znx,show(V.int ((Zj e).2:Int) (((Zj e).2:Int).natAbs+1))= .lit ((Zj e).2:Int)from rfl,Zo0]
 skip
 refine Zll GK hn (W v.w.a v.w.b v.w.c v.w.d v.h v.l v.on v.to) (Zml v) fun st' h1 h2 h3=>?_;refine Ziu (ws_of h1 h2 h3 ((ZhQ g he h4).os idxE rfl) ?_) h;exact WMs.refl (xsE++[("near":Str)]) (vsE v++[V.lit (Zj e).1]) rfl
theorem Ji(GK:GOK C (gE top)){c d:Int}{st:St}(h:k .nxt st):FL C (n+1) lawN (forT stFar) bodyE [] (.range c 0 d) st k:=
 ZcI GK (show SS C n lawN [] st k from Ze3 h)
theorem iter0(n:Nat)(e:Nat)(K:It→St→Prop):iterA (semR C (gE top) (n+20)) lawN (forI stFar) (stWay t top v e [("near", .lit (0:Nat))]) K=K (.range (1:Nat) 4 1) (stWay t top v e [("near", .lit (0:Nat))]):=by kernel_rfl
theorem iter1(n:Nat)(e:Nat)(K:It→St→Prop):iterA (semR C (gE top) (n+20)) lawN (forI stFar) (stWay t top v e [("near", .lit (1:Nat))]) K=K (.range (2:Nat) 3 1) (stWay t top v e [("near", .lit (1:Nat))]):=by kernel_rfl
theorem iter2(n:Nat)(e:Nat)(K:It→St→Prop):iterA (semR C (gE top) (n+20)) lawN (forI stFar) (stWay t top v e [("near", .lit (2:Nat))]) K=K (.range (3:Nat) 2 1) (stWay t top v e [("near", .lit (2:Nat))]):=by kernel_rfl
theorem iter3(n:Nat)(e:Nat)(K:It→St→Prop):iterA (semR C (gE top) (n+20)) lawN (forI stFar) (stWay t top v e [("near", .lit (3:Nat))]) K=K (.range (4:Nat) 1 1) (stWay t top v e [("near", .lit (3:Nat))]):=by kernel_rfl
theorem iter4(n:Nat)(e:Nat)(K:It→St→Prop):iterA (semR C (gE top) (n+20)) lawN (forI stFar) (stWay t top v e [("near", .lit (4:Nat))]) K=K (.range (5:Nat) 0 1) (stWay t top v e [("near", .lit (4:Nat))]):=by kernel_rfl
theorem iterN(n:Nat)(st:St)(K:It→St→Prop):iterA (semR C (gE top) (n+20)) lawN (forI Y7) st K=K (.range (0:Nat) 5 1) st:=by kernel_rfl
theorem YK(GK:GOK C (gE top)){e e1 i m1 m2:Nat}{c:Int}(hit:∀K:It→St→Prop,iterA (semR C (gE top) (n+20)) lawN (forI stFar) (stWay t top v e [("near", .lit (i:Nat))]) K=K (.range c m2 1) (stWay t top v e [("near", .lit (i:Nat))]))
  (hin:∀k:KS,k .nxt (stWay t top v e1 [("near", .lit (i:Nat))])→FL C (n+20) lawN (forT stFar) bodyE [] (.range c m2 1) (stWay t top v e [("near", .lit (i:Nat))]) k)
  (h:FL C (n+21) lawN (forT Y7) [stFar] [] (.range ((i:Int)+1) m1 1) (stWay t top v e1 []) k):
  FL C (n+22) lawN (forT Y7) [stFar] [] (.range (i:Int) (m1+1) 1) (stWay t top v e []) k:=by
 refine ZcI GK ?_;rw[Zfw,Zk0,show(V.int (i:Int) ((i:Int).natAbs+1))= .lit (i:Int)from rfl,Zmy]
 skip
 refine Zhd GK ?_;rw[Zjy,hit];refine hin _ ?_
 skip
 refine Ze3 ?_;exact Ziu (ZiI e1 _) h
theorem ZhL(GK:GOK C (gE top)){c d:Int}{st:St}(h:k .nxt st):FL C (n+1) lawN (forT Y7) [stFar] [] (.range c 0 d) st k:=
 ZcI GK (show SS C n lawN [] st k from Ze3 h)
theorem ZmG(GK:GOK C (gE top))(W:Zk9 t top)(g:goodW v.w)(h4:∀e,e<10→(ksOf t (Zj e)).length≤4)(h:k .nxt (stWay t top v 10 [])):SS C 640 lawN [Y7] (stWay t top v 0 []) k:=by
 obtain⟨w0,w1,w2,w3,w4,w5,w6,w7,w8,w9⟩:=W;refine Zhd (n:=639) GK ?_;rw[Zhb,iterN 619]
 skip
 refine YK (n:=617) GK (e1:=4) (iter0 617 0) (fun k h=>?_) ?_
 ·exact ZL (n:=636) (e:=0) (m1:=3) GK w0 g (by decide) (h4 0 (by decide)) (by decide) (ZL (n:=635) (e:=1) (m1:=2) GK w1 g (by decide) (h4 1 (by decide)) (by decide) (ZL (n:=634) (e:=2) (m1:=1) GK w2 g (by decide) (h4 2 (by decide)) (by decide) (ZL (n:=633) (e:=3) (m1:=0) GK w3 g (by decide) (h4 3 (by decide)) (by decide) (Ji (n:=632) GK h))))
 refine YK (n:=616) GK (e1:=7) (iter1 616 4) (fun k h=>?_) ?_
 ·exact ZL (n:=635) (e:=4) (m1:=2) GK w4 g (by decide) (h4 4 (by decide)) (by decide) (ZL (n:=634) (e:=5) (m1:=1) GK w5 g (by decide) (h4 5 (by decide)) (by decide) (ZL (n:=633) (e:=6) (m1:=0) GK w6 g (by decide) (h4 6 (by decide)) (by decide) (Ji (n:=632) GK h)))
 refine YK (n:=615) GK (e1:=9) (iter2 615 7) (fun k h=>?_) ?_
 ·exact ZL (n:=634) (e:=7) (m1:=1) GK w7 g (by decide) (h4 7 (by decide)) (by decide) (ZL (n:=633) (e:=8) (m1:=0) GK w8 g (by decide) (h4 8 (by decide)) (by decide) (Ji (n:=632) GK h))
 refine YK (n:=614) GK (e1:=10) (iter3 614 9) (fun k h=>?_) ?_
 ·exact ZL (n:=633) (e:=9) (m1:=0) GK w9 g (by decide) (h4 9 (by decide)) (by decide) (Ji (n:=632) GK h)
 refine YK (n:=613) GK (e1:=10) (iter4 613 10) (fun k h=>?_) ?_
 ·exact Ji (n:=632) GK h
 refine ZhL (n:=633) GK ?_
 skip
 exact Ze3 h
end
theorem Zcu:∀{l:List (Nat×AO)},(l.map (·.1)).Nodup→∀{i:Nat} {o:AO},(i,o)∈l→(puts l).get i=some o
 | [],_,_,_,h=>by cases h
 |(j,p)::r,nd,i,o,h=>by
  have e:(puts ((j,p)::r)).get i=if i=j then some p else(puts r).get i:=Tr.get_put _ _ _ _ _ (Nat.lt_succ_self j)
  rw[List.map_cons,List.nodup_cons]at nd;rw[e];rcases List.mem_cons.mp h with h|h
  ·cases h;rw[if_pos rfl]
  ·have:i≠j:=fun q=>nd.1 (q▸List.mem_map.mpr ⟨(i,o),h,rfl⟩);rw[if_neg this];exact Zcu nd.2 h
theorem ZaB:∀{is:List Nat} {os:List AO} {j i:Nat} {o:AO},is[j]? =some i→os[j]? =some o→(i,o)∈zipO is os
 | [],_,_,_,_,h,_=>by simp at h
 |_::_,[],_,_,_,_,h=>by simp at h
 |i::is,o::os,0,_,_,h,h2=>by
  simp at h h2;subst h;subst h2;exact List.mem_cons_self
 |i::is,o::os,j+1,_,_,h,h2=>by
  simp at h h2;exact List.mem_cons_of_mem _ (ZaB h h2)
theorem ZeX:∀{is:List Nat} {os:List AO} {i:Nat} {o:AO},(i,o)∈zipO is os→∃j:Nat,is[j]? =some i∧os[j]? =some o
 | [],_,_,_,h=>by cases h
 |_::_,[],_,_,h=>by cases h
 |i::is,o::os,_,_,h=>by
  rcases List.mem_cons.mp h with h|h
  ·cases h;exact⟨0,rfl,rfl⟩
  ·obtain⟨j,h1,h2⟩:=ZeX h;exact⟨j+1,by exact h1,by exact h2⟩
theorem JI:∀{is:List Nat} {os:List AO},is.length=os.length→(zipO is os).map (·.1)=is
 | [],[],_=>rfl
 | [],_::_,h=>by cases h
 |_::_,[],h=>by cases h
 |i::is,o::os,h=>by
  show i::(zipO is os).map (·.1)=_;rw[JI (Nat.succ.inj h)]
inductive Rens(full:List Nat):List AO→List AO→Prop
 |nil:Rens full [] []
 |cons (l l':List V) (r r':List AO):Vals full l l'→Rens full r r'→Rens full (.list l::r) (.list l'::r')
theorem Rens.len{full:List Nat}{r r':List AO}(R:Rens full r r'):r.length=r'.length:=by
 induction R with
 |nil=>rfl
 |cons _ _ _ _ _ _ ih=>exact congrArg Nat.succ ih
theorem Rens.at{full:List Nat}{r r':List AO}(R:Rens full r r'):∀{j:Nat} {o':AO},r'[j]? =some o'→∃l l',r[j]? =some (.list l)∧o'= .list l'∧Vals full l l':=by
 induction R with
 |nil=>intro j μ h;exact nnO h
 |cons l l' r r' v _ ih=>intro j o' h;cases j with
  |zero=>exact⟨l,l',rfl,(Option.some.inj h).symm,v⟩
  |succ j=>exact ih (j:=j) h
theorem Ze8{n j:Nat}(h:j<n):(List.range n)[j]? =some j:=by simp[h]
theorem Zn3{n:Nat}{rs:List Nat}{os os':List AO}{m m':List (Str×V)}(nd:rs.Nodup)(hl:rs.length=os.length)(R:Rens rs os os'):Sub (mkSt n (zipO rs os) m) rs (mkSt rs.length (zipO (List.range rs.length) os') m') where
 nd:=nd
 n:=rfl
 own:=fun j o e=>by
  have h:=Zct e;obtain⟨i,h1,h2⟩:=ZeX h;have hi:i<rs.length:=by
   have:=(List.getElem?_eq_some_iff.mp h1).1;simpa using this
  rw[Ze8 hi]at h1;cases h1;obtain⟨l,l',q1,q2,q3⟩:=R.at h2;refine⟨rs[j],l,l',by simp[hi],?_,q2,q3⟩
  exact Zcu (by rw[JI hl];exact nd) (ZaB (by simp[hi]) q1)
 all:=fun j i e=>by
  have hj:j<rs.length:=(List.getElem?_eq_some_iff.mp e).1;have hj':j<os'.length:=by rw[←R.len,←hl];exact hj
  obtain⟨l,l',q1,q2,q3⟩:=R.at (List.getElem?_eq_getElem hj');refine⟨l,l',Zcu (by rw[JI hl];exact nd) (ZaB e q1),?_,q3⟩
  refine Zcu ?_ (ZaB (Ze8 hj) (by rw[List.getElem?_eq_getElem hj',q2]))
  rw[JI (by rw[List.length_range,hl,R.len])]
  exact List.nodup_range
theorem Zfh{full:List Nat}:∀{xs:List Str} {vs vs':List V},Vals full vs vs'→∀{x:Str} {v':V},lookS x (zipV xs vs')=some v'→∃v,lookS x (zipV xs vs)=some v∧Val full v v'
 | [],_,_,_,_,_,h=>by exact nnO h
 |_::_,_,_, .nil,_,_,h=>by exact nnO h
 |y::xs,_,_, .cons v v1 l l' q r,x,v',h=>by
  have e1:zipV (y::xs) (v1::l')=(y,v1)::zipV xs l':=rfl;have e2:zipV (y::xs) (v::l)=(y,v)::zipV xs l:=rfl;rw[e1,ZE]at h;rw[e2,ZE];cases p:strEq y x with
  |true=>rw[p]at h;cases h;exact⟨v,rfl,q⟩
  |false=>rw[p]at h;exact Zfh r h
theorem YD(full:List Nat):∀{l:List V},flatL l=true→Vals full l l
 | [],_=> .nil
 |v::l,h=>by
  unfold flatL at h;rw[Bool.and_eq_true]at h;refine .cons _ _ _ _ ?_ (YD full h.2);cases v with
  |none=>exact .none
  |bool b=>exact .bool b
  |int x b=>exact .int x b b fun n=>⟨n,Nat.le_refl _⟩
  |flt x=>exact .flt x
  |str s b=>exact .str s b b (Nat.le_refl _)
  |tup l=>exact ftB h.1
  |ref i=>exact ftB h.1
theorem ZR(full:List Nat):∀{is js:List Nat},is.length=js.length→(∀k,k<js.length→full[js.getD k 0]? =is[k]?)→Vals full (is.map V.ref) (js.map V.ref)
 | [],[],_,_=> .nil
 | [],_::_,h,_=>by cases h
 |_::_,[],h,_=>by cases h
 |i::is,j::js,h,hk=>by
  refine .cons _ _ _ _ (.ref i j ?_) (ZR full (Nat.succ.inj h) fun k hk'=>?_)
  ·exact hk 0 (by simp)
  ·exact hk (k+1) (by simp;exact hk')
section
variable{C:Ctx}{g:G}{n m:Nat}{sc:Sc}{st:St}{Z:V→Prop}
theorem Zda{n0:Nat}{rs:List Nat}{os os':List AO}{xs:List Str}{vs vs':List V}{l:List Stmt}(nd:rs.Nodup)(hl:rs.length=os.length)(R:Rens rs os os')(hv:Vals rs vs vs')
  (h:S0 C n sc l (mkSt rs.length (zipO (List.range rs.length) os') (zipV xs vs')) Z):S0 C n sc l (mkSt n0 (zipO rs os) (zipV xs vs)) Z:=
 Zoa (Zn3 nd hl R) (fun μ μ hx=>Zfh hv hx) h
theorem Zob(GK:GOK C g)(hm:m≤n){l:List Stmt}(h:(evF g m).ss sc l st (endK Z)):S0 C n sc l st Z:=by
 intro A env ρ s Q E H F hs hA K;refine(ZbI GK hm h) A env ρ s Q E H F hs hA fun f fl st' ρ' s' hk H' F' e' r'=>?_;cases r' with
 |ret v x r=>exact K v x ρ' st' s' hk H' r
 |nxt=>exact noB hk
 |brk=>exact noB hk
 |cnt=>exact noB hk
theorem Zdb(GK:GOK C g)(hm:m≤n){a b:List Stmt}{is:List Nat}{xs:List Str}{n1:Nat}{os:List (Option AO)}{vs:List (Option V)}{os':List (Nat×AO)}{m':List (Str×V)}
  (run:∀K:KO,(evF g m).ss sc a st (kO is xs K)=K n1 os vs)(w2:WOs is os os')(w3:WMs xs vs m')(h:S0 C n sc b (mkSt n1 os' m') Z):S0 C n sc (a++b) st Z:=
 YR GK hm (O:=True) (fun K=>(run K).trans (by simp)) trivial w2 w3 h
end
noncomputable def gapI(t:Tree)(w:Wts)(i j:Nat):Int:=match Yj 10 i j pairs with
 |true=>distW w (ksOf t (min i j,max i j))
 |false=>0
noncomputable def cntN(k:Nat):List Nat→Nat
 | []=>0
 |a::r=>one1 (Nat.beq a k) 1+cntN k r
noncomputable def cntS(k:Nat):List (List Nat)→Nat
 | []=>0
 |a::r=>cntN k a+cntS k r
noncomputable def distS(w:Wts):List (List Nat)→Int
 | []=>0
 |a::r=>distW w a+distS w r
noncomputable def waysL(t:Tree):List (List Nat):=pairs.map (ksOf t)
noncomputable def cij(t:Tree)(k i j:Nat):Nat:=match Yj 10 i j pairs with
 |true=>cntN k (ksOf t (min i j,max i j))
 |false=>0
noncomputable def in4:List Nat→Bool
 | []=>true
 |k::r=>(Nat.ble 1 k&&Nat.ble k 4)&&in4 r
theorem ZcK(w:Wts):∀{ks:List Nat},in4 ks=true→distW w ks=w.a*cntN 1 ks+w.b*cntN 2 ks+w.c*cntN 3 ks+w.d*cntN 4 ks
 | [],_=>by simp[distW,cntN]
 |k::r,h=>by
  unfold in4 at h;simp only[Bool.and_eq_true]at h;have ih:=ZcK w h.2;have h1:=Nat.le_of_ble_eq_true h.1.1;have h2:=Nat.le_of_ble_eq_true h.1.2;have:k=1∨k=2∨k=3∨k=4:=by lia
  unfold distW cntN;refine(ih).symm▸?_;rcases this with rfl|rfl|rfl|rfl
  ·show w.a+_=w.a*((1+cntN 1 r:Nat):Int)+w.b*((0+cntN 2 r:Nat):Int)+w.c*((0+cntN 3 r:Nat):Int)+w.d*((0+cntN 4 r:Nat):Int);simp only[Int.natCast_add,Int.natCast_zero,Int.natCast_one,Int.zero_add,Int.mul_add,Int.mul_one];lia
  ·show w.b+_=w.a*((0+cntN 1 r:Nat):Int)+w.b*((1+cntN 2 r:Nat):Int)+w.c*((0+cntN 3 r:Nat):Int)+w.d*((0+cntN 4 r:Nat):Int);simp only[Int.natCast_add,Int.natCast_zero,Int.natCast_one,Int.zero_add,Int.mul_add,Int.mul_one];lia
  ·show w.c+_=w.a*((0+cntN 1 r:Nat):Int)+w.b*((0+cntN 2 r:Nat):Int)+w.c*((1+cntN 3 r:Nat):Int)+w.d*((0+cntN 4 r:Nat):Int);simp only[Int.natCast_add,Int.natCast_zero,Int.natCast_one,Int.zero_add,Int.mul_add,Int.mul_one];lia
  ·show w.d+_=w.a*((0+cntN 1 r:Nat):Int)+w.b*((0+cntN 2 r:Nat):Int)+w.c*((0+cntN 3 r:Nat):Int)+w.d*((1+cntN 4 r:Nat):Int);simp only[Int.natCast_add,Int.natCast_zero,Int.natCast_one,Int.zero_add,Int.mul_add,Int.mul_one];lia
theorem ZdW(w:Wts):∀{L:List (List Nat)},(∀ks∈L,in4 ks=true)→distS w L=w.a*cntS 1 L+w.b*cntS 2 L+w.c*cntS 3 L+w.d*cntS 4 L
 | [],_=>by simp[distS,cntS]
 |ks::L,h=>by
  unfold distS cntS;rw[ZdW w fun k hk=>h k (List.mem_cons_of_mem _ hk),ZcK w (h ks List.mem_cons_self)];simp only[Int.natCast_add,Int.mul_add];lia
theorem Yh(a b:List Nat)(c:Nat):Zm (a++b) c=Zm a c+Zm b c:=by
 unfold Zm;rw[List.filter_append,List.length_append]
theorem ZdY(n c:Nat)(h:c≠32):Zm (List.replicate n 32) c=0:=by
 unfold Zm;rw[List.length_eq_zero_iff,List.filter_eq_nil_iff];intro x hx;have:=List.eq_of_mem_replicate hx;subst this;intro q;exact h (Nat.eq_of_beq_eq_true q).symm
theorem JV(x c:Nat):Zm [x] c=one1 (Nat.beq x c) 1:=by
 unfold Zm;cases h:Nat.beq x c<;>simp[h,one1]
theorem Znw(a b:Nat):Nat.beq (97+a) (97+b)=Nat.beq a b:=by
 cases h:Nat.beq a b with
 |true=>refine(Nat.eq_of_beq_eq_true h).symm▸?_;exact Nat.beq_refl _
 |false=>
  have:=Nat.ne_of_beq_eq_false h;cases q:Nat.beq (97+a) (97+b)with
  |false=>rfl
  |true=>have:=Nat.eq_of_beq_eq_true q;lia
theorem Zae(w:Wts)(k:Nat):∀ks:List Nat,Zm (rowL w ks) (97+k)=cntN k ks
 | []=>rfl
 |a::r=>by
  have ih:=Zae w k r;unfold rowL at ih ⊢;rw[List.flatMap_cons,Yh,Yh,ZdY _ _ (by lia),JV,ih,Znw]
  show 0+one1 (Nat.beq a k) 1+cntN k r=one1 (Nat.beq a k) 1+cntN k r
  lia
theorem JD(w:Wts):∀ks:List Nat,Zm (rowL w ks) 47=0
 | []=>rfl
 |a::r=>by
  have ih:=JD w r;unfold rowL at ih ⊢;rw[List.flatMap_cons,Yh,Yh,ZdY _ _ (by decide),JV,ih]
  have:Nat.beq (97+a) 47=false:=by
   cases q:Nat.beq (97+a) 47 with
   |false=>rfl
   |true=>have:=Nat.eq_of_beq_eq_true q;lia
  refine(this).symm▸?_;rfl
noncomputable def joinR(w:Wts):List (List Nat)→List Nat
 | []=>[]
 | [x]=>rowL w x
 |x::y::r=>rowL w x++[47]++joinR w (y::r)
theorem ZbU(w:Wts):∀L:List (List Nat),joinL [47] (L.map (rowS w))=joinR w L
 | []=>rfl
 | [x]=>ZaW w x
 |x::y::r=>by
  have ih:=ZbU w (y::r);show(rowS w x).cps.toList++[47]++joinL [47] ((y::r).map (rowS w))=_;rw[ih,ZaW];rfl
theorem Zbm(w:Wts)(k:Nat):∀L:List (List Nat),Zm (joinR w L) (97+k)=cntS k L
 | []=>rfl
 | [x]=>by
  show Zm (rowL w x) (97+k)=cntN k x+0;rw[Zae];rfl
 |x::y::r=>by
  have ih:=Zbm w k (y::r);show Zm (rowL w x++[47]++joinR w (y::r)) (97+k)=cntN k x+cntS k (y::r);rw[Yh,Yh,ih,Zae,JV];have:Nat.beq 47 (97+k)=false:=by
   cases q:Nat.beq 47 (97+k)with
   |false=>rfl
   |true=>have:=Nat.eq_of_beq_eq_true q;lia
  refine(this).symm▸?_;rfl
theorem ZaU(w:Wts):∀L:List (List Nat),Zm (joinR w L) 47=L.length-1
 | []=>rfl
 | [x]=>by
  show Zm (rowL w x) 47=0;exact JD w x
 |x::y::r=>by
  have ih:=ZaU w (y::r);show Zm (rowL w x++[47]++joinR w (y::r)) 47=_;rw[Yh,Yh,ih,JD,JV];show 0+1+_=_;simp only[List.length_cons];lia
theorem Zdx{w:Wts}(g:goodW w):∀L:List (List Nat),L≠[]→((joinR w L).length:Int)=distS w L+L.length-1
 | [],h=>absurd rfl h
 | [x],_=>by
  show((rowL w x).length:Int)=distW w x+0+1-1;rw[Zcr g];lia
 |x::y::r,_=>by
  have ih:=Zdx g (y::r) (by simp)
  show((rowL w x++[47]++joinR w (y::r)).length:Int)=distW w x+distS w (y::r)+_-1;rw[List.length_append,List.length_append];have:=Zcr g x;simp only[List.length_cons,List.length_nil]at ih ⊢
  lia
theorem J1(t:Tree)(w:Wts):(textW t w).cps.toList=joinR w (waysL t):=by
 skip
 rw[←ZbU];rfl
theorem Zg4(t:Tree)(w:Wts):(textW t w).length=(joinR w (waysL t)).length:=by
 rw[←J1];simp[Str.length]
theorem Zax(sep x:List Nat)(b:Nat):∀l:List (Str×Nat),l≠[]→joinL sep ((Yk x b l).map fun x=>x.1)=joinL sep (l.map fun x=>x.1)++x
 | [],h=>absurd rfl h
 | [(s,n)],_=>rfl
 |l::m::r,_=>by
  have ih:=Zax sep x b (m::r) (by simp)
  have hne:Yk x b (m::r)≠[]:=by obtain⟨_,_⟩:=m;cases r<;>exact List.cons_ne_nil _ _
  show joinL sep (l.1::(Yk x b (m::r)).map fun x=>x.1)=_;cases hq:Yk x b (m::r)with
  |nil=>exact absurd hq hne
  |cons p q=>
   rw[hq]at ih;show l.1.cps.toList++sep++joinL sep ((p::q).map fun x=>x.1)=l.1.cps.toList++sep++joinL sep ((m::r).map fun x=>x.1)++x;rw[ih];simp
theorem Zmc{a b:Str}(h:a.cps.toList=b.cps.toList):a=b:=by
 obtain⟨x⟩:=a;obtain⟨y⟩:=b;have:x=y:=Array.toList_inj.mp h;rw[this]
structure TreeOK(t:Tree):Prop where
 ways:∀top,Zk9 t top
 names:∀top,bEq t top
 text:Zlg t
 sums:Zli t
 paint:ZhI t
 len4:∀e,e<10→(ksOf t (Zj e)).length≤4
 in4:∀ks∈waysL t,in4 ks=true
 in4':∀i,i<5→∀j,j<5→Yj 10 i j pairs=true→Mine.in4 (ksOf t (min i j,max i j))=true
 prt:(cntS 1 (waysL t):Int)=prtN t 1∧(cntS 2 (waysL t):Int)=prtN t 2∧(cntS 3 (waysL t):Int)=prtN t 3∧(cntS 4 (waysL t):Int)=prtN t 4
 row:∀i,i<5→∀k,k<5→k≠0→(cij t k i 0:Int)*(2-(tieN t 0:Int))+cij t k i 1*(2-(tieN t 1:Int))+cij t k i 2*(2-(tieN t 2:Int))+cij t k i 3*(2-(tieN t 3:Int))+cij t k i 4*(2-(tieN t 4:Int))=1
 det:∀a b c d:Int,detX (gapI t ⟨a,b,c,d⟩)=8*(0+a+b+c+d)*a*b*c*d
 meet:∀p:Nat→Int,detX (Zak t p)=dueP t p
noncomputable def Zt(v:V):Prop:=v= .bool true
theorem Za2{p:Prop}[Decidable p](h:p):(!(decide p))=false:=by rw[decide_eq_true h];rfl
theorem Zbf{t:Tree}(T:TreeOK t)(w:Wts){i j:Nat}(hi:i<5)(hj:j<5):gapI t w i j=w.a*cij t 1 i j+w.b*cij t 2 i j+w.c*cij t 3 i j+w.d*cij t 4 i j:=by
 delta gapI cij
 cases h:Yj 10 i j pairs with
 |true=>exact ZcK w (T.in4' i hi j hj h)
 |false=>simp
theorem lin4(a b c d:Int)(A B C D:Nat→Int)(u:Nat→Int)(hA:A 0*u 0+A 1*u 1+A 2*u 2+A 3*u 3+A 4*u 4=1)(hB:B 0*u 0+B 1*u 1+B 2*u 2+B 3*u 3+B 4*u 4=1)(hC:C 0*u 0+C 1*u 1+C 2*u 2+C 3*u 3+C 4*u 4=1)(hD:D 0*u 0+D 1*u 1+D 2*u 2+D 3*u 3+D 4*u 4=1):
  0+(a*A 0+b*B 0+c*C 0+d*D 0)*u 0+(a*A 1+b*B 1+c*C 1+d*D 1)*u 1+(a*A 2+b*B 2+c*C 2+d*D 2)*u 2+(a*A 3+b*B 3+c*C 3+d*D 3)*u 3+(a*A 4+b*B 4+c*C 4+d*D 4)*u 4=0+a+b+c+d:=by
 have e:0+(a*A 0+b*B 0+c*C 0+d*D 0)*u 0+(a*A 1+b*B 1+c*C 1+d*D 1)*u 1+(a*A 2+b*B 2+c*C 2+d*D 2)*u 2+(a*A 3+b*B 3+c*C 3+d*D 3)*u 3+(a*A 4+b*B 4+c*C 4+d*D 4)*u 4
   =a*(A 0*u 0+A 1*u 1+A 2*u 2+A 3*u 3+A 4*u 4)+b*(B 0*u 0+B 1*u 1+B 2*u 2+B 3*u 3+B 4*u 4)+c*(C 0*u 0+C 1*u 1+C 2*u 2+C 3*u 3+C 4*u 4)+d*(D 0*u 0+D 1*u 1+D 2*u 2+D 3*u 3+D 4*u 4):=by grind
 rw[e,hA,hB,hC,hD];lia
theorem Zma{t:Tree}(T:TreeOK t)(w:Wts){i:Nat}(hi:i<5):YF t (gapI t w i)=ZQ w:=by
 delta YF ZQ
 rw[Zbf T w hi (show 0<5 by decide),Zbf T w hi (show 1<5 by decide),Zbf T w hi (show 2<5 by decide),Zbf T w hi (show 3<5 by decide),Zbf T w hi (show 4<5 by decide)]
 exact lin4 w.a w.b w.c w.d (fun j=>cij t 1 i j) (fun j=>cij t 2 i j) (fun j=>cij t 3 i j) (fun j=>cij t 4 i j) (fun j=>2-(tieN t j:Int))
  (T.row i hi 1 (by decide) (by decide)) (T.row i hi 2 (by decide) (by decide)) (T.row i hi 3 (by decide) (by decide)) (T.row i hi 4 (by decide) (by decide))
theorem ZaM(t:Tree):(waysL t).length=10:=rfl
theorem ZaQ{a b:Str}(h:a=b):(!(strEq a b))=false:=by rw[Za.mpr h];rfl
section
variable{C:Ctx}{t:Tree}{w:Wts}{p:Nat→Nat→Int}
theorem Znr(GK:GOK C (gE true))(T:TreeOK t)(x:Nat→Nat→V):S0 C 640 lawN (lawS 32 34) (stP t w p x) Zt:=by
 refine Zob (m:=560) GK (by decide) ?_
 rw[T.paint w p x Zt];exact⟨Za2 (T.meet _),Za2 (T.meet _),Za2 (T.meet _),rfl⟩
theorem c_det(GK:GOK C (gE true))(T:TreeOK t)(D:detEq):S0 C 640 lawN (lawS 31 32++lawS 32 34) (stC1 t w (Zx p) (Zx p) (ivR 21 (gapI t w)) (meetV t 10) (ZQ w)) Zt:=by
 refine YR (m:=560) GK (by decide) (D t w.a w.b w.c w.d (ZQ w) (Zx p) (Zx p) (gapI t w) (meetV t 10)) (Za2 ?_) (WOs.refl _ _ rfl) (WMs.refl (xsF++[("choices":Str)]) (vsF++[V.ref 26]) rfl) (Znr GK T (ivR 21 (gapI t w)))
 exact T.det w.a w.b w.c w.d
noncomputable def lF(t:Tree)(w:Wts)(on to:Nat→List V)(x y:Nat→Nat→V)(i:Nat):List V:=match i with
 |0=>[.lit 0, .lit 0, .lit t.p2, .lit t.p3, .lit t.p4]
 |1=>wtsV w
 |3=>on 0
 |4=>on 1
 |5=>on 2
 |6=>on 3
 |7=>on 4
 |9=>to 0
 |10=>to 1
 |11=>to 2
 |12=>to 3
 |13=>to 4
 |15=>[x 0 0,x 0 1,x 0 2,x 0 3,x 0 4]
 |16=>[x 1 0,x 1 1,x 1 2,x 1 3,x 1 4]
 |17=>[x 2 0,x 2 1,x 2 2,x 2 3,x 2 4]
 |18=>[x 3 0,x 3 1,x 3 2,x 3 3,x 3 4]
 |19=>[x 4 0,x 4 1,x 4 2,x 4 3,x 4 4]
 |21=>[y 0 0,y 0 1,y 0 2,y 0 3,y 0 4]
 |22=>[y 1 0,y 1 1,y 1 2,y 1 3,y 1 4]
 |23=>[y 2 0,y 2 1,y 2 2,y 2 3,y 2 4]
 |24=>[y 3 0,y 3 1,y 3 2,y 3 3,y 3 4]
 |25=>[y 4 0,y 4 1,y 4 2,y 4 3,y 4 4]
 |_=>[]
theorem Zlt(t:Tree)(w:Wts)(on to:Nat→List V)(x y:Nat→Nat→V):objF t w on to x y=objL (lF t w on to x y):=rfl
theorem c_ch(GK:GOK C (gE true))(T:TreeOK t)(D:detEq)(H:chEq):S0 C 640 lawN (lawS 30 31++(lawS 31 32++lawS 32 34)) (mkSt 26 (zipO idxF (objF t w (Zx p) (Zx p) (ivR 21 (gapI t w)) (meetV t 10))) (zipV xsF vsF++[(("whole":Str),V.int (ZQ w) 21)])) Zt:=by
 rw[Zlt];refine Zdb (m:=560) GK (by decide) (H (lF t w (Zx p) (Zx p) (ivR 21 (gapI t w)) (meetV t 10)) (ZQ w)) (WOs.refl _ _ rfl) (WMs.refl (xsF++[("whole":Str),("choices":Str)]) (vsF++[V.int (ZQ w) 21, .ref 26]) rfl) ?_
 rw[←Zlt];exact c_det GK T D
theorem ZY(t:Tree)(e i:Nat):flatL [meetV t e i 0,meetV t e i 1,meetV t e i 2,meetV t e i 3,meetV t e i 4]=true:=by
 have:∀j,flatV (meetV t e i j)=true:=fun j=>by unfold meetV;split<;>rfl
 simp[flatL,this]
theorem Zok:Rens idxF (objF t w (Zx p) (Zx p) (ivR 21 (gapI t w)) (meetV t 10)) (objF t w (Zx p) (Zx p) (ivR 21 (gapI t w)) (meetV t 10)):=by
 skip
 have f:∀{l:List V},flatL l=true→Vals idxF l l:=fun h=>YD _ h;refine .cons _ _ _ _ (f rfl) (.cons _ _ _ _ (f rfl) (.cons _ _ _ _ (ZR idxF (is:=[3,4,5,6,7]) (js:=[3,4,5,6,7]) rfl (by decide)) ?_))
 refine .cons _ _ _ _ (f rfl) (.cons _ _ _ _ (f rfl) (.cons _ _ _ _ (f rfl) (.cons _ _ _ _ (f rfl) (.cons _ _ _ _ (f rfl) ?_))));refine .cons _ _ _ _ (ZR idxF (is:=[9,10,11,12,13]) (js:=[9,10,11,12,13]) rfl (by decide)) ?_
 refine .cons _ _ _ _ (f rfl) (.cons _ _ _ _ (f rfl) (.cons _ _ _ _ (f rfl) (.cons _ _ _ _ (f rfl) (.cons _ _ _ _ (f rfl) ?_))));refine .cons _ _ _ _ (ZR idxF (is:=[15,16,17,18,19]) (js:=[15,16,17,18,19]) rfl (by decide)) ?_
 refine .cons _ _ _ _ (f rfl) (.cons _ _ _ _ (f rfl) (.cons _ _ _ _ (f rfl) (.cons _ _ _ _ (f rfl) (.cons _ _ _ _ (f rfl) ?_))));refine .cons _ _ _ _ (ZR idxF (is:=[21,22,23,24,25]) (js:=[21,22,23,24,25]) rfl (by decide)) ?_
 exact .cons _ _ _ _ (f (ZY t 10 0)) (.cons _ _ _ _ (f (ZY t 10 1)) (.cons _ _ _ _ (f (ZY t 10 2)) (.cons _ _ _ _ (f (ZY t 10 3)) (.cons _ _ _ _ (f (ZY t 10 4)) .nil))))
theorem ZnN:Vals idxF (vsF++[V.int (ZQ w) 21]) (vsF++[V.int (ZQ w) 21]):=
 .cons _ _ _ _ (.ref _ _ rfl) (.cons _ _ _ _ (.ref _ _ rfl) (.cons _ _ _ _ (.ref _ _ rfl) (.cons _ _ _ _ (.ref _ _ rfl) (.cons _ _ _ _ (.ref _ _ rfl) (.cons _ _ _ _ (.ref _ _ rfl) (.cons _ _ _ _ (.int _ _ _ fun n=>⟨n,Nat.le_refl _⟩) .nil))))))
noncomputable def Zdc(t:Tree)(w:Wts)(i:Nat):Str:=rowS w (ksOf t (Zj i))
theorem Zo9(GK:GOK C (gE true))(T:TreeOK t)(D:detEq)(H:chEq)(g:goodW w):S0 C 640 lawN (lawS 22 30++(lawS 30 31++(lawS 31 32++lawS 32 34))) (stF3 t w (textW t w) (Zx p) (Zx p) (ivR 21 (gapI t w)) (meetV t 10) (Zdc t w)) Zt:=by
 have hl:∀k,Zm (textW t w).cps.toList (97+k)=cntS k (waysL t):=fun k=>by rw[J1];exact Zbm w k _
 have h1:(Zm (textW t w).cps.toList 47:Int)=9:=by
  rw[J1,ZaU,ZaM];rfl
 have h2:((textW t w).length:Int)-9=0+w.a*prtN t 1+w.b*prtN t 2+w.c*prtN t 3+w.d*prtN t 4:=by
  rw[Zg4,Zdx g _ (by intro h;have:=congrArg List.length h;rw[ZaM]at this;cases this),ZaM,ZdW w T.in4,T.prt.1,T.prt.2.1,T.prt.2.2.1,T.prt.2.2.2]
  skip
  lia
 have h3:textW t w=⟨(joinL [47] (rwS (Zdc t w))).toArray⟩:=rfl;have q:∀k,(Zm (textW t w).cps.toList (97+k):Int)=cntS k (waysL t):=fun k=>by rw[hl]
 have hr:∀i,i<5→YF t (gapI t w i)=ZQ w:=fun i hi=>Zma T w hi;refine YR (m:=560) (O:=_∧_∧_∧_) GK (by decide) (fun K=>(T.sums w.a w.b w.c w.d (Zx p) (Zx p) (gapI t w) (meetV t 10) (textW t w) (Zdc t w) K).trans (by simp only[and_assoc];rfl)) ⟨?_,Za2 h2,ZaQ h3,?_⟩
  (WOs.refl _ _ rfl) (WMs.refl (xsF++[("whole":Str)]) (vsF++[V.int (ZQ w) 21]) rfl) ?_
 ·rw[decide_eq_true h1,decide_eq_true ((q 1).trans T.prt.1),decide_eq_true ((q 2).trans T.prt.2.1),decide_eq_true ((q 3).trans T.prt.2.2.1),decide_eq_true ((q 4).trans T.prt.2.2.2)]
  rfl
 ·rw[decide_eq_true (hr 0 (by decide)),decide_eq_true (hr 1 (by decide)),decide_eq_true (hr 2 (by decide)),decide_eq_true (hr 3 (by decide)),decide_eq_true (hr 4 (by decide))]
  rfl
 ·exact Zda (n0:=49) (rs:=idxF) (xs:=xsF++[("whole":Str)]) (by decide) rfl Zok ZnN (c_ch GK T D H)
end
noncomputable abbrev Zoh:List Stmt:=lawS 22 30++(lawS 30 31++(lawS 31 32++lawS 32 34))
noncomputable abbrev ZhB:List Stmt:=lawS 20 22++Zoh
section
variable{C:Ctx}{t:Tree}{w:Wts}{p:Nat→Nat→Int}{h l:Int}
noncomputable def evP(w:Wts)(h l:Int)(p:Nat→Nat→Int):EV:=⟨w,h,l,Zx p,Zx p⟩
theorem ZdM{w:Wts}{i j:Nat}:WV (gapV t w 10 i j) (ivR 21 (gapI t w) i j):=by
 delta gapV ivR gapI
 cases Yj 10 i j pairs with
 |true=>exact .refl _
 |false=>exact .int _ _ _ _ rfl fun μ=>(by decide:(0:Int).natAbs<21)
noncomputable def objT(t:Tree)(w:Wts)(p:Nat→Nat→Int):List AO:=objG' t (evP w 0 0 p) (ivR 21 (gapI t w)) (meetV t 10) (rwV (Zdc t w) (rbOf t))
theorem Zju:WOl (objG' t (evP w h l p) (gapV t w 10) (meetV t 10) (rowsW t w 10)) (objT t w p):=by
 skip
 have R:∀i,WO (rowV (gapV t w 10 i)) (rowV (ivR 21 (gapI t w) i)):=fun i=>Zlo ZdM ZdM ZdM ZdM ZdM;exact .cons _ _ _ _ (.refl _) (.cons _ _ _ _ (.refl _) (.cons _ _ _ _ (.refl _) (.cons _ _ _ _ (.refl _) (.cons _ _ _ _ (.refl _) (.cons _ _ _ _ (.refl _) (.cons _ _ _ _ (.refl _) (.cons _ _ _ _ (.refl _)
  (.cons _ _ _ _ (.refl _) (.cons _ _ _ _ (.refl _) (.cons _ _ _ _ (.refl _) (.cons _ _ _ _ (.refl _) (.cons _ _ _ _ (.refl _) (.cons _ _ _ _ (.refl _) (.cons _ _ _ _ (.refl _)
  (.cons _ _ _ _ (R 0) (.cons _ _ _ _ (R 1) (.cons _ _ _ _ (R 2) (.cons _ _ _ _ (R 3) (.cons _ _ _ _ (R 4) (.cons _ _ _ _ (.refl _)
  (.cons _ _ _ _ (.refl _) (.cons _ _ _ _ (.refl _) (.cons _ _ _ _ (.refl _) (.cons _ _ _ _ (.refl _) (.cons _ _ _ _ (.refl _) (.cons _ _ _ _ (.refl _) .nil))))))))))))))))))))))))))
noncomputable def vsT(t:Tree)(w:Wts):List V:=vsG'++[V.str (textW t w) (tbOf t)]
theorem Zoj:Rens idxG' (objT t w p) (objF t w (Zx p) (Zx p) (ivR 21 (gapI t w)) (meetV t 10)++[.list (rwV (Zdc t w) (rbOf t))]):=by
 skip
 have f:∀{l:List V},flatL l=true→Vals idxG' l l:=fun h=>YD _ h;refine .cons _ _ _ _ (f rfl) (.cons _ _ _ _ (f rfl) (.cons _ _ _ _ (ZR idxG' (is:=[5,6,7,8,9]) (js:=[3,4,5,6,7]) rfl (by decide)) ?_))
 refine .cons _ _ _ _ (f rfl) (.cons _ _ _ _ (f rfl) (.cons _ _ _ _ (f rfl) (.cons _ _ _ _ (f rfl) (.cons _ _ _ _ (f rfl) ?_))));refine .cons _ _ _ _ (ZR idxG' (is:=[11,12,13,14,15]) (js:=[9,10,11,12,13]) rfl (by decide)) ?_
 refine .cons _ _ _ _ (f rfl) (.cons _ _ _ _ (f rfl) (.cons _ _ _ _ (f rfl) (.cons _ _ _ _ (f rfl) (.cons _ _ _ _ (f rfl) ?_))));refine .cons _ _ _ _ (ZR idxG' (is:=[19,21,23,25,27]) (js:=[15,16,17,18,19]) rfl (by decide)) ?_
 refine .cons _ _ _ _ (f rfl) (.cons _ _ _ _ (f rfl) (.cons _ _ _ _ (f rfl) (.cons _ _ _ _ (f rfl) (.cons _ _ _ _ (f rfl) ?_))));refine .cons _ _ _ _ (ZR idxG' (is:=[30,32,34,36,38]) (js:=[21,22,23,24,25]) rfl (by decide)) ?_
 exact .cons _ _ _ _ (f (ZY t 10 0)) (.cons _ _ _ _ (f (ZY t 10 1)) (.cons _ _ _ _ (f (ZY t 10 2)) (.cons _ _ _ _ (f (ZY t 10 3)) (.cons _ _ _ _ (f (ZY t 10 4)) (.cons _ _ _ _ (f rfl) .nil)))))
theorem ZnM:Vals idxG' (vsT t w) (vsF++[V.ref 26,V.str (textW t w) (tbOf t)]):=
 .cons _ _ _ _ (.ref _ _ rfl) (.cons _ _ _ _ (.ref _ _ rfl) (.cons _ _ _ _ (.ref _ _ rfl) (.cons _ _ _ _ (.ref _ _ rfl) (.cons _ _ _ _ (.ref _ _ rfl) (.cons _ _ _ _ (.ref _ _ rfl) (.cons _ _ _ _ (.ref _ _ rfl) (.cons _ _ _ _ (.str _ _ _ (Nat.le_refl _)) .nil)))))))
theorem Zo8(GK:GOK C (gE true))(T:TreeOK t)(D:detEq)(H:chEq)(g:goodW w):S0 C 640 lawN ZhB (stG t (evP w h l p)) Zt:=by
 refine YR (m:=560) (O:=_∧_) GK (by decide) (os':=zipO idxG' (objT t w p)) (m':=zipV xsG' (vsT t w)) (fun K=>(T.text w.a w.b w.c w.d h l (Zx p) (Zx p) K).trans (by simp only[and_assoc];rfl)) ⟨ZaQ rfl,ZaQ ?_⟩ (Zju.os idxG' rfl) (WMs.refl xsG' (vsT t w) rfl) ?_
 ·refine Zmc ?_;show joinL [47] ((Yk [32,32] 2 (Zao t w 10)).map fun x=>x.1)=(textW t w).cps.toList++("  ":Str).cps.toList;rw[Zax _ _ _ _ (by intro h;have:=congrArg List.length h;cases this)]
  rfl
 ·refine Zda (n0:=160) (rs:=idxG') (xs:=xsG') (by decide) rfl Zoj ZnM ?_
  exact Zo9 GK T D H g
theorem ZnL{top:Bool}:WS (stWay t top (evP w h l p) 10 []) (stG t (evP w h l p)):=by
 have h2:Yv idxG (stWay t top (evP w h l p) 10 [])=(objG t (evP w h l p) (pageE t (evP w h l p) 10) (gapV t w 10) (meetV t 10) (rowsW t w 10)).map some:=by kernel_rfl
 have h3:Y5 xsG (stWay t top (evP w h l p) 10 [])=vsG.map some:=by kernel_rfl
 exact ws_of rfl h2 h3 (WOs.refl _ _ rfl) (WMs.refl _ _ rfl)
theorem Zpa{top:Bool}(GK:GOK C (gE top))(GT:GOK C (gE true))(T:TreeOK t)(D:detEq)(H:chEq)(g:goodW w):S0 C 640 lawN ([Y7]++ZhB) (stWay t top (evP w h l p) 0 []) Zt:=by
 refine Zlm ?_;refine ZmG GK (T.ways top) (v:=evP w h l p) g T.len4 ?_;exact Zej ZnL (Zo8 GT T D H g)
end
noncomputable abbrev Zoi:List Stmt:=[Y7]++ZhB
noncomputable abbrev Zlq:List Stmt:=lawS 15 19++Zoi
noncomputable abbrev Zlr:List Stmt:=lawS 11 15++Zlq
noncomputable abbrev rest8:List Stmt:=lawS 8 11++Zlr
section
variable{C:Ctx}{t:Tree}{w:Wts}{p:Nat→Nat→Int}{h l:Int}{top:Bool}
noncomputable def lD(t:Tree)(top:Bool)(w:Wts)(p:Nat→Nat→Int)(i:Nat):List V:=match i with
 |0=>[.lit 0, .lit 0, .lit t.p2, .lit t.p3, .lit t.p4]
 |1=>wtsV w
 |2=>wtsV w
 |3=>[nameV t top 0,nameV t top 1,nameV t top 2,nameV t top 3,nameV t top 4]
 |5=>Zx p 0
 |6=>Zx p 1
 |7=>Zx p 2
 |8=>Zx p 3
 |9=>Zx p 4
 |11=>Zx p 0
 |12=>Zx p 1
 |13=>Zx p 2
 |14=>Zx p 3
 |15=>Zx p 4
 |_=>[]
noncomputable def rawD(ls:Nat→List V)(h l:Int):List AO:=objD ls++[.page ⟨h,4,[],[],((Txt.mul " " l).length:Int),3⟩, .list [.ref 19, .ref 21, .ref 23, .ref 25, .ref 27],rowV zeroV,rowV zeroV,rowV zeroV,rowV zeroV,rowV zeroV,
   .list [.ref 30, .ref 32, .ref 34, .ref 36, .ref 38],rowV fun μ=> .lit 0,rowV fun μ=> .int (0+1) 2,rowV fun μ=> .int (0+1+1) 3,rowV fun μ=> .int (0+1+1+1) 4,rowV fun μ=> .int (0+1+1+1+1) 5, .list []]
theorem d_wol(hl:0≤l):WOl (rawD (lD t top w p) h l) (objE t top (evP w h l p) (pageE t (evP w h l p) 0) (gapV t w 0) (meetV t 0) (rowsW t w 0)):=by
 have e:((Txt.mul " " l).length:Int)=l:=by
  have:=Zcd l;unfold JY at this;refine(this).symm▸?_;lia
 unfold rawD;refine(e).symm▸?_;exact WOl.refl (objE t top (evP w h l p) (pageE t (evP w h l p) 0) (gapV t w 0) (meetV t 0) (rowsW t w 0))
theorem c_D(GK:GOK C (gE top))(GT:GOK C (gE true))(T:TreeOK t)(D:detEq)(H:chEq)(P:dEq)(g:goodW w)(h0:0≤h)(l0:0≤l):S0 C 640 lawN Zlq (stD (lD t top w p) h l) Zt:=by
 refine YR (m:=560) GT (by decide) (P (lD t top w p) h l) h0 (os':=zipO idxE (objE t top (evP w h l p) (pageE t (evP w h l p) 0) (gapV t w 0) (meetV t 0) (rowsW t w 0))) (m':=zipV xsE (vsE (evP w h l p))++[]) ((d_wol l0).os idxE rfl) ?_ (Zpa GK GT T D H g)
 exact WMs.refl xsE (vsE (evP w h l p)) rfl
noncomputable def pP(c:Nat→Int)(k i:Nat):Int:=match i with
 |0=>lumaZ (pc c k 0) (pc c k 1) (pc c k 2)
 |1=>warmZ (pc c k 0) (pc c k 1) (pc c k 2)
 |_=>tintZ (pc c k 0) (pc c k 1) (pc c k 2)
theorem Y0(x:Int){m:Int}(hm:0<m):0≤x.fmod m∧x.fmod m<m:=by
 refine(Int.fmod_eq_emod_of_nonneg _ (Int.le_of_lt hm)).symm▸?_;exact⟨Int.emod_nonneg _ (by lia),Int.emod_lt_of_pos _ hm⟩
theorem p_ok(c:Nat→Int)(k:Nat){P:Prop}(hP:P):pO c k P:=by
 have h0:=Y0 (c (2+k)) (m:=9) (by decide)
 have h1:=Y0 ((c (2+k)).fdiv 9) (m:=9) (by decide)
 have h2:=Y0 ((c (2+k)).fdiv 81) (m:=9) (by decide)
 have h3:=Y0 ((c (2+k)).fdiv 729) (m:=3) (by decide)
 delta pO pc fc
 simp only;exact⟨⟨h0.1,h1.1,h2.1,by omega⟩,⟨by omega,by omega,by omega,by omega⟩,hP⟩
noncomputable def lC(t:Tree)(top:Bool)(w:Wts)(i:Nat):List V:=match i with
 |0=>[.lit 0, .lit 0, .lit t.p2, .lit t.p3, .lit t.p4]
 |1=>wtsV w
 |2=>wtsV w
 |4=>[nameV t top 0,nameV t top 1,nameV t top 2,nameV t top 3,nameV t top 4]
 |_=>[]
noncomputable def vC(h l:Int)(i:Nat):V:=match i with
 |0=> .int h 4
 |_=> .int l 3
noncomputable def rawC(t:Tree)(top:Bool)(w:Wts)(c:Nat→Int):List AO:=[.list (lC t top w 0), .list (lC t top w 1), .list (lC t top w 2), .list (lC t top w 4), .list [.ref 13, .ref 14, .ref 15, .ref 16, .ref 17], .list (ownP c 0), .list (ownP c 1), .list (ownP c 2), .list (ownP c 3), .list (ownP c 4),
   .list [.ref 19, .ref 20, .ref 21, .ref 22, .ref 23], .list (ownP c 0), .list (ownP c 1), .list (ownP c 2), .list (ownP c 3), .list (ownP c 4)]
noncomputable def vsC2(h l:Int):List V:=[.ref 0, .int h 4, .int l 3, .ref 1, .ref 2, .ref 4, .ref 12, .ref 18]
theorem Zb1(t:Tree)(top:Bool):flatL [nameV t top 0,nameV t top 1,nameV t top 2,nameV t top 3,nameV t top 4]=true:=rfl
theorem Zol{c:Nat→Int}:Rens idxC2 (rawC t top w c) (objD (lD t top w (pP c))):=by
 skip
 have f:∀{l:List V},flatL l=true→Vals idxC2 l l:=fun h=>YD _ h;refine .cons _ _ _ _ (f rfl) (.cons _ _ _ _ (f rfl) (.cons _ _ _ _ (f rfl) (.cons _ _ _ _ (f (Zb1 t top)) ?_)));refine .cons _ _ _ _ (ZR idxC2 (is:=[13,14,15,16,17]) (js:=[5,6,7,8,9]) rfl (by decide)) ?_
 refine .cons _ _ _ _ (f rfl) (.cons _ _ _ _ (f rfl) (.cons _ _ _ _ (f rfl) (.cons _ _ _ _ (f rfl) (.cons _ _ _ _ (f rfl) ?_))));refine .cons _ _ _ _ (ZR idxC2 (is:=[19,20,21,22,23]) (js:=[11,12,13,14,15]) rfl (by decide)) ?_
 exact .cons _ _ _ _ (f rfl) (.cons _ _ _ _ (f rfl) (.cons _ _ _ _ (f rfl) (.cons _ _ _ _ (f rfl) (.cons _ _ _ _ (f rfl) .nil))))
theorem vi(full:List Nat)(x:Int)(b:Nat):Val full (.int x b) (.int x b):= .int _ _ _ fun n=>⟨n,Nat.le_refl _⟩
theorem ZnO:Vals idxC2 (vsC2 h l) (vsD h l):=
 .cons _ _ _ _ (.ref _ _ rfl) (.cons _ _ _ _ (vi _ _ _) (.cons _ _ _ _ (vi _ _ _) (.cons _ _ _ _ (.ref _ _ rfl) (.cons _ _ _ _ (.ref _ _ rfl) (.cons _ _ _ _ (.ref _ _ rfl) (.cons _ _ _ _ (.ref _ _ rfl) (.cons _ _ _ _ (.ref _ _ rfl) .nil)))))))
theorem c_C(GK:GOK C (gE top))(GT:GOK C (gE true))(T:TreeOK t)(D:detEq)(H:chEq)(P:dEq)(Q:cEq)(g:goodW w)(h0:0≤h)(l0:0≤l)(c:Nat→Int):S0 C 640 lawN Zlr (stC (lC t top w) c (vC h l)) Zt:=by
 refine YR (m:=560) (O:=∀K:Prop,K→pO c 0 (pO c 1 (pO c 2 (pO c 3 (pO c 4 K))))) GT (by decide) (is:=idxC2) (xs:=xsC) (n1:=25) (os:=(rawC t top w c).map some) (vs:=(vsC2 h l).map some) (fun K=>?_) (fun K hK=>p_ok c 0 (p_ok c 1 (p_ok c 2 (p_ok c 3 (p_ok c 4 hK))))) (WOs.refl _ _ rfl) (WMs.refl _ _ rfl) ?_
 ·refine(Q (lC t top w) c (vC h l) K).trans (propext ⟨fun x=>⟨fun K hK=>p_ok c 0 (p_ok c 1 (p_ok c 2 (p_ok c 3 (p_ok c 4 hK)))),?_⟩,fun x=>x.1 _ x.2⟩);exact x.2.2.2.2.2.2.2.2.2.2
 ·refine Zda (n0:=25) (rs:=idxC2) (xs:=xsC) (by decide) rfl Zol ZnO ?_
  exact c_D GK GT T D H P g h0 l0
noncomputable def rawB(t:Tree)(top:Bool)(w:Wts)(c:Nat→Int):List AO:=objB t w c++[rowV (nameV t top)]
noncomputable def vsB2(h l:Int):List V:=[.ref 3, .ref 0, .int h 4, .int l 3, .ref 1, .ref 2, .ref 4]
theorem c_B(GK:GOK C (gE top))(GT:GOK C (gE true))(T:TreeOK t)(D:detEq)(H:chEq)(P:dEq)(Q:cEq)(g:goodW w)(h0:0≤h)(l0:0≤l)(c:Nat→Int):S0 C 640 lawN rest8 (stB t top w h l c) Zt:=by
 refine Zdb (m:=560) GK (by decide) (T.names top w.a w.b w.c w.d h l c) (os':=zipO [0,1,2,3,4] (rawB t top w c)) (m':=zipV xsB (vsB2 h l)) (WOs.refl [0,1,2,3,4] (rawB t top w c) rfl) (WMs.refl xsB (vsB2 h l) rfl) ?_
 have f:∀{l:List V},flatL l=true→Vals [0,1,2,3,4] l l:=fun h=>YD _ h;refine Zda (n0:=11) (rs:=[0,1,2,3,4]) (xs:=xsB) (os':=rawB t top w c) (vs':=vsB2 h l) (by decide) rfl ?_ ?_ (c_C GK GT T D H P Q g h0 l0 c)
 ·exact .cons _ _ _ _ (f rfl) (.cons _ _ _ _ (f rfl) (.cons _ _ _ _ (f rfl) (.cons _ _ _ _ (f rfl) (.cons _ _ _ _ (f (Zb1 t top)) .nil))))
 ·exact .cons _ _ _ _ (.ref _ _ rfl) (.cons _ _ _ _ (.ref _ _ rfl) (.cons _ _ _ _ (vi _ _ _) (.cons _ _ _ _ (vi _ _ _) (.cons _ _ _ _ (.ref _ _ rfl) (.cons _ _ _ _ (.ref _ _ rfl) (.cons _ _ _ _ (.ref _ _ rfl) .nil))))))
end
theorem wf_bd(c:Int)(k:Nat):1≤wf c k∧wf c k≤5:=by
 have:=Y0 (c.fdiv (4*5 ^ k)) (m:=5) (by decide)
 unfold wf;omega
theorem ZgM(kind:Nat)(c:Int):goodW (wfW kind c):=by
 have h:=wf_bd c;have o:(1:Int)≤1∧(1:Int)≤5:=by decide
 delta wfW goodW
 split
 ·exact⟨h 0,h 1,h 2,h 3⟩
 ·exact⟨h 0,h 1,h 1,h 1⟩
 ·exact⟨h 0,h 1,h 2,o⟩
 ·exact⟨h 0,h 1,o,o⟩
theorem nz_ok(kind:Nat)(c:Int){P:Prop}(hP:P):nzO kind c P:=by
 have h:∀k,wf c k≠0:=fun k=>by have:=wf_bd c k;lia
 unfold nzO;split
 ·exact⟨h 0,h 1,h 2,h 3,hP⟩
 ·exact⟨h 0,h 1,h 2,hP⟩
 ·exact⟨h 0,h 1,hP⟩
theorem Zop{kind:Nat}{c:Int}{P:Prop}(h:nzO kind c P):P:=by
 unfold nzO at h;split at h
 ·exact h.2.2.2.2
 ·exact h.2.2.2
 ·exact h.2.2
theorem Zdq{x:Int}{m:Nat}(hm:0<m):∃k:Nat,k<m∧x.fmod m=k:=by
 have:=Y0 x (m:=(m:Int)) (by omega)
 exact⟨(x.fmod m).toNat,by omega,by omega⟩
section
variable{C:Ctx}
theorem a_wol{kind:Nat}{c:Int}{cs:List V}{a2 a3 a4:Nat}:
  WOl [AO.list [.int 0 1, .int 0 1, .int (a2:Int) 2, .int (a3:Int) 3, .int (a4:Int) 4], .list (wtsB kind c), .list (wtsB kind c), .list cs] [.list [.lit 0, .lit 0, .lit a2, .lit a3, .lit a4], .list (wtsV (wfW kind c)), .list (wtsV (wfW kind c)), .list cs]:=by
 have g:=ZgM kind c;have hw:WO (.list (wtsB kind c)) (.list (wtsV (wfW kind c))):=
  .list _ _ (.cons _ _ _ _ (.refl _) (.cons _ _ _ _ (.refl _) (.cons _ _ _ _ (.int _ _ _ _ rfl fun μ=>by have:=g.2.2.1;omega) (.cons _ _ _ _ (.int _ _ _ _ rfl fun μ=>by have:=g.2.2.2;omega) .nil))))
 have lt:∀a:Nat,∀b:Nat,WV (.int (a:Int) b) (.lit a):=fun a b=> .int _ _ _ _ rfl fun μ=>Nat.lt_succ_self _;exact .cons _ _ _ _ (.list _ _ (.cons _ _ _ _ (.refl _) (.cons _ _ _ _ (.refl _) (.cons _ _ _ _ (lt _ _) (.cons _ _ _ _ (lt _ _) (.cons _ _ _ _ (lt _ _) .nil)))))) (.cons _ _ _ _ hw (.cons _ _ _ _ hw (.cons _ _ _ _ (.refl _) .nil)))
noncomputable def vsA(kind:Nat)(top:Bool)(h l:Int):List V:=[.ref 0, .ref 1,topV top, .int h 4, .int l 3, .ref (9+kind), .ref 14]
theorem c_A{c:Nat→Int}(GA:∀q,GOK C (gA q))(GE:∀top,GOK C (gE top))(TR:∀p2 p3 p4,p2<2→p3<3→p4<4→TreeOK ⟨p2,p3,p4⟩)(A:∀kind,kind<4→∀top,aEq kind top)(D:detEq)(H:chEq)(P:dEq)(Q:cEq):
    S0 C 640 lawN (lawS 1 8++rest8) (mkSt 1 [(0, .list (Z7 c))] [("cells", .ref 0)]) Zt:=by
  obtain⟨p2,b2,e2⟩:=Zdq (x:=c 0) (m:=2) (by decide)
  obtain⟨p3,b3,e3⟩:=Zdq (x:=(c 0).fdiv 2) (m:=3) (by decide)
  obtain⟨p4,b4,e4⟩:=Zdq (x:=(c 0).fdiv 6) (m:=4) (by decide)
  obtain⟨tn,bt,et⟩:=Zdq (x:=(c 0).fdiv 24) (m:=2) (by decide)
  obtain⟨kind,bk,ek⟩:=Zdq (x:=c 1) (m:=4) (by decide)
  obtain⟨top,etop⟩:∃top,tn=topN top:=by
    have:tn=0∨tn=1:=by lia
    rcases this with h|h
    · exact⟨false,h⟩
    · exact⟨true,h⟩
  subst etop;have hh:=Y0 ((c 0).fdiv 48) (m:=4) (by decide)
  have hl:=Y0 ((c 0).fdiv 192) (m:=3) (by decide)
  have nb:∀{x y:Int} {m:Nat},x.fmod m=y→0<m→(m≠0→(x.fmod m).natAbs<m):=fun {x y m} _ hm _=>by
    have:=Y0 x (m:=(m:Int)) (by lia)
    lia
  have T:=TR p2 p3 p4 b2 b3 b4;refine YR (m:=400) (O:=∀K:Prop,K→(((c 0).fmod 2=(p2:Int)∧(2≠0→((c 0).fmod 2).natAbs<2))∧(((c 0).fdiv 2).fmod 3=(p3:Int)∧(3≠0→(((c 0).fdiv 2).fmod 3).natAbs<3))∧(((c 0).fdiv 6).fmod 4=(p4:Int)∧(4≠0→(((c 0).fdiv 6).fmod 4).natAbs<4))∧
     (((c 0).fdiv 24).fmod 2=(topN top:Int)∧(2≠0→(((c 0).fdiv 24).fmod 2).natAbs<2))∧(((c 0).fdiv 48).fmod 4=((c 0).fdiv 48).fmod 4∧(4≠0→(((c 0).fdiv 48).fmod 4).natAbs<4))∧(((c 0).fdiv 192).fmod 3=((c 0).fdiv 192).fmod 3∧(3≠0→(((c 0).fdiv 192).fmod 3).natAbs<3))∧
     ((c 1).fmod 4=(kind:Int)∧(4≠0→((c 1).fmod 4).natAbs<4))∧nzO kind (c 1) K)) (GA _) (by decide) (is:=[1,9+kind,14,0]) (xs:=xsA)
     (run:=fun K=>(A kind bk top c p2 p3 p4 (((c 0).fdiv 48).fmod 4) (((c 0).fdiv 192).fmod 3) K).trans (propext ⟨fun x=>⟨fun K' hK=>⟨x.1,x.2.1,x.2.2.1,x.2.2.2.1,x.2.2.2.2.1,x.2.2.2.2.2.1,x.2.2.2.2.2.2.1,nz_ok _ _ hK⟩,Zop x.2.2.2.2.2.2.2⟩,fun x=>x.1 _ x.2⟩))
     (hO:=fun K hK=>⟨⟨e2,nb e2 (by decide)⟩,⟨e3,nb e3 (by decide)⟩,⟨e4,nb e4 (by decide)⟩,⟨et,nb et (by decide)⟩,⟨rfl,fun μ=>by lia⟩,⟨rfl,fun μ=>by lia⟩,⟨ek,nb ek (by decide)⟩,nz_ok _ _ hK⟩)
     (w2:=a_wol.os [1,9+kind,14,0] rfl) (w3:=WMs.refl xsA (vsA kind top (((c 0).fdiv 48).fmod 4) (((c 0).fdiv 192).fmod 3)) rfl) (h:=?_)
  have f:∀{rs:List Nat} {l:List V},flatL l=true→Vals rs l l:=fun h=>YD _ h;refine Zda (n0:=15) (rs:=[1,9+kind,14,0]) (xs:=xsA) (os':=objB ⟨p2,p3,p4⟩ (wfW kind (c 1)) c) (vs':=vsB top (((c 0).fdiv 48).fmod 4) (((c 0).fdiv 192).fmod 3)) ?_ rfl ?_ ?_ (c_B (GE top) (GE true) T D H P Q (ZgM kind (c 1)) hh.1 hl.1 c)
  · have:kind=0∨kind=1∨kind=2∨kind=3:=by lia
    rcases this with rfl|rfl|rfl|rfl<;>decide
  · exact .cons _ _ _ _ (f rfl) (.cons _ _ _ _ (f rfl) (.cons _ _ _ _ (f rfl) (.cons _ _ _ _ (f rfl) .nil)))
  · refine .cons _ _ _ _ (.ref _ _ rfl) (.cons _ _ _ _ (.ref _ _ rfl) (.cons _ _ _ _ ?_ (.cons _ _ _ _ (vi _ _ _) (.cons _ _ _ _ (vi _ _ _) (.cons _ _ _ _ (.ref _ _ rfl) (.cons _ _ _ _ (.ref _ _ rfl) .nil))))));cases top<;>exact .str _ _ _ (Nat.le_refl _)
end
section
variable{C:Ctx}{A:Around}{ρ:Rho}{st:St}{s:Shared}{n:Nat}{Q E:VP}
end
end Mine
end
noncomputable section
open PySem PyProof.Rows PySem.W
open Sem (wp)
namespace Mine
set_option backward.match.sparseCases true
section
variable{prog:Program}{w:World}{A:Around}{R:GenEnd}{Y:Protocol}{n:Nat}{s₀:Shared}{fs:List Frame}{s:Shared}{env:Env}{c:Code}
 {K:Flow→Sem Fin}{H:Value→Sem Fin}{gd:Bool→Bool}{lv:List Value→List Value}
noncomputable def noE:Value→Shared→Prop:=fun μ μ=>False
theorem Zcp{α:Type}{m:Sem α}{K:α→Sem Fin}{H:Value→Sem Fin}{gd lv}
  (h:wpAny (model prog w) (A.over c fs) m (fun a s'=>Seg (model prog w) A R Y n s₀ c (K a) fs s') noE s):
  Seg (model prog w) A R Y n s₀ c (m.wrap K H gd lv) fs s:=
 seg_wrap (wpAny_mono h (fun μ μ h=>h) fun μ μ h=>h.elim)
theorem ZbM{t:Expr}{b o:List Stmt}{pos:Pos}
  (h:wpAny (model prog w) (A.over c fs) (isTrue t env (eval t env)) (fun v s'=>Seg (model prog w) A R Y n s₀ c ((execs (if v=true then b else o) env).wrap K H gd lv) fs s') noE s):
  Seg (model prog w) A R Y n s₀ c ((exec (.If t b o pos) env).wrap K H gd lv) fs s:=by
 rw[arm_exec_If];show Seg _ A R Y n s₀ c (.at pos fun μ=>((isTrue t env (eval t env)) >>= fun v=>if v=true then execs b env else execs o env).wrap K H gd lv) fs s
 refine seg_at ?_;rw[Sem.bind_eq_wrap',Sem.wrap_wrap];refine seg_wrap (wpAny_mono h (fun v s' h=>?_) fun μ μ h=>h.elim);cases v<;>exact h
theorem ZaV{x:Str}{px:Pos}{a:Addr}{body orelse:List Stmt}
  (h:wpAny (model prog w) (A.over (.forLoop (.Name x px) (.ref a) body orelse env) fs) (pyNext (.ref a)) (fun r s'=>match r with
   |none=>Seg (model prog w) A R Y n s₀ (.block orelse env) ((model prog w).den (.block orelse env)) fs s'
   |some v=>wpAny (model prog w) (A.over (.forLoop (.Name x px) (.ref a) body orelse env) fs) (assign (.Name x px) env v) (fun μ s''=>Seg (model prog w) A R Y n s₀ (.forLoop (.Name x px) (.ref a) body orelse env) ((execs body env).wrap (fun f=>match f with
      | .next| .cont=> .pure (.again (.forLoop (.Name x px) (.ref a) body orelse env))
      | .brk=> .pure (.done .next)
      | .ret v=> .pure (.done (.ret v))) (fun e=>(do noteFrame e env;theTreesLotGoes e:Sem Unit).wrap (fun μ=> .raise e) .raise id id) id id) fs s'') noE s') noE s):
  Seg (model prog w) A R Y n s₀ (.forLoop (.Name x px) (.ref a) body orelse env) ((model prog w).den (.forLoop (.Name x px) (.ref a) body orelse env)) fs s:=by
 show Seg _ A R Y n s₀ _ ((forTurn (.Name x px) (.ref a) body orelse env).onRaise (fun x=>do noteFrame x env;theTreesLotGoes x)) fs s
 skip
 rw[Sem.onRaise_eq_wrap];show Seg _ A R Y n s₀ _ (.at _ fun μ=>(((pyNext (.ref a)).onRaise _) >>= _).wrap _ _ _ _) fs s;refine seg_at ?_;rw[Sem.bind_eq_wrap',Sem.wrap_wrap];refine seg_wrap (wpAny_onRaise (wpAny_mono h (fun r s' hr=>?_) fun μ μ h=>h.elim));cases r with
 |none=>exact seg_again rfl hr
 |some v=>
  show Seg _ A R Y n s₀ _ (((assign (.Name x px) env v) >>= fun μ=>execs body env >>= _).wrap _ _ _ _) fs s';rw[Sem.bind_eq_wrap',Sem.wrap_wrap];refine seg_wrap (wpAny_mono hr (fun μ s'' h2=>?_) fun μ μ h=>h.elim);rw[Sem.bind_eq_wrap',Sem.wrap_wrap];rw[Sem.wrap_congr (execs body env) _ _ (K':=fun f=>match f with
      | .next| .cont=> .pure (.again (.forLoop (.Name x px) (.ref a) body orelse env))
      | .brk=> .pure (.done .next)
      | .ret v=> .pure (.done (.ret v))) (H':=(fun e=>(do noteFrame e env;theTreesLotGoes e:Sem Unit).wrap (fun μ=> .raise e) .raise id id))
    (fun f=>by cases f<;>rfl)
    (fun e=>by first|exact Sem.bind_eq_wrap _ _|(show(do noteFrame e env;theTreesLotGoes e:Sem Unit).bind (fun μ=> .raise e)=_;rw[Sem.bind_eq_wrap]))]
  exact h2
theorem Zmi{x:Str}{px pos:Pos}{iter:Expr}{body orelse:List Stmt}(hs:∀v,foldedSetIterable iter env v=pure v)
  (h:wpAny (model prog w) (A.over c fs) (eval iter env) (fun v s'=>wpAny (model prog w) (A.over c fs) (pyIter v) (fun it s''=>∀p,∃a,it= .ref a∧Seg (model prog w) A R Y n s₀ (.forLoop (.Name x px) (.ref a) body orelse env) ((model prog w).den (.forLoop (.Name x px) (.ref a) body orelse env))
   (.ret (fun r=>((match r with| .ok f=>(.pure f:Sem Flow)| .error e=> .raise e).onRaise fun(x:Value)=>do
    if(←field x 1)==Value.none then unsupported "frame.own-activation:exception-without-traceback"
    setFlight x env.frame).wrap K H gd lv) none (gd false) (lv []) c p []::fs) s'') noE s') noE s):
  Seg (model prog w) A R Y n s₀ c ((exec (.For (.Name x px) iter body orelse pos) env).wrap K H gd lv) fs s:=by
 rw[arm_exec_For];show Seg _ A R Y n s₀ c (.at pos fun μ=>((eval iter env) >>= fun v=>foldedSetIterable iter env v >>= fun v=>(standAt iter.pos >>= fun μ=>holding [v] (pyIter v) >>= fun it=>runOwn (.forLoop (.Name x px) it body orelse env) env)).wrap K H gd lv) fs s;refine seg_at ?_;rw[Sem.bind_eq_wrap',Sem.wrap_wrap];refine seg_wrap (wpAny_mono h (fun v s' hv=>?_) fun μ μ h=>h.elim);refine(hs v).symm▸?_;show Seg _ A R Y n s₀ c (.at _ fun μ=>(holding [v] (pyIter v) >>= fun it=>runOwn (.forLoop (.Name x px) it body orelse env) env).wrap K H _ _) fs s';refine seg_at ?_;rw[Sem.bind_eq_wrap',Sem.wrap_wrap];refine seg_wrap (wpAny_holding (wpAny_mono hv (fun it s'' hit=>?_) fun μ μ h=>h.elim));obtain⟨a,rfl,_⟩:=hit ⟨0,0,0,0⟩;refine seg_call fun p=>?_;obtain⟨a',e,hp⟩:=hit p;cases e;exact hp
end
end Mine
end
noncomputable section
open PySem PyProof.Rows
namespace Mine
set_option backward.match.sparseCases false
section
variable{C:Ctx}{A:Around}{env:Env}{sc:Sc}{ρ ρ':Rho}{st:St}{s s':Shared}{m:List (Str×V)}{rec:Rec}{n:Nat}{e it l:Addr}{R:Result→Shared→Prop}
noncomputable def twoOf(e it:Addr):Addr→Prop:=fun b=>b=e∨b=it
noncomputable def X2(env:Env)(sc:Sc)(e it:Addr):Addr→Prop:=fun b=>own env sc b∨twoOf e it b
theorem FI.two(F:FI C env sc ρ m s)(P:Plain (twoOf e it) s s')(A1:Apart C env ρ e)(A2:Apart C env ρ it)(ht:Ze s.heap s'.heap):FI C env sc ρ m s':=by
 have kL:∀o,s.heap.get? env.locals=some o→s'.heap.get? env.locals=some o:=fun o h=>P.keep _ _ h fun q=>q.elim (fun q=>A1.loc q.symm) fun q=>A2.loc q.symm;have kc:∀y c,env.cells.lookup y=some c→∀o,s.heap.get? c=some o→s'.heap.get? c=some o:=fun y c hc o h=>P.keep _ _ h fun q=>q.elim (fun q=>A1.cel y c hc q) fun q=>A2.cel y c hc q;refine⟨F.ok,F.lo,?_,F.out,?_,F.apart,F.has,?_⟩
 ·obtain⟨mm,h⟩:=F.ns;exact⟨mm,ns_at h kL⟩
 ·intro y c hc;obtain⟨h1,h2,h3,v,h4⟩:=F.cell y c hc;exact⟨h1,h2,h3,v,Yr h4 (kc y c hc)⟩
 ·intro y v hv;obtain⟨val,hva,r⟩:=F.vars y v hv;refine⟨val,?_,r.mono (.refl _) ht⟩;rcases hva with⟨hk,mm,hn,he⟩|⟨hk,c,hc,hi⟩
  ·exact .inl ⟨hk,mm,ns_at hn kL,he⟩
  ·exact .inr ⟨hk,c,hc,Yr hi (kc y c hc)⟩
theorem ZgZ{h:Heap}{i:Int}{j:Nat}{old:Value}(P:Plain (twoOf e it) s s')(he:IsEnum s.heap e it i old)(hit:s.heap.IsListIter it l j):Ze s.heap s'.heap:=fun b xs hb=>P.keep b _ hb fun q=>by
 rcases q with rfl|rfl
 ·have he':s.heap.get? b=_:=he;rw[he']at hb;have:=congrArg Obj.cls (Option.some.inj hb);simp[YE]at this
 ·obtain⟨o,ho,hc,_⟩:=hit;rw[ho]at hb;cases hb;simp at hc
theorem ZiF(S:Snd C rec n){elts:List Expr}{x1}{pos:Pos}{body:List Stmt}{vs:List V}{J:Nat→St→Prop}(hs:okSc sc=true)(hA:Room n A)(hlist:∀(st:St) (ρ:Rho) (s:Shared),HI C ρ st s→∃n us,s.heap.get? l=some (Zb us n)∧VRs ρ s.heap vs us)
  (step:∀j v st,J j st→vs[j]? =some v→asgA rec sc (.Tuple elts x1 pos) (.tup [.int j (j+1),v]) st fun st=>rec.ss sc body st fun f st'=>f= .nxt∧J (j+1) st')(hne:e≠it):
  ∀(k j:Nat) (st:St) (ρ:Rho) (s:Shared) (old:Value),j+k=vs.length→J j st→HI C ρ st s→FI C env sc ρ st.m s→Apart C env ρ e→Apart C env ρ it→IsEnum s.heap e it j old→s.heap.IsListIter it l j→
   (∀st' ρ' s',J vs.length st'→HI C ρ' st' s'→FI C env sc ρ' st'.m s'→Ext C (X2 env sc e it) ρ s ρ' s'→R (.ok .next) s')→codeAny (model C.prog C.w) A (.forLoop (.Tuple elts x1 pos) (.ref e) body [] env) R s:=by
 intro k
 induction k with
 |zero=>
  intro j st ρ s old hk hj H F A1 A2 he hit K;have hk:j=vs.length:=hk;subst hk;obtain⟨n',us,hll,r1⟩:=hlist _ _ _ H;refine Yy (wpAny_pyNext_enum_end hA.2.2 he hit (Zl hll) (by simp only[List.getElem?_toArray];exact List.getElem?_eq_none_iff.mpr (Nat.le_of_eq (by have:=r1.len;lia))) fun h' hx=>?_)
  have P:Plain (twoOf e it) s {s with heap:=h'}:=(Plain.ext hx s.toks).weaken fun b q=> .inr q;have ht:=ZgZ (h:=h') P he hit;refine PySem.wpAny_execs_nil (K st ρ _ hj (H.plain P (fun b q=>q.elim (fun q=>q▸⟨A1.lo,A1.out⟩) fun q=>q▸⟨A2.lo,A2.out⟩) ht) (F.two P A1 A2 ht) (Ext.plain P (fun b q=> .inr (.inr q)) ht))
 |succ k ih=>
  intro j st ρ s old hk hj H F A1 A2 he hit K;obtain⟨n',us,hll,r1⟩:=hlist _ _ _ H;have hlt:j<vs.length:=by lia
  obtain⟨y,hy,ry⟩:=r1.get (List.getElem?_eq_getElem hlt);refine Yy (wpAny_pyNext_enum_item he hit (Zl hll) (x:=y) (by simpa using hy) hne fun h1 he1 hit1 ht1 hz1 hk1=>?_)
  refine wpAny_letOwnedTupleGo_enum (s:={s with heap:=h1,toks:=s.toks+1}) he1 fun h2 he2 hs2=>?_;have P:Plain (twoOf e it) s {s with heap:=h2,toks:=s.toks+1}:=⟨fun b o hb q=>hs2.extBut b o (fun q'=>q (.inl q')) (hk1 b o (fun q'=>q (.inl q')) (fun q'=>q (.inr q')) hb),rfl,rfl⟩;have ht:=ZgZ (h:=h2) P he hit;have H1:=H.plain P (fun b q=>q.elim (fun q=>q▸⟨A1.lo,A1.out⟩) fun q=>q▸⟨A2.lo,A2.out⟩) ht;have F1:=F.two P A1 A2 ht;have e1:Ext C (X2 env sc e it) ρ s ρ {s with heap:=h2,toks:=s.toks+1}:=Ext.plain P (fun b q=> .inr (.inr q)) ht;have wk:∀{ρ ρ':Rho} {s s':Shared},Ext C (own env sc) ρ s ρ' s'→Ext C (X2 env sc e it) ρ s ρ' s':=fun x=>x.weaken fun μ h=> .inl h;have hsz:s.heap.objs.size≠e:=Nat.ne_of_gt (Heap.lt_size (show s.heap.get? e=some _ from he));have htup:h2.get? s.heap.objs.size=some (YE [.int j s.toks,y]):=hs2.extBut _ _ hsz ht1;have rv:VR ρ h2 (.tup [.int j (j+1),vs[j]]) (.ref s.heap.objs.size):= .tup _ _ [.int j s.toks,y] htup (.cons _ _ _ _ (.int _ _ _ fun μ=>by exact Nat.le_refl _) (.cons _ _ _ _ (ry.mono (.refl _) ht) .nil))
  refine Zag S (step j _ st hj (List.getElem?_eq_getElem hlt)) H1 F1 hs hA rv fun st2 ρ2 s2 g2 H2 F2 e2=>?_;refine S.ss g2 H2 F2 hs hA fun f fl st3 ρ3 s3 g3 H3 F3 e3 r3=>?_;obtain⟨rfl,j3⟩:=g3;have e23:=e2.trans e3;have l1:Live h2 e:=⟨_,he2⟩;have hit2:h2.IsListIter it l (j+1):=hit1.extBut hs2.extBut (Ne.symm hne);have l2:Live h2 it:=let ⟨o,ho,_⟩:=hit2;⟨o,ho⟩
  have A1':=A1.ext (s:={s with heap:=h2,toks:=s.toks+1}) l1 e23;have A2':=A2.ext (s:={s with heap:=h2,toks:=s.toks+1}) l2 e23;cases r3 with|nxt=>
  refine ih (j+1) st3 ρ3 s3 y (by lia) j3 H3 F3 A1' A2' (A1.keep e23 he2) ?_ fun st4 ρ4 s4 j4 H4 F4 e4=>K st4 ρ4 s4 j4 H4 F4 ((e1.trans (wk e23)).trans e4)
  obtain⟨o,ho,q⟩:=hit2;exact⟨o,A2.keep e23 ho,q⟩
end
end Mine
end
noncomputable section
open PySem PyProof.Rows PySem.W
open Sem (wp)
namespace Mine
set_option backward.match.sparseCases true
noncomputable def zBody(r:List Stmt)(p:Nat→Pos):List Stmt:=
 [.If (.Compare (.Name "last_interval" (p 21)) [.Is] [.Constant .none 0 (p 22)] (p 23)) r [] (p 24),
  .While (.Constant (.bool true) 0 (p 25)) [.Expr (.Yield (some (.Name "last_interval" (p 26))) (p 27)) (p 28)] [] (p 29)]
noncomputable def lBody(r:List Stmt)(p:Nat→Pos):List Stmt:=
 [.If (.Compare (.Name "interval" (p 6)) [.Eq] [.Name "CHAR_MAX" (p 7)] (p 8)) [.Return none (p 9)] [] (p 10),
  .If (.Compare (.Name "interval" (p 11)) [.Eq] [.Constant (.int 0) 0 (p 12)] (p 13)) (zBody r p) [] (p 14),
  .Expr (.Yield (some (.Name "interval" (p 15))) (p 16)) (p 17),
  .Assign [.Name "last_interval" (p 18)] (.Name "interval" (p 19)) (p 20)]
noncomputable def gBody(r:List Stmt)(p:Nat→Pos):List Stmt:=
 [.Assign [.Name "last_interval" (p 0)] (.Constant .none 0 (p 1)) (p 2),
  .For (.Name "interval" (p 3)) (.Name "grouping" (p 4)) (lBody r p) [] (p 5)]
inductive TellV:Nat→Option V→List V→List V→Prop
 |stop (l:Option V) (xs:List V):TellV 0 l xs []
 |fin (n:Nat) (l:Option V):TellV (n+1) l [] []
 |cm (n:Nat) (l:Option V) (b:Nat) (r:List V):TellV (n+1) l (.int 127 b::r) []
 |zero (n:Nat) (v:V) (b:Nat) (r:List V):TellV (n+1) (some v) (.int 0 b::r) (List.replicate (n+1) v)
 |step (n:Nat) (l:Option V) (x:Int) (b:Nat) (r ys:List V):x≠0→x≠127→TellV n (some (.int x b)) r ys→TellV (n+1) l (.int x b::r) (.int x b::ys)
noncomputable def IntM(v:V)(u:Value):Prop:=∃x b t,v= .int x b∧u= .int x t∧(b≠0→x.natAbs<b)
noncomputable def LastR(l:Option V)(u:Value):Prop:=∀v,l=some v→IntM v u
noncomputable def ListZ(a:Addr)(xs:List V)(h:Heap):Prop:=∃n us ρ h',h.get? a=some (Zb us n)∧VRs ρ h' xs us
theorem ListZ.get{a:Addr}{xs:List V}{h:Heap}(Z:ListZ a xs h):∃us:List Value,h.IsList a us.toArray∧us.length=xs.length∧∀(i:Nat) (x:Int) (b:Nat),xs[i]? =some (.int x b)→∃u,us[i]? =some u∧IntM (.int x b) u:=by
 obtain⟨n,us,ρ,h',e,r⟩:=Z;refine⟨us,⟨_,e,rfl,n,rfl⟩,r.len.symm,fun i x b hi=>?_⟩;obtain⟨u,hu,ru⟩:=r.get hi;cases ru with|int _ _ t hb=>
 exact⟨_,hu,x,b,t,rfl,rfl,hb⟩
structure MvZ(L it:Addr)(s s':Shared):Prop where
 pl:Plain (twoOf L it) s s'
 tup:Ze s.heap s'.heap
theorem MvZ.refl(L it:Addr)(s:Shared):MvZ L it s s:=⟨.refl _ _, .refl _⟩
theorem MvZ.trans{L it:Addr}{a b c:Shared}(x:MvZ L it a b)(y:MvZ L it b c):MvZ L it a c:=⟨x.pl.trans y.pl,x.tup.trans y.tup⟩
theorem MvZ.toks(L it:Addr)(s:Shared)(t:Nat):MvZ L it s {s with toks:=t}:=⟨.toks _ _ _, .refl _⟩
structure GZ(C:Ctx)(L it a:Addr)(xs:List V)(j:Nat)(l:Option V)(h:Heap):Prop where
 old:OldK C.base h
 inv:C.inv h
 ns:∃mm w,h.Ns L mm∧mm "last_interval"=some w∧LastR l w
 li:h.IsListIter it a j
 ls:ListZ a xs h
structure KM(C:Ctx)(L it a:Addr)(xs:List V)(h h':Heap):Prop where
 old:OldK C.base h'
 inv:C.inv h'
 kL:∀o,h.get? L=some o→h'.get? L=some o
 kI:∀o,h.get? it=some o→h'.get? it=some o
 ls:ListZ a xs h'
theorem GZ.km{C:Ctx}{L it a:Addr}{xs:List V}{j:Nat}{l:Option V}{h h':Heap}(G:GZ C L it a xs j l h)(k:KM C L it a xs h h'):GZ C L it a xs j l h' where
 old:=k.old
 inv:=k.inv
 ns:=let ⟨mm,w,h1,h2⟩:=G.ns;⟨mm,w,ns_at h1 k.kL,h2⟩
 li:=let ⟨o,h1,h2⟩:=G.li;⟨o,k.kI o h1,h2⟩
 ls:=k.ls
noncomputable def YZ(C:Ctx)(L it a:Addr)(xs ys:List V):Protocol:=fun k s₀ v s kap=>
 (∃v',ys[3-k]? =some v'∧IntM v' v)∧MvZ L it s₀ s∧(Live s.heap it∧Live s.heap L)∧(k≠0→∀s'',KM C L it a xs s.heap s''.heap→kap (.send .none) s'')
noncomputable def RZ(L it:Addr)(ys:List V):GenEnd:=fun n s₀ r s=>r= .ok (.ret .none)∧(ys.length+n=4∧MvZ L it s₀ s)
structure GenZ(C:Ctx)(env:Env)(L:Addr):Prop where
 loc:env.locals=L
 kind:env.scope.kind= .function
 intv:env.kindOf "interval"=some .local
 last:env.kindOf "last_interval"=some .local
 grp:env.kindOf "grouping"=some .local
 cmax:env.kindOf "CHAR_MAX"=some .globalImplicit
 gl:env.globals=mainGlobals
 co:env.scope.isCoroutine=false
 int:interactive env=false
 ch:∃t,C.mg "CHAR_MAX"=some (.int 127 t)
 lo:C.base.objs.size≤L
section
variable{C:Ctx}{L it a:Addr}{env:Env}{xs ys:List V}{E:VP}{A:Around}{s s₀:Shared}
theorem GZ.lL{j:Nat}{l:Option V}{h:Heap}(G:GZ C L it a xs j l h):Live h L:=let ⟨_,_,h1,_⟩:=G.ns;let ⟨o,_,_,ho,_⟩:=h1;⟨o,ho⟩
theorem GZ.ne{j:Nat}{l:Option V}{h:Heap}(G:GZ C L it a xs j l h):L≠it∧a≠L∧a≠it:=by
 obtain⟨_,_,⟨oL,es,n,ho,hd,_⟩,_⟩:=G.ns;obtain⟨oi,hi,hc,hdi⟩:=G.li;obtain⟨na,us,ρ,h',ha,_⟩:=G.ls;refine⟨fun e=>?_,fun e=>?_,fun e=>?_⟩
 ·subst e;rw[ho]at hi;cases hi;rw[hd]at hdi;cases hdi
 ·subst e;rw[ho]at ha;cases ha;cases hd
 ·subst e;rw[ha]at hi;cases hi;simp at hc
theorem Zlj{x:Str}{val:Value}{j:Nat}{l:Option V}{mm:Str→Option Value}{Q:Unit→Shared→Prop}(V:GenZ C env L)(hx:env.kindOf x=some .local)(G:GZ C L it a xs j l s.heap)(hn:s.heap.Ns L mm)
  (hQ:∀(s':Shared),s'.heap.Ns L (fun y=>if y=x then some val else mm y)→(∀l' w,(if("last_interval":Str)=x then some val else mm "last_interval")=some w→LastR l' w→GZ C L it a xs j l' s'.heap)→MvZ L it s s'→Q () s'):
  wpAny (model C.prog C.w) A (storeName env x val) Q E s:=by
 have hn':s.heap.Ns env.locals mm:=V.loc▸hn;obtain⟨oL,esL,nL,hoL,hdL,hrest⟩:=id hn;obtain⟨ne1,ne2,ne3⟩:=G.ne;refine PySem.wpAny_storeName_local hx hn' (fun h' hns' hs=>?_) (by refine(V.kind).symm▸?_;rfl)
 rw[V.loc]at hns' hs;have P:Plain (· =L) s {s with heap:=h',toks:=s.toks+1}:=Plain.but hs _;have ht:Ze s.heap h':=fun b zs e=>P.keep b _ e fun q=>by
  cases q;rw[hoL]at e;cases e;cases hdL
 have O':OldK C.base h':=Zu G.old P fun b q=>q▸V.lo;have I':C.inv h':=C.inv_step _ _ G.inv fun b o e hb=>P.keep b o e fun q=>absurd hb (Nat.not_lt.mpr (q▸V.lo));refine hQ _ hns' (fun l' w' hw' hl'=>⟨O',I',⟨_,w',hns',hw',hl'⟩,?_,?_⟩) ⟨P.weaken fun μ q=> .inl q,ht⟩
 ·obtain⟨o,h1,h2⟩:=G.li;exact⟨o,P.keep _ _ h1 (Ne.symm ne1),h2⟩
 ·obtain⟨n,us,ρ,hh,h1,h2⟩:=G.ls;exact⟨n,us,ρ,hh,P.keep _ _ h1 ne2,h2⟩
theorem nameZ{x:Str}{p:Pos}{val:Value}{mm:Str→Option Value}{Q:VP}(V:GenZ C env L)(hx:env.kindOf x=some .local)(hd:(x==("__debug__":Str))=false)(hn:s.heap.Ns L mm)(hv:mm x=some val)(hQ:Q val s):wpAny (model C.prog C.w) A (eval (.Name x p) env) Q E s:=
 PySem.wpAny_Name (wpAny_loadName_local V.kind hx (V.loc▸hn) hv hQ) hd
theorem cmaxZ{p:Pos}{Q:VP}(V:GenZ C env L)(O:OldK C.base s.heap)(hQ:∀t,Q (.int 127 t) s):wpAny (model C.prog C.w) A (eval (.Name "CHAR_MAX" p) env) Q E s:=by
 have hg:s.heap.Ns env.globals C.mg:=by refine(V.gl).symm▸?_;exact YS O C.g (by decide)
 obtain⟨t,h⟩:=V.ch;exact Calls.Name_function_global V.kind V.cmax (Calls.loadGlobal_global hg h (hQ t)) (by decide)
end
section
variable{C:Ctx}{L it a:Addr}{env:Env}{xs ys:List V}{s s₀:Shared}{r:List Stmt}{p:Nat→Pos}
noncomputable abbrev frZ(k0:Result→Sem Fin)(l0:List Value)(c0:Code)(p0:Pos):Frame:= .ret k0 none false l0 c0 p0 []
noncomputable abbrev wZ(p:Nat→Pos)(env:Env):Code:= .whileLoop (.Constant (.bool true) 0 (p 25)) [.Expr (.Yield (some (.Name "last_interval" (p 26))) (p 27)) (p 28)] [] env
theorem ZjC{v:V}(Z:GenZ C env L){fs:List Frame}(hfs:splitAtGen fs=none)(hfg:fs.any Frame.guarded=false){done:List V}:
  ∀n j s₀ s,ys=done++List.replicate (n+1) v→done.length+(n+1)=4→GZ C L it a xs j (some v) s.heap→MvZ L it s₀ s→
   Seg (model C.prog C.w) A0 (RZ L it ys) (YZ C L it a xs ys) (n+1) s₀ (wZ p env) ((model C.prog C.w).den (wZ p env)) fs s:=by
 intro n
 revert done
 induction n with
 |zero=>
  intro done j s₀ s hy hl G M;refine seg_whileLoop (Yl (fun w=>rfl) (wpAny_Constant_bool (wpAny_truthy_bool ?_)));rw[if_pos rfl];obtain⟨mm,w,hn,hw,hl'⟩:=G.ns;refine seg_execs_cons (seg_Expr_Yield hfs rfl hfg (nameZ Z Z.last (by decide) hn hw fun kap hk=>?_) Z.co Z.int)
  refine⟨⟨v,?_,hl' v rfl⟩,M,⟨let ⟨o,h1,_⟩:=G.li;⟨o,h1⟩,G.lL⟩,fun h=>absurd rfl h⟩
  rw[hy,show 3-0=done.length by omega];simp
 |succ n ih=>
  intro done j s₀ s hy hl G M;refine seg_whileLoop (Yl (fun w=>rfl) (wpAny_Constant_bool (wpAny_truthy_bool ?_)));rw[if_pos rfl];obtain⟨mm,w,hn,hw,hl'⟩:=G.ns;refine seg_execs_cons (seg_Expr_Yield hfs rfl hfg (nameZ Z Z.last (by decide) hn hw fun kap hk=>?_) Z.co Z.int)
  refine⟨⟨v,?_,hl' v rfl⟩,M,⟨let ⟨o,h1,_⟩:=G.li;⟨o,h1⟩,G.lL⟩,fun μ s'' K=>hk .none s'' ?_⟩
  ·rw[hy,show 3-(n+1)=done.length by omega,List.replicate_succ];simp
  ·refine seg_execs_nil (seg_again rfl (ih (done:=done++[v]) j s'' s'' ?_ (by rw[List.length_append,List.length_singleton];omega) (G.km K) (.refl _ _ _)))
   rw[hy,List.replicate_succ,List.append_assoc,List.singleton_append]
theorem Zcq(Z:GenZ C env L)(hit:C.base.objs.size≤it){k0:Result→Sem Fin}{l0:List Value}{c0:Code}{p0:Pos}{n j:Nat}{l:Option V}{x:Int}{b:Nat}{body:List Stmt}{R:GenEnd}{Y:Protocol}
  (hx:xs[j]? =some (.int x b))(G:GZ C L it a xs j l s.heap)
  (hK:∀s' mm w t,GZ C L it a xs (j+1) l s'.heap→s'.heap.Ns L mm→mm "interval"=some (.int x t)→(b≠0→x.natAbs<b)→mm "last_interval"=some w→LastR l w→MvZ L it s s'→
   Seg (model C.prog C.w) A0 R Y n s₀ (.forLoop (.Name "interval" (p 3)) (.ref it) body [] env) ((execs body env).wrap (fun f=>match f with
      | .next| .cont=> .pure (.again (.forLoop (.Name "interval" (p 3)) (.ref it) body [] env))
      | .brk=> .pure (.done .next)
      | .ret v=> .pure (.done (.ret v))) (fun e=>(do noteFrame e env;theTreesLotGoes e:Sem Unit).wrap (fun μ=> .raise e) .raise id id) id id) [frZ k0 l0 c0 p0] s'):
  Seg (model C.prog C.w) A0 R Y n s₀ (.forLoop (.Name "interval" (p 3)) (.ref it) body [] env) ((model C.prog C.w).den (.forLoop (.Name "interval" (p 3)) (.ref it) body [] env)) [frZ k0 l0 c0 p0] s:=by
 obtain⟨us,hl,hlen,hget⟩:=G.ls.get;obtain⟨u,hu,x',b',t,e1,rfl,hb⟩:=hget j x b hx;cases e1;obtain⟨ne1,ne2,ne3⟩:=G.ne;refine ZaV (wpAny_pyNext_list_item G.li hl (x:= .int x t) (by simpa using hu) fun h' hi' hs=>?_)
 have P:Plain (· =it) s {s with heap:=h'}:=Plain.but hs s.toks;have ht:Ze s.heap h':=fun b zs e=>P.keep b _ e fun q=>by
  obtain⟨o,h1,h2,_⟩:=G.li;cases q;rw[h1]at e;cases e;simp at h2
 have G1:GZ C L it a xs (j+1) l h':=by
  refine⟨Zu G.old P fun b q=>q▸hit,C.inv_step _ _ G.inv fun b o e hb=>P.keep b o e fun q=>absurd hb (Nat.not_lt.mpr (q▸hit)),?_,hi',?_⟩
  ·obtain⟨mm,w,h1,h2⟩:=G.ns;exact⟨mm,w,ns_at h1 fun o e=>P.keep _ _ e ne1,h2⟩
  ·obtain⟨n,us,ρ,hh,h1,h2⟩:=G.ls;exact⟨n,us,ρ,hh,P.keep _ _ h1 ne3,h2⟩
 have M1:MvZ L it s {s with heap:=h'}:=⟨P.weaken fun μ q=> .inr q,ht⟩;obtain⟨mm,w,hn,e,h3⟩:=G1.ns;refine wpAny_assign_Name (Zlj (s:={s with heap:=h'}) Z Z.intv G1 hn fun s' hn' hG M2=>?_);exact hK s' _ w t (hG l w (by rw[if_neg (by decide)];exact e) h3) hn' (if_pos rfl) hb (by show(if _ then _ else _)=_;rw[if_neg (by decide)];exact e) h3 (M1.trans M2)
noncomputable abbrev fZ(it:Addr)(r:List Stmt)(p:Nat→Pos)(env:Env):Code:= .forLoop (.Name "interval" (p 3)) (.ref it) (lBody r p) [] env
theorem Zhp(Z:GenZ C env L)(hit:C.base.objs.size≤it){k0:Result→Sem Fin}{l0:List Value}{c0:Code}{p0:Pos}
  (hE:∀n s₀ c s₁ r,(r= .ok .next∨r= .ok (.ret .none))→ys.length+n=4→MvZ L it s₀ s₁→Seg (model C.prog C.w) A0 (RZ L it ys) (YZ C L it a xs ys) n s₀ c (leafOf r) [frZ k0 l0 c0 p0] s₁):
  ∀n rest done ys' j l s₀ s,TellV n l rest ys'→0<n→xs.drop j=rest→ys=done++ys'→done.length+n=4→GZ C L it a xs j l s.heap→MvZ L it s₀ s→
   Seg (model C.prog C.w) A0 (RZ L it ys) (YZ C L it a xs ys) n s₀ (fZ it r p env) ((model C.prog C.w).den (fZ it r p env)) [frZ k0 l0 c0 p0] s:=by
 intro n rest done ys' j l s₀ s T
 induction T generalizing j s₀ s done with
 |stop=>intro h;exact absurd h (Nat.lt_irrefl _)
 |fin n l=>
  intro μ hd hy hn G M;obtain⟨us,hl,hlen,hget⟩:=G.ls.get;refine ZaV (wpAny_pyNext_list_end rfl G.li hl ?_ fun h' hx=>?_)
  ·have:xs.length≤j:=List.drop_eq_nil_iff.mp hd;rw[List.getElem?_toArray];exact List.getElem?_eq_none_iff.mpr (by omega)
  ·refine hE _ _ _ _ _ (.inl rfl) (by rw[hy,List.append_nil];omega) (M.trans ?_)
   have P:Plain (· =it) s {s with heap:=h'}:=Plain.ext hx s.toks;refine⟨P.weaken fun μ q=> .inr q,fun b zs e=>P.keep b _ e fun q=>?_⟩;obtain⟨o,h1,h2,_⟩:=G.li;cases q;rw[h1]at e;cases e;simp at h2
 |cm n l b r'=>
  intro μ hd hy hn G M;have hx:xs[j]? =some (.int 127 b):=by rw[←List.head?_drop,hd];rfl
  refine Zcq Z hit hx G fun s' mm w t G' hns hi hb hw hl M'=>?_;refine seg_execs_cons (ZbM (wpAny_isTrue_Compare1 (nameZ Z Z.intv (by decide) hns hi (cmaxZ Z G'.old fun t'=>PySem.P.eq_int (wpAny_truthy_bool ?_)))))
  rw[show((127:Int)==127)=true from rfl,if_pos rfl];refine seg_execs_cons (Zcp (wpAny_Return_none ?_));exact hE _ _ _ _ _ (.inr rfl) (by rw[hy,List.append_nil];omega) (M.trans M')
 |zero n v b r'=>
  intro μ hd hy hn G M;have hx:xs[j]? =some (.int 0 b):=by rw[←List.head?_drop,hd];rfl
  refine Zcq Z hit hx G fun s' mm w t G' hns hi hb hw hl M'=>?_;refine seg_execs_cons (ZbM (wpAny_isTrue_Compare1 (nameZ Z Z.intv (by decide) hns hi (cmaxZ Z G'.old fun t'=>PySem.P.eq_int (wpAny_truthy_bool ?_)))))
  rw[show((0:Int)==127)=false from rfl,if_neg (by decide)]
  refine seg_execs_nil (seg_execs_cons (ZbM (wpAny_isTrue_Compare1 (nameZ Z Z.intv (by decide) hns hi (wpAny_Constant_int (PySem.P.eq_int (wpAny_truthy_bool ?_)))))))
  rw[show((0:Int)==0)=true from rfl,if_pos rfl];obtain⟨x',b',t',e1,rfl,hb'⟩:=hl v rfl;refine seg_execs_cons (ZbM (wpAny_isTrue_Compare1 (nameZ Z Z.last (by decide) hns hw (wpAny_Constant_none (wpAny_is_other rfl (by simp) (wpAny_truthy_bool ?_))))))
  rw[if_neg (by decide)]
  refine seg_execs_nil (seg_execs_cons (seg_While fun q=>?_));have hdl:done.length+(n+1)=4:=hn;refine ZjC Z rfl rfl n (j+1) s₀ _ hy hdl ⟨G'.old,G'.inv,⟨mm,_,hns,hw,hl⟩,G'.li,G'.ls⟩ ((M.trans M').trans (.toks _ _ _ _))
 |step n l x b r' ys' h0 h1 T ih=>
  intro μ hd hy hn G M;have hx:xs[j]? =some (.int x b):=by rw[←List.head?_drop,hd];rfl
  refine Zcq Z hit hx G fun s' mm w t G' hns hi hb hw hl M'=>?_;refine seg_execs_cons (ZbM (wpAny_isTrue_Compare1 (nameZ Z Z.intv (by decide) hns hi (cmaxZ Z G'.old fun t'=>PySem.P.eq_int (wpAny_truthy_bool ?_)))))
  rw[show(x==127)=false from beq_false_of_ne h1,if_neg (by decide)]
  refine seg_execs_nil (seg_execs_cons (ZbM (wpAny_isTrue_Compare1 (nameZ Z Z.intv (by decide) hns hi (wpAny_Constant_int (PySem.P.eq_int (wpAny_truthy_bool ?_)))))))
  rw[show(x==0)=false from beq_false_of_ne h0,if_neg (by decide)]
  refine seg_execs_nil (seg_execs_cons (seg_Expr_Yield rfl rfl rfl (nameZ Z Z.intv (by decide) hns hi fun kap hk=>?_) Z.co Z.int))
  refine⟨⟨.int x b,?_,x,b,t,rfl,rfl,hb⟩,(M.trans M').trans (.toks _ _ _ _),⟨let ⟨o,h1,_⟩:=G'.li;⟨o,h1⟩,G'.lL⟩,fun hne s'' K=>hk .none s'' ?_⟩
  ·rw[hy,show 3-n=done.length by omega];simp
  have G2:=G'.km K;have hns2:=ns_at hns K.kL;refine seg_execs_cons (Zcp (PySem.wpAny_Assign_Name (nameZ Z Z.intv (by decide) hns2 hi (Zlj Z Z.last G2 hns2 fun s3 hn3' hG M3=>?_)) rfl))
  have hd':xs.drop (j+1)=r':=by rw[←List.drop_drop,hd];rfl
  refine seg_execs_nil (seg_again rfl (ih (done++[.int x b]) (j+1) s'' s3 (Nat.pos_of_ne_zero hne) hd' (by rw[hy,List.append_assoc,List.singleton_append]) (by rw[List.length_append,List.length_singleton];omega) (hG _ (.int x t) (if_pos rfl) ?_) M3))
  intro v hv;cases hv;exact⟨x,b,t,rfl,rfl,hb⟩
end
section
variable{C:Ctx}{L a:Addr}{env:Env}{xs ys:List V}{s:Shared}{r:List Stmt}{p:Nat→Pos}
theorem Zmh(Z:GenZ C env L)(O:OldK C.base s.heap)(hi:C.inv s.heap){mm:Str→Option Value}(hn:s.heap.Ns L mm)(hm:mm "grouping"=some (.ref a))(hl:ListZ a xs s.heap)(T:TellV 4 none xs ys):
  Seg (model C.prog C.w) A0 (RZ L s.heap.objs.size ys) (YZ C L s.heap.objs.size a xs ys) 4 s (.func (gBody r p) env) ((model C.prog C.w).den (.func (gBody r p) env)) [] s:=by
 have hn':s.heap.Ns env.locals mm:=Z.loc▸hn;obtain⟨oL,esL,nL,hoL,hdL,hrest⟩:=id hn;obtain⟨na,us,ρ,h0,ha,hv⟩:=id hl;have neL:a≠L:=fun e=>by subst e;rw[hoL]at ha;cases ha;cases hdL
 refine seg_func (seg_execs_cons (Zcp (PySem.wpAny_Assign_Name (wpAny_Constant_none (PySem.wpAny_storeName_local Z.last hn' (fun h' hns' hs=>?_) (by refine(Z.kind).symm▸?_;rfl))) rfl)))
 rw[Z.loc]at hns' hs;have P:Plain (· =L) s {s with heap:=h',toks:=s.toks+1}:=Plain.but hs _;have ht:Ze s.heap h':=fun b zs e=>P.keep b _ e fun q=>by
  subst q;rw[hoL]at e;cases e;cases hdL
 have O':OldK C.base h':=Zu O P fun b q=>q▸Z.lo;have I':C.inv h':=C.inv_step _ _ hi fun b o e hb=>P.keep b o e fun q=>absurd hb (Nat.not_lt.mpr (q▸Z.lo));have ha':h'.get? a=some (Zb us na):=P.keep _ _ ha neL;refine seg_execs_cons (Zmi (fun μ=>rfl) (nameZ (s:={s with heap:=h',toks:=s.toks+1}) Z Z.grp (by decide) hns' (by show(if _ then _ else _)=_;rw[if_neg (by decide)];exact hm) (wpAny_pyIter_list (Zl (s:={s with heap:=h',toks:=s.toks+1}) ha') fun q=>⟨_,rfl,?_⟩)))
 have hsz:h'.objs.size=s.heap.objs.size:=hs.1;rw[show({s with heap:=h',toks:=s.toks+1}:Shared).heap.objs.size=s.heap.objs.size from hsz];have hit:C.base.objs.size≤s.heap.objs.size:=Yd O;have kp:∀b o,h'.get? b=some o→(h'.push {cls:= .type "list_iterator",data:= .fields #[.ref a, .int 0 0]}).get? b=some o:=fun b o e=>Heap.get?_push_of_some _ e
 have M:MvZ L s.heap.objs.size s {s with heap:=h'.push {cls:= .type "list_iterator",data:= .fields #[.ref a, .int 0 0]},toks:=s.toks+1}:=
  ⟨⟨fun b o e q=>kp _ _ (P.keep b o e fun z=>q (.inl z)),rfl,rfl⟩,fun b zs e=>kp _ _ (ht b zs e)⟩
 have P2:Plain (· =L) s {s with heap:=h'.push {cls:= .type "list_iterator",data:= .fields #[.ref a, .int 0 0]},toks:=s.toks+1}:=⟨fun b o e q=>kp _ _ (P.keep b o e q),rfl,rfl⟩
 refine Zhp (L:=L) (it:=s.heap.objs.size) (a:=a) (xs:=xs) (ys:=ys) Z hit (fun n s₀ c s₁ rr hr hlen M=>?_) 4 xs [] ys 0 none s _ T (by decide) rfl rfl rfl ⟨?_,?_,⟨_, .none,hns'.push _,?_,fun v h=>by exact nnO h⟩,⟨_,by rw[←hsz];exact Heap.get?_push_size _ rfl,rfl,rfl⟩,⟨na,us,ρ,h0,kp _ _ ha',hv⟩⟩ M
 ·refine seg_leaf rr ?_;rcases hr with rfl|rfl
  ·exact seg_end (.ok (.ret .none)) ⟨rfl,hlen,M⟩
  ·exact seg_end (.ok (.ret .none)) ⟨rfl,hlen,M⟩
 ·exact Zu O P2 fun b q=>q▸Z.lo
 ·exact C.inv_step _ _ hi fun b o e hb=>P2.keep b o e fun q=>absurd hb (Nat.not_lt.mpr (q▸Z.lo))
 ·exact if_pos rfl
end
section
variable{C:Ctx}{s:Shared}{A:Around}{E:VP}
theorem Zen{a:Addr}{g n m0:Nat}{gs:GenState}{P:Nat→Shared→Shared→Prop}{Y:Protocol}{Q:Option Value→Shared→Prop}(hA:Room m0 A)(hl:s.heap.NoLimit)
  (hg:s.heap.IsGen a g)(hgs:s.gens[g]? =some gs)
  (hgo:gs.Goes (model C.prog C.w) A0 (fun n s₀ r s₁=>r= .ok (.ret .none)∧P n s₀ s₁) Y n (.send .none) (s.setGen g .running))
  (hY:∀v s₁ gs',gs'.bare=true→Y (n-1) (s.setGen g .running) v s₁ (fun r' s''=>match n with
    |0=>False
    |m+1=>gs'.Goes (model C.prog C.w) A0 (fun n s₀ r s₁=>r= .ok (.ret .none)∧P n s₀ s₁) Y m r' s'')→Q (some v) (s₁.setGen g gs'))
  (hP:∀s₁,P n (s.setGen g .running) s₁→∀h',(∀b o,s₁.heap.get? b=some o→h'.get? b=some o)→Q none {s₁.setGen g .finished with heap:=h'}):
  wpAny (model C.prog C.w) A (pyNext (.ref a)) Q E s:=by
 have h1:A.depth+m0+20<1000:=hA.1;have h2:A.units+4*m0+800<9900:=hA.2.1;have hh:=hA.2.2
 skip
 refine Wb (wpAny_attempt (wpAny_callSpecial?_slot (name:=Str.ofString "__next__") hg.typeIs slot_gen_next
  (wpAny_call_entry slot_gen_next hg.typeIs entry_gen_next ?_ (args_gen_next _))))
 show wpAny _ A.in1 (Builtin.Generator.genWake (.ref a) (.send .none)) _ _ s
 skip
 refine Wb (wpAny_holding (wpAny_genNumber hg (Wb (wpAny_genState hgs ?_))));cases gs with
 |running=>exact hgo.elim
 |finished=>exact hgo.elim
 |_=>
  refine Wb (wpAny_roomToWake hl (show A.depth<_ by show _<1000;lia) ?_)
  show wpAny _ A.in1 (.resume g (.send .none) [] _) _ _ s;refine ZbE (A':=A0) ?_ hh (show A.depth≤980 by lia) (show A.units+1≤9200 by lia) rfl rfl
  refine wpAny_resumeQ hgs hgo (fun x s₁ hx=>?_) (fun v s₁ gs' hb hv=>?_)
  ·obtain⟨rfl,hp⟩:=hx;show wpAny _ A0 (newExc (.type "StopIteration") [] >>= _) _ _ _;refine Wb ?_
   skip
   refine Wb (wpAny_newObj_type ?_ (by size_fits))
   refine Wb (m:=firstArgMember _ _) (wpAny_of_eq (a:=Value.none) (by first|rfl|(dsimp only[firstArgMember];rfl)) ?_)
   refine wpAny_newObj_type ?_ (by size_fits)
   skip
   refine Wb (Wb (wpAny_handled ?_));refine(show A0.handled=none from rfl).symm▸?_;refine wpAny_throw ?_;refine Wb (wpAny_isInstance (T:="StopIteration") (b:=true) ⟨_,Heap.get?_push_size _ rfl,rfl⟩ isSubtype_stop ?_);exact Wp (hP s₁ hp _ fun b o hb=>Heap.get?_push_of_some _ (Heap.get?_push_of_some _ hb))
  ·exact Wp ⟨v,rfl,Wp (hY v s₁ gs' hb hv)⟩
end
end Mine
end
noncomputable section
open PySem PyProof.Rows
namespace Mine
set_option backward.match.sparseCases false
section
variable{C:Ctx}{g:G}{n:Nat}{sc:Sc}{st:St}{k:KS}
theorem Ext.drop{X Y:Addr→Prop}{ρ ρ':Rho}{s s':Shared}(x:Ext C (fun b=>X b∨Y b) ρ s ρ' s')(hY:∀b,Y b→s.heap.get? b=none):Ext C X ρ s ρ' s' where
 main:=x.main
 fresh:=fun a h=>by
  rcases x.fresh a h with h|h|h|h
  ·exact .inl h
  ·exact .inr (.inl h)
  ·exact .inr (.inr h)
  ·exact .inr (.inl (hY a h))
 kept:=fun a o e hb hf hx=>x.kept a o e hb hf fun q=>q.elim hx fun q=>by rw[hY a q]at e;exact nnO e
 tup:=x.tup
 live:=fun a o e hx=>x.live a o e fun q=>q.elim hx fun q=>by rw[hY a q]at e;exact nnO e
 gfresh:=x.gfresh
 gkept:=x.gkept
 gsize:=x.gsize
theorem Zi0:bootBuiltins "enumerate"=some (.type "enumerate"):=by kernel_rfl
noncomputable def Raw(env:Env)(s:Shared)(x:Str)(v:Value):Prop:=∃mm,s.heap.Ns env.locals mm∧mm x=some v
theorem Raw.ext{env:Env}{ρ ρ':Rho}{s s':Shared}{m:List (Str×V)}{x:Str}{v:Value}(R:Raw env s x v)(F:FI C env sc ρ m s)(e:Ext C nox ρ s ρ' s'):Raw env s' x v:=by
 obtain⟨mm,h1,h2⟩:=R;exact⟨mm,ns_at h1 fun o ho=>e.kept _ o ho F.lo F.out id,h2⟩
theorem Zcs{M:Model}{A:Around}{env:Env}{ρ:Rho}{s:Shared}{m:List (Str×V)}{x:Str}{v:Value}{p:Pos}{Q E:VP}(F:FI C env sc ρ m s)(hs:okSc sc=true)(hl:lookS x sc=some .local)(R:Raw env s x v)(hQ:Q v s):wpAny M A (eval (.Name x p) env) Q E s:=by
 obtain⟨mm,h1,h2⟩:=R;exact PySem.wpAny_Name (wpAny_loadName_local F.ok.kind (F.ok.loc x hl) h1 h2 hQ) (ZaD hs (by refine(hl).symm▸?_;rfl))
theorem Zha{M:Model}{A:Around}{E:VP}{env:Env}{ρ:Rho}{s:Shared}{x y:Str}{v:V}{val w:Value}{Q:Unit→Shared→Prop}(H:HI C ρ st s)(F:FI C env sc ρ st.m s)(hl:lookS y sc=some .local)(hn:x≠y)(r:VR ρ s.heap v val)(R:Raw env s x w)
  (K:∀s',HI C ρ {st with m:=[(y,v)]} s'→FI C env sc ρ [(y,v)] s'→Ext C (own env sc) ρ s ρ s'→Raw env s' x w→Q () s'):wpAny M A (storeName env y val) Q E s:=by
 have hp:(env.scope.kind== .class || (env.scope.kind== .module&&env.locals !=env.globals))=false:=by refine(F.ok.kind).symm▸?_;rfl
 obtain⟨mm,hns,hx⟩:=R;obtain⟨oL,esL,_,hoL,hdL,_⟩:=id hns;refine PySem.wpAny_storeName_local (F.ok.loc y hl) hns (fun h' hns' hs=>?_) hp;have P:Plain (· =env.locals) s {s with heap:=h',toks:=s.toks+1}:=Plain.but hs _;have ht:Ze s.heap h':=fun a xs e=>P.keep a _ e fun q=>by
  subst q;rw[hoL]at e;cases e;cases hdL
 refine K _ ((H.plain P (fun a q=>q▸⟨F.lo,F.out⟩) ht).m _) ?_ (Ext.plain P (fun a q=> .inr (.inl q)) ht) ⟨_,hns',by refine(if_neg hn).symm▸?_;exact hx⟩
 refine⟨F.ok,F.lo,⟨_,hns'⟩,F.out,?_,F.apart,F.has,?_⟩
 ·intro z c hc;obtain⟨h1,h2,h3,w,h4⟩:=F.cell z c hc;exact⟨h1,h2,h3,w,Yr h4 fun o e=>P.keep _ _ e h3⟩
 ·intro z u hu;rw[ZE]at hu;cases q:strEq y z with
  |true=>
   rw[q]at hu;cases hu;have:=Za.mp q;subst this;exact⟨val, .inl ⟨F.ok.loc y hl,_,hns',by simp⟩,r.mono (.refl _) ht⟩
  |false=>rw[q]at hu;exact nnO hu
theorem Zky(GK:GOK C g){elts:List Expr}{x1}{pos p cp np xp:Pos}{x:Str}{body r:List Stmt}{vs:List V}{J:Nat→St→Prop}{l:Addr}{A:Around}{env:Env}{ρ:Rho}{s:Shared}{Q:Flow→Shared→Prop}{E:VP}(hg:Jh sc "enumerate"=true)(hmg:C.mg "enumerate"=none)
  (hlist:∀(st:St) (ρ:Rho) (s:Shared),HI C ρ st s→∃n us,s.heap.get? l=some (Zb us n)∧VRs ρ s.heap vs us)(j0:J 0 st)
  (step:∀j v st,J j st→vs[j]? =some v→asgA (semR C g n) sc (.Tuple elts x1 pos) (.tup [.int j (j+1),v]) st fun st=>SS C n sc body st fun f st'=>f= .nxt∧J (j+1) st')
  (hrest:∀st',J vs.length st'→SS C n sc r st' k)(H:HI C ρ st s)(F:FI C env sc ρ st.m s)(hs:okSc sc=true)(hA:Room n A)(hl:lookS x sc=some .local)(R:Raw env s x (.ref l))(K:KF C env sc ρ s k Q):
  wpAny (model C.prog C.w) A (execs (.For (.Tuple elts x1 pos) (.Call (.Name "enumerate" np) [.Name x xp] [] cp) body [] p::r) env) Q E s:=by
 refine PySem.wpAny_execs_cons (PySem.wpAny_For ?_);refine Call_Name rfl (Ju hg H F hs (.inr ⟨hmg,Zi0,by decide⟩) ?_)
 refine Zf (ZC (es:=[.Name x xp]) rfl) (Calls.spliced_cons (Zcs F hs hl R (Calls.spliced_nil ⟨YY,?_⟩)));obtain⟨n',us,hll,r2⟩:=hlist _ _ _ H;refine call_enumerate_1 hll fun h' he hit hz hk=>?_;have P:Plain nox s {s with heap:=h'}:=⟨fun b o e μ=>hk b o e,rfl,rfl⟩;have H2:=H.plain0 P;have F2:FI C env sc ρ st.m {s with heap:=h'}:=F.ext (Ext.plain0 P);have none1:∀b,twoOf (s.heap.objs.size+1) s.heap.objs.size b→s.heap.get? b=none:=fun b q=>by
  rcases q with rfl|rfl
  ·exact ZH (Nat.le_succ _)
  ·exact Zw _
 have ap:∀b,twoOf (s.heap.objs.size+1) s.heap.objs.size b→Apart C env ρ b:=fun b q=>by
  have hb:=none1 b q;refine⟨H.freshLo ?_,H.freshOut hb,fun h=>?_,fun x c hc h=>?_⟩
  ·rcases q with rfl|rfl
   ·exact Nat.le_succ _
   ·exact Nat.le_refl _
  ·obtain⟨mm,o,_,_,ho,_⟩:=F.ns;rw[←h,hb]at ho;exact nnO ho
  ·obtain⟨_,_,_,v,o,ho,_⟩:=F.cell x c hc;rw[h,hb]at ho;exact nnO ho
 refine wpAny_pyIter_enum (s:={s with heap:=h'}) he ?_;refine ZiF (JN GK n) hs hA hlist step (Nat.succ_ne_self _) vs.length 0 st ρ {s with heap:=h'} .none (Nat.zero_add _) j0 H2 F2 (ap _ (.inl rfl)) (ap _ (.inr rfl)) he hit fun st2 ρ2 s2 j2 H3 F3 e3=>?_;have e13:Ext C (X2 env sc (s.heap.objs.size+1) s.heap.objs.size) ρ s ρ2 s2:=(Ext.plain0 P).trans e3;have e':Ext C (own env sc) ρ s ρ2 s2:=Ext.drop e13 none1;exact hrest st2 j2 A env ρ2 s2 Q E H3 F3 hs hA fun f fl st4 ρ4 s4 h4 H4 F4 e4 r4=>K f fl st4 ρ4 s4 h4 H4 F4 (e'.trans e4) r4
theorem ZfJ{A:Around}{ρ:Rho}{s:Shared}{Q E:VP}{n:Nat}{f:Str}{d:FnDef}{a:Addr}{fd:FuncData}(T:FnAt C f d a fd){x:Str}{v:Value}(hz:Zc d.params=[x])(hlx:lookS x d.scope.names=some .local)(hok:okFn d=true)
  (H:HI C ρ st s)(hA:Room (n+1) A)
  (hb:∀(A':Around) (env:Env) (s₁:Shared) (E':VP),HI C ρ {st with m:=[]} s₁→FI C env d.scope.names ρ [] s₁→Raw env s₁ x v→okSc d.scope.names=true→Room n A'→(∀ρ' s',Ext C (own env d.scope.names) ρ s₁ ρ' s'→Ext C nox ρ s ρ' s')→wpAny (model C.prog C.w) A' (execs d.body env) (fun fl s'=>∃x,fl= .ret x∧Q x s') E' s₁):wpAny (model C.prog C.w) A (call (.ref a) [v]) Q E s:=by
 obtain⟨k1,k2,k3,k4,k5,k6,k7⟩:=Zdn hok;obtain⟨o,ho,hd⟩:=T.obj s.heap H.old H.inv;have hlen:[v].length=(Zc d.params).length:=by refine(hz).symm▸?_;rfl
 have kind:∀x∈(Zc d.params).zip [v],fd.scope.names.lookup x.1=some .local∨(fd.scope.names.lookup x.1=some .cell∧((cellsFrom (s.heap.objs.size+1) fd.scope.names []).lookup x.1).isSome=true):=by
  intro x hx;rw[T.scope,←Zv];rcases k7 x.1 (YP hx)with h|h
  ·exact .inl h
  ·exact .inr ⟨h,Zr (.inl (by rw[←Zv];exact h))⟩
 refine wpAny_call (codeAny_call_cells (by have:=hA.1;lia) ho hd (C.lim _ H.inv) (T.crec _ H.old H.inv) T.body (T.bind [v] hlen) T.clo kind (fun s₁ I=>?_) (by refine(T.scope).symm▸?_;exact k6) (by refine(T.scope).symm▸?_;exact k5) (by refine(T.scope).symm▸?_;exact k3))
 obtain⟨h1,t1,e1⟩:=I.toInCall.same;have P:Plain nox s s₁:=by
  subst e1;exact⟨fun b o e μ=>I.toInCall.keep b o e,rfl,rfl⟩
 have hLsz:(callEnvC fd s.heap.objs.size a).locals=s.heap.objs.size:=rfl;have hnames:(callEnvC fd s.heap.objs.size a).scope.names=d.scope.names:=by refine(T.scope)▸?_;rfl
 have kindOf:∀x,(callEnvC fd s.heap.objs.size a).kindOf x=lookS x d.scope.names:=fun x=>by
  unfold Env.kindOf;rw[hnames,Zv]
 have hfresh:∀b,s.heap.objs.size≤b→s.heap.get? b=none:=fun b hb=>ZH hb;have hI:HI C ρ {st with m:=[]} s₁:=(H.plain0 P).m [];have F1:FI C (callEnvC fd s.heap.objs.size a) d.scope.names ρ [] s₁:=by
  refine⟨⟨by show fd.scope.kind=_;refine(T.scope).symm▸?_;exact k3,T.gl,T.bl,fun x h=>by rw[kindOf];exact h,fun x h=>by rw[kindOf];exact h,fun x h=>by rw[kindOf];exact .inr h,fun x h=>by rw[kindOf];exact h⟩,
   H.freshLo (Nat.le_refl _),⟨_,I.toInCall.ns⟩,H.freshOut (hfresh _ (Nat.le_refl _)),?_,?_,?_,?_⟩
  ·intro x c hc;have hlt:=I.above x c (mem_of_lookup hc);rw[hLsz]at hlt;exact⟨H.freshLo (Nat.le_of_lt hlt),H.freshOut (hfresh _ (Nat.le_of_lt hlt)),by refine(hLsz).symm▸?_;exact Nat.ne_of_gt hlt,_,I.cell x c hc⟩
  ·intro x y c hx hy;exact name_of_addr I.apart (mem_of_lookup hx) (mem_of_lookup hy)
  ·intro x hx;rcases hx with hx|hx
   ·refine Zr (.inl ?_);rw[T.scope,←Zv];exact hx
   ·exact absurd hx (JB k1)
  ·intro x v hv;exact nnO hv
 have R1:Raw (callEnvC fd s.heap.objs.size a) s₁ x v:=by
  refine⟨_,I.toInCall.ns,?_⟩;rw[Zbq k2 (by rw[kindOf];exact hlx),hz]
  simp[List.lookup]
 refine wpAny_mono (hb _ _ s₁ _ hI F1 R1 k4 (hA.deeper _) fun ρ2 s2 e2=>?_) (fun fl s' h=>?_) fun μ μ h=>h
 ·exact((Ext.plain0 P:Ext C (own (callEnvC fd s.heap.objs.size a) d.scope.names) ρ s ρ s₁).trans e2).forget fun b hb=>by
   refine hfresh b ?_;rcases hb with rfl|⟨x,_,hc⟩
   ·exact Nat.le_refl _
   ·exact Nat.le_of_lt (I.above x b (mem_of_lookup hc))
 ·obtain⟨x,rfl,hq⟩:=h;exact hq
end
end Mine
end
noncomputable section
open PySem PyProof.Rows PySem.W
namespace Mine
set_option backward.match.sparseCases true
section
variable{C:Ctx}{ρ ρ':Rho}{st:St}{s s':Shared}{g:Nat}{X:Addr→Prop}{env:Env}{sc:Sc}{m:List (Str×V)}
theorem YI(s:Shared)(g:Nat)(x:GenState)(i:Nat)(h:i≠g):(s.setGen g x).gens[i]? =s.gens[i]?:=(GenOnly.setGen s g x).2 i h
theorem ZG(s:Shared)(g:Nat)(x:GenState):(s.setGen g x).gens.size=s.gens.size:=by
 unfold Shared.setGen;simp
theorem HI.gen(H:HI C ρ st s)(hg:g∉gfoot ρ){gs:GenState}(hb:gs.bare=true):HI C ρ st (s.setGen g gs) where
 old:=H.old
 inv:=H.inv
 os:=H.os
 gens:=(show AllBare (s.setGen g gs).gens from by
  intro y hy;obtain⟨i,hi,rfl⟩:=Array.mem_iff_getElem.mp hy;have h1:(s.setGen g gs).gens[i]? =some (s.setGen g gs).gens[i]:=Array.getElem?_eq_getElem hi;by_cases e:i=g
  ·subst e;have hi':i<s.gens.size:=by rw[ZG]at hi;exact hi
   rw[setGen_self (Array.getElem?_eq_getElem hi')]at h1;refine(Option.some.inj h1)▸?_;exact hb
  ·rw[YI _ _ _ _ e]at h1;obtain⟨hi',e'⟩:=Array.getElem?_eq_some_iff.mp h1;refine(e')▸?_;exact H.gens _ (Array.getElem_mem hi'))
 nod:=H.nod
 lo:=H.lo
 live:=H.live
 gnod:=H.gnod
 ghi:=by rw[ZG];exact H.ghi
 len:=H.len
 dom:=H.dom
 sto:=fun i o e=>by
  obtain⟨en,he,r⟩:=H.sto i o e;exact⟨en,he,r.step (s':=s.setGen g gs) (.refl _) (fun μ μ μ e=>e) (.refl _) fun g' x hg' e=>by
   have ne:g'≠g:=fun q=>hg (q▸JP he hg');rw[YI _ _ _ _ ne];exact e⟩
theorem FI.gen(F:FI C env sc ρ m s)(gs:GenState):FI C env sc ρ m (s.setGen g gs):=⟨F.ok,F.lo,F.ns,F.out,F.cell,F.apart,F.has,F.vars⟩
noncomputable abbrev vw(g:Nat)(s:Shared):Shared:=s.setGen g .running
theorem Ext.view(x:Ext C X ρ s ρ' s')(hg:g<s.gens.size):Ext C X ρ (vw g s) ρ' (vw g s') where
 main:=x.main
 fresh:=x.fresh
 kept:=x.kept
 tup:=x.tup
 live:=x.live
 gfresh:=by rw[ZG];exact x.gfresh
 gkept:=fun i gs e hf=>by
  by_cases q:i=g
  ·subst q;rw[setGen_self (Array.getElem?_eq_getElem hg)]at e;have hg':=Nat.lt_of_lt_of_le hg x.gsize;rw[setGen_self (Array.getElem?_eq_getElem hg')];exact e
  ·rw[YI _ _ _ _ q]at e ⊢;exact x.gkept i gs e hf
 gsize:=by rw[ZG,ZG];exact x.gsize
theorem Ext.unview(x:Ext C X ρ s ρ' (vw g s'))(hg:s.gens.size≤g):Ext C X ρ s ρ' s' where
 main:=x.main
 fresh:=x.fresh
 kept:=x.kept
 tup:=x.tup
 live:=x.live
 gfresh:=x.gfresh
 gkept:=fun i gs e hf=>by
  have:=x.gkept i gs e hf;have hi:=(Array.getElem?_eq_some_iff.mp e).1;rwa[YI _ _ _ _ (by lia)]at this
 gsize:=by have:=x.gsize;rwa[ZG]at this
end
noncomputable def three(L it ga:Addr):Addr→Prop:=fun b=>b=L∨b=it∨b=ga
noncomputable def X3(env:Env)(sc:Sc)(L it ga:Addr):Addr→Prop:=fun b=>own env sc b∨three L it ga b
section
variable{C:Ctx}{A:Around}{env:Env}{sc:Sc}{L it ga a:Addr}{g n:Nat}{rec:Rec}{R:Result→Shared→Prop}{xs ys:List V}
theorem Zfk{ρ:Rho}{st:St}{s:Shared}(H:HI C ρ st s)(e:st.σ.get 0=some (.list xs))(hm:Zi ρ 0=some a):ListZ a xs s.heap:=by
 obtain⟨en,he,a',n',us,rfl,hl,r⟩:=H.sto 0 _ e;have:a=a':=by unfold Zi at hm;rw[he]at hm;exact(Option.some.inj hm).symm
 subst this;exact⟨n',us,_,_,hl,r⟩
theorem loopZ(S:Snd C rec n){px:Pos}{body:List Stmt}{J:Nat→St→Prop}(hs:okSc sc=true)(hA:Room n A)
  (jx:∀j st,J j st→st.σ.get 0=some (.list xs))
  (step:∀j v st,J j st→j<4→ys[j]? =some v→asgA rec sc (.Name "size" px) v st fun st=>rec.ss sc body st fun f st'=>(f= .nxt∧j+1<4∨f= .brk∧j+1=4)∧J (j+1) st')(hy:ys.length≤4):
  ∀(m j:Nat) (st:St) (ρ:Rho) (s:Shared) (gs:GenState),j+(m+1)=4→J j st→HI C ρ st s→FI C env sc ρ st.m s→Apart C env ρ L→Apart C env ρ it→Apart C env ρ ga→Zi ρ 0=some a→g∉gfoot ρ→ga≠L→ga≠it→s.heap.IsGen ga g→s.gens[g]? =some gs→
   gs.Goes (model C.prog C.w) A0 (RZ L it ys) (YZ C L it a xs ys) (m+1) (.send .none) (s.setGen g .running)→
   (∀st' ρ' s',J ys.length st'→HI C ρ' st' s'→FI C env sc ρ' st'.m s'→Ext C (X3 env sc L it ga) ρ (vw g s) ρ' (vw g s')→R (.ok .next) s')→codeAny (model C.prog C.w) A (.forLoop (.Name "size" px) (.ref ga) body [] env) R s:=by
 intro m
 induction m using Nat.strongRecOn with
 |ind m ih=>
  intro j st ρ s gs hj hJ H F A1 A2 A3 hm hgf n1 n2 hG hgs hgo K;have hgl:g<s.gens.size:=(Array.getElem?_eq_some_iff.mp hgs).1;have hS:∀b,twoOf L it b→C.base.objs.size≤b∧b∉foot ρ:=fun b q=>q.elim (fun q=>q▸⟨A1.lo,A1.out⟩) fun q=>q▸⟨A2.lo,A2.out⟩;have view:∀(s1:Shared) (x:GenState),MvZ L it (s.setGen g .running) s1→Ext C (X3 env sc L it ga) ρ (vw g s) ρ (vw g (s1.setGen g x)):=fun s1 x M=>by
   refine Ext.plain (S:=twoOf L it) ⟨M.pl.keep,?_,M.pl.os⟩ (fun b q=> .inr (.inr (q.elim .inl fun q=> .inr (.inl q)))) M.tup;have:=M.pl.gens;show(s1.setGen g x |>.setGen g .running).gens=(s.setGen g .running).gens;unfold Shared.setGen at this ⊢;simp[this]
  refine Yy (Zen hA (C.lim _ H.inv) hG hgs hgo (fun v s1 gs' hb hY=>?_) fun s1 hR h' hk=>?_)
  ·obtain⟨⟨v',hv',hM⟩,M,⟨li,lL⟩,kap⟩:=hY;have hjj:3-(m+1-1)=j:=by lia
   rw[hjj]at hv';have H1:HI C ρ st (s1.setGen g gs'):=((H.gen hgf (gs:= .running) rfl).plain M.pl hS M.tup).gen hgf hb;have F1:FI C env sc ρ st.m (s1.setGen g gs'):=((F.gen (g:=g) .running).two M.pl A1 A2 M.tup).gen gs';obtain⟨x,b,t,rfl,rfl,hbd⟩:=hM;have hs1:s1.gens=(s.setGen g .running).gens:=M.pl.gens;have hg1:(s1.setGen g gs').gens[g]? =some gs':=setGen_self (gs:= .running) (by refine(hs1).symm▸?_;exact setGen_self hgs)
   have hsz1:(s1.setGen g gs').gens.size=s.gens.size:=by rw[ZG,hs1,ZG]
   refine Wp (a:=()) ?_;refine Zag S (step j _ st hJ (by lia) hv') H1 F1 hs hA (.int x b t hbd) fun st2 ρ2 s2 g2 H2 F2 e2=>?_
   refine S.ss g2 H2 F2 hs hA fun f fl st3 ρ3 s3 g3 H3 F3 e3 r3=>?_;obtain⟨hf,j3⟩:=g3;have e23:=e2.trans e3;have ext:=(view s1 gs' M).trans ((e23.view (g:=g) (by refine(hsz1).symm▸?_;exact hgl)).weaken (Y:=X3 env sc L it ga) fun μ h=> .inl h)
   rcases hf with⟨rfl,hf⟩|⟨rfl,hf⟩
   ·cases r3 with|nxt=>
    obtain⟨k,rfl⟩:∃k,m=k+1:=⟨m-1,by lia⟩
    obtain⟨og,nm,qn,hog,hrest⟩:=hG;have hog1:(s1.setGen g gs').heap.get? ga=some og:=M.pl.keep _ _ hog fun q=>q.elim n1 n2;have hm3:=e23.main 0 a hm;refine ih k (Nat.le_refl _) (j+1) st3 ρ3 s3 gs' (by lia) j3 H3 F3 (A1.ext (s:=s1.setGen g gs') lL e23) (A2.ext (s:=s1.setGen g gs') li e23) (A3.ext (s:=s1.setGen g gs') ⟨_,hog1⟩ e23) hm3 (fun h=>?_) n1 n2 ⟨og,nm,qn,A3.keep e23 hog1,hrest⟩ (e23.gkept g gs' hg1 hgf)
     (kap (Nat.succ_ne_zero k) _ ⟨H3.old,H3.inv,fun o h=>A1.keep e23 h,fun o h=>A2.keep e23 h,(show ListZ a xs s3.heap from Zfk H3 (jx _ _ j3) hm3)⟩) fun st4 ρ4 s4 j4 H4 F4 e4=>K st4 ρ4 s4 j4 H4 F4 (ext.trans e4)
    rcases e23.gfresh g h with h|h
    ·exact hgf h
    ·rw[hsz1]at h;lia
   ·cases r3 with|brk=>
    have:ys.length=j+1:=by
     have:=(List.getElem?_eq_some_iff.mp hv').1
     lia
    exact K st3 ρ3 s3 (this▸j3) H3 F3 ext
  ·obtain⟨hl,M⟩:=hR;have hjj:ys.length=j:=by lia
   have P0:Plain nox (s1.setGen g .finished) {s1.setGen g .finished with heap:=h'}:=⟨fun b o e μ=>hk b o e,rfl,rfl⟩;have H1:HI C ρ st {s1.setGen g .finished with heap:=h'}:=(((H.gen hgf (gs:= .running) rfl).plain M.pl hS M.tup).gen hgf (gs:= .finished) rfl).plain0 P0;have F1:FI C env sc ρ st.m {s1.setGen g .finished with heap:=h'}:=(((F.gen (g:=g) .running).two M.pl A1 A2 M.tup).gen .finished).ext (Ext.plain0 P0);refine PySem.wpAny_execs_nil (K st ρ _ (hjj▸hJ) H1 F1 ((view s1 .finished M).trans (Ext.plain0 (s':=vw g {s1.setGen g .finished with heap:=h'}) ⟨fun b o e μ=>hk b o e,rfl,rfl⟩)))
end
noncomputable abbrev no0:Pos:=⟨0,0,0,0⟩
noncomputable def gB:List Stmt:=(fnOf "_grouping_intervals").body
noncomputable def thenB(s:Stmt):List Stmt:=match s with
 | .If _ b _ _=>b
 |_=>[]
noncomputable def stN(l:List Stmt)(i:Nat):Stmt:=l.getD i (.Pass no0)
noncomputable def rG:List Stmt:=thenB (stN (thenB (stN (forB (stN gB 1)) 1)) 0)
noncomputable def plc(l:List Nat)(i:Nat):Pos:=⟨l.getD (4*i) 0,l.getD (4*i+1) 0,l.getD (4*i+2) 0,l.getD (4*i+3) 0⟩
noncomputable def pG:Nat→Pos:=plc [171,4,171,17,171,20,171,24,171,4,171,24,172,8,172,16,172,20,172,28,172,4,181,32,173,11,173,19,173,23,173,31,173,11,173,31,174,12,174,18,173,8,174,18,175,11,175,19,175,23,175,24,175,11,175,24,175,8,179,35,180,14,180,22,180,8,180,22,180,8,180,22,181,8,181,21,181,24,181,32,181,8,181,32,176,15,176,28,176,32,176,36,176,15,176,36,176,12,177,52,178,18,178,22,179,22,179,35,179,16,179,35,179,16,179,35,178,12,179,35]
theorem ZoS:(fnOf "_grouping_intervals").body=gBody rG pG:=by kernel_rfl
noncomputable def gSc:Scope:=(fnOf "_grouping_intervals").scope
theorem ZoR:gSc.kind= .function∧gSc.isGenerator=true∧gSc.isCoroutine=false∧lookS "interval" gSc.names=some .local∧lookS "last_interval" gSc.names=some .local∧lookS "grouping" gSc.names=some .local∧lookS "CHAR_MAX" gSc.names=some .globalImplicit∧gSc.names.all (fun x=>!decide (x.2= .cell))=true∧Zc (fnOf "_grouping_intervals").params=[("grouping":Str)]:=by
 refine⟨?_,?_,?_,?_,?_,?_,?_,?_,?_⟩<;>kernel_rfl
section
variable{C:Ctx}{A:Around}{E:VP}{s:Shared}{a fa:Addr}{fd:FuncData}{xs ys:List V}
theorem ZkQ{Q:VP}(T:FnAt C "_grouping_intervals" (fnOf "_grouping_intervals") fa fd)(CH:∃t,C.mg "CHAR_MAX"=some (.int 127 t))(O:OldK C.base s.heap)(hi:C.inv s.heap)(hr:A.depth<recursionLimit)
  (hQ:∀ga L s' env,GenZ C env L→ga≠L→ga≠s'.heap.objs.size→L≠s'.heap.objs.size→s.heap.get? ga=none→s.heap.get? L=none→s'.heap.get? s'.heap.objs.size=none→s.heap.objs.size≤s'.heap.objs.size→s.heap.objs.size≤L→s.heap.objs.size≤ga→s'.heap.IsGen ga s.gens.size→(∃mm,s'.heap.Ns L mm∧mm "grouping"=some (.ref a))→
   s'.gens=s.gens.push (.fresh (.func (gBody rG pG) env))→(∀a o,s.heap.get? a=some o→s'.heap.get? a=some o)→s'.os=s.os→Q (.ref ga) s'):wpAny (model C.prog C.w) A (call (.ref fa) [.ref a]) Q E s:=by
 refine Classical.byContradiction fun hnG=>?_;obtain⟨o,ho,hd⟩:=T.obj _ O hi;obtain⟨k1,k2,k3,k4,k5,k6,k7,k8,k9⟩:=ZoR;have hsc:fd.scope=gSc:=T.scope;have kl:∀x,fd.scope.names.lookup x=lookS x gSc.names:=fun x=>by rw[hsc,Zv]
 refine hnG ?_;refine wpAny_call (codeAny_call_generator hr ho hd (by refine(hsc).symm▸?_;exact k3) (by refine(hsc).symm▸?_;exact k2) (by rw[T.body,ZoS]) (T.crec _ O hi) ?_)
 rw[T.bind [.ref a] (by refine(k9).symm▸?_;rfl),k9]
 refine Wp ?_;rw[T.clo,T.gl,T.bl];refine wpAny_newFunctionEnv (fun y hy=>?_) (fun y hy=>?_) (fun h' hn' hs'=>?_) (by refine(hsc).symm▸?_;exact k1)
 ·rw[hsc]at hy;have:=List.all_eq_true.mp k8 y hy;simpa using this
 ·have hy':y=(("grouping":Str),Value.ref a):=by simpa using hy
  subst hy';rw[kl];exact k6
 have kp:∀a o,s.heap.get? a=some o→h'.get? a=some o:=fun a o e=>hs'.extBut a o (Nat.ne_of_lt (Heap.lt_size e)) (Heap.get?_push_of_some _ e);have hL:h'.objs.size=s.heap.objs.size+1:=by rw[hs'.1,Heap.size_push]
 have i1:C.inv h':=C.inv_step _ _ hi fun a o e μ=>kp a o e;refine⟨C.lim _ i1,?_⟩;have hsz:C.base.objs.size≤s.heap.objs.size:=Yd O;have hne:h'.objs.size≠s.heap.objs.size:=by lia
 have hle:s.heap.objs.size≤h'.objs.size:=by lia
 refine hQ h'.objs.size s.heap.objs.size _ (newEnv fd.scope s.heap.objs.size mainGlobals [] (fd.qualname++".<locals>.") (some fa) fd.code none builtinsNs) ⟨rfl,?_,?_,?_,?_,?_,rfl,?_,?_,CH,hsz⟩ hne ?_ ?_ (ZH hle) (Zw _) (Zw _) ?_ (Nat.le_refl _) hle ⟨_,_,_,Heap.get?_push_size _ rfl,rfl,rfl,rfl⟩ ⟨_,hn'.push _,rfl⟩ rfl (fun a o e=>Heap.get?_push_of_some _ (kp a o e)) rfl
 ·show fd.scope.kind=_;refine(hsc).symm▸?_;exact k1
 ·exact(kl _).trans k4
 ·exact(kl _).trans k5
 ·exact(kl _).trans k6
 ·exact(kl _).trans k7
 ·show fd.scope.isCoroutine=_;refine(hsc).symm▸?_;exact k3
 ·have:fd.scope.kind= .function:=by refine(hsc).symm▸?_;exact k1
  simp[interactive,this,newEnv]
 ·show h'.objs.size≠(h'.push _).objs.size;rw[Heap.size_push];lia
 ·show s.heap.objs.size≠(h'.push _).objs.size;rw[Heap.size_push];lia
 ·show s.heap.objs.size≤(h'.push _).objs.size;rw[Heap.size_push];lia
end
section
variable{C:Ctx}{A:Around}{E:VP}{s s':Shared}{a fa:Addr}{fd:FuncData}{xs ys:List V}{ρ:Rho}{st:St}{env:Env}{sc:Sc}{n:Nat}
theorem TellV.len{n:Nat}{l:Option V}{xs ys:List V}(h:TellV n l xs ys):ys.length≤n:=by
 induction h with
 |stop=>exact Nat.le_refl _
 |fin=>exact Nat.zero_le _
 |cm=>exact Nat.zero_le _
 |zero n=>exact Nat.le_of_eq List.length_replicate
 |step _ _ _ _ _ _ _ _ _ ih=>exact Nat.succ_le_succ ih
theorem Zbe{α:Type}{l:Array α}{x y:α}{i:Nat}(e:l[i]? =some y):(l.push x)[i]? =some y:=by
 have hi:=(Array.getElem?_eq_some_iff.mp e).1;rw[Array.getElem?_push,if_neg (Nat.ne_of_lt hi)];exact e
theorem HI.pushGen(H:HI C ρ st s){x:GenState}(hb:x.bare=true)(hk:∀a o,s.heap.get? a=some o→s'.heap.get? a=some o)(hg:s'.gens=s.gens.push x)(ho:s'.os=s.os):HI C ρ st s' where
 old:=Zu (s:=s) (s':={s' with gens:=s.gens}) (S:=nox) H.old ⟨fun a o e μ=>hk a o e,rfl,ho⟩ fun μ h=>h.elim
 inv:=C.inv_step _ _ H.inv fun a o e μ=>hk a o e
 os:=ho.trans H.os
 gens:=by
  rw[hg];intro y hy;rcases Array.mem_push.mp hy with h|h
  ·exact H.gens y h
  ·rw[h];exact hb
 nod:=H.nod
 lo:=H.lo
 live:=fun a h=>let ⟨o,e⟩:=H.live a h;⟨o,hk a o e⟩
 gnod:=H.gnod
 ghi:=fun g h=>by rw[hg,Array.size_push];exact Nat.lt_succ_of_lt (H.ghi g h)
 len:=H.len
 dom:=H.dom
 sto:=fun i o e=>by
  obtain⟨en,he,r⟩:=H.sto i o e;exact⟨en,he,r.step (.refl _) (fun a o μ e=>hk a o e) (fun a μ e=>hk a _ e) fun g gs μ e=>by rw[hg];exact Zbe e⟩
theorem Znd(GK:GOK C gN)(T:FnAt C "_grouping_intervals" (fnOf "_grouping_intervals") fa fd)(CH:∃t,C.mg "CHAR_MAX"=some (.int 127 t)){px p cp np xp:Pos}{body r:List Stmt}{J:Nat→St→Prop}{k:KS}{Q:Flow→Shared→Prop}
  (hg:Jh sc "_grouping_intervals"=true)(hl:lookS "ruler" sc=some .local)(jx:∀j st,J j st→st.σ.get 0=some (.list xs))(j0:J 0 st)(hru:lookS "ruler" st.m=some (.ref 0))
  (step:∀j v st,J j st→j<4→ys[j]? =some v→asgA (semR C gN n) sc (.Name "size" px) v st fun st=>(semR C gN n).ss sc body st fun f st'=>(f= .nxt∧j+1<4∨f= .brk∧j+1=4)∧J (j+1) st')(hT:TellV 4 none xs ys)
  (hrest:∀st',J ys.length st'→SS C n sc r st' k)(H:HI C ρ st s)(F:FI C env sc ρ st.m s)(hs:okSc sc=true)(hA:Room n A)(K:KF C env sc ρ s k Q):
  wpAny (model C.prog C.w) A (execs (.For (.Name "size" px) (.Call (.Name "_grouping_intervals" np) [.Name "ruler" xp] [] cp) body [] p::r) env) Q E s:=by
 obtain⟨val,hva,rv⟩:=F.vars _ _ hru;cases rv with|ref _ a hm=>
 have R:Raw env s "ruler" (.ref a):=by
  rcases hva with⟨_,h⟩|⟨h,_⟩
  ·exact h
  ·rw[F.ok.loc _ hl]at h;rcases h with h|h<;>cases h
 obtain⟨o,ho,hd⟩:=T.obj _ H.old H.inv;refine PySem.wpAny_execs_cons (PySem.wpAny_For ?_);refine Call_Name rfl (Ju hg H F hs (.inl T.glob) ?_);refine Zf (ZC (es:=[.Name "ruler" xp]) rfl) (Calls.spliced_cons (Zcs F hs hl R (Calls.spliced_nil ⟨ZZ ho hd,?_⟩)));refine ZkQ T CH H.old H.inv (by have:=hA.1;lia) fun ga L s' env' Z n1 n2 n3 f1 f2 f3 hsz hLs hgs' hG hN hgens hk hos=>?_
 obtain⟨mm,hN,hmg⟩:=hN;have H1:HI C ρ st s':=H.pushGen (x:= .fresh (.func (gBody rG pG) env')) rfl hk hgens hos;have gk:∀i gs,s.gens[i]? =some gs→s'.gens[i]? =some gs:=fun i gs e=>by rw[hgens];exact Zbe e
 have e1:∀X,Ext C X ρ s ρ s':=fun X=>⟨.refl _,fun μ h=> .inl h,fun a o e μ μ μ=>hk a o e,fun a μ e=>hk a _ e,fun a o e μ=>⟨o,hk a o e⟩,fun μ h=> .inl h,fun i gs e μ=>gk i gs e,by rw[hgens,Array.size_push];exact Nat.le_succ _⟩
 have F1:FI C env sc ρ st.m s':=F.ext (e1 _);have none1:∀b,three L s'.heap.objs.size ga b→s.heap.get? b=none:=fun b q=>by
  rcases q with rfl|rfl|rfl
  ·exact f2
  ·exact ZH hsz
  ·exact f1
 have big:∀b,three L s'.heap.objs.size ga b→s.heap.objs.size≤b:=fun b q=>by
  rcases q with rfl|rfl|rfl
  ·exact hLs
  ·exact hsz
  ·exact hgs'
 have ap:∀b,three L s'.heap.objs.size ga b→Apart C env ρ b:=fun b q=>by
  have hb:=none1 b q;refine⟨H.freshLo (big b q),H.freshOut hb,fun h=>?_,fun x c hc h=>?_⟩
  ·obtain⟨mm,o,_,_,ho,_⟩:=F.ns;rw[←h,hb]at ho;exact nnO ho
  ·obtain⟨_,_,_,v,o,ho,_⟩:=F.cell x c hc;rw[h,hb]at ho;exact nnO ho
 have hgg:s'.gens[s.gens.size]? =some (.fresh (.func (gBody rG pG) env')):=by rw[hgens];exact Array.getElem?_push_size ..
 refine wpAny_pyIter_gen hG ?_;refine loopZ (J:=J) (ys:=ys) (xs:=xs) (a:=a) (L:=L) (it:=s'.heap.objs.size) (g:=s.gens.size) (JN GK n) hs hA jx step hT.len 3 0 st ρ s' _ rfl j0 H1 F1 (ap _ (.inl rfl)) (ap _ (.inr (.inl rfl))) (ap _ (.inr (.inr rfl))) hm (fun h=>Nat.lt_irrefl _ (H.ghi _ h)) n1 n2 hG hgg
  ⟨rfl,Zmh (s:=s'.setGen s.gens.size .running) Z H1.old H1.inv hN hmg (show ListZ a xs s'.heap from Zfk H1 (jx _ _ j0) hm) hT⟩ fun st2 ρ2 s2 j2 H2 F2 e2=>?_
 have ev:Ext C (X3 env sc L s'.heap.objs.size ga) ρ s ρ (vw s.gens.size s'):=⟨.refl _,fun μ h=> .inl h,fun a o e μ μ μ=>hk a o e,fun a μ e=>hk a _ e,fun a o e μ=>⟨o,hk a o e⟩,fun μ h=> .inl h,fun i gs e μ=>by rw[YI _ _ _ _ (Nat.ne_of_lt (Array.getElem?_eq_some_iff.mp e).1)];exact gk i gs e,by rw[ZG,hgens,Array.size_push];exact Nat.le_succ _⟩
 have e':Ext C (own env sc) ρ s ρ2 s2:=Ext.drop ((ev.trans e2).unview (Nat.le_refl _)) none1;exact hrest st2 j2 A env ρ2 s2 Q E H2 F2 hs hA fun f fl st4 ρ4 s4 h4 H4 F4 e4 r4=>K f fl st4 ρ4 s4 h4 H4 F4 (e'.trans e4) r4
end
noncomputable def bodyS:List Stmt:=(fnOf "_law_sizes").body
noncomputable def namS:Sc:=(fnOf "_law_sizes").scope.names
noncomputable def Zn7:Stmt:=(bodyS.drop 1).headD (.Pass no0)
noncomputable def Zfy:List Stmt:=forB Zn7
noncomputable def retS:List Stmt:=bodyS.drop 2
noncomputable def pS:Nat→Pos:=plc [201,8,201,12,201,16,201,35,201,36,201,41,201,16,201,42,201,4,204,17]
theorem Zmf:bodyS=[bodyS.headD (.Pass no0)]++(.For (.Name "size" (pS 0)) (.Call (.Name "_grouping_intervals" (pS 1)) [.Name "ruler" (pS 2)] [] (pS 3)) Zfy [] (pS 4)::retS):=by kernel_rfl
noncomputable def stZ(xs acc:List V):St:=mkSt 2 [(0, .list xs),(1, .list acc)] [("ruler", .ref 0),("sizes", .ref 1)]
noncomputable def stZ'(xs acc:List V)(v:V):St:=mkSt 2 [(0, .list xs),(1, .list acc)] [("ruler", .ref 0),("sizes", .ref 1),("size",v)]
noncomputable abbrev KZ:=Fl→KO
noncomputable def kZ(is:List Nat)(K:KZ):KS:=fun f st=>K f st.n (Yv is st) (Y5 ["ruler","sizes"] st)
noncomputable def JM(acc:List V)(f:Fl):Prop:=∀(xs:List V) (v:V) (K:KZ),(evF gN 50).ss namS Zfy (stZ' xs acc v) (kZ [0,1] K)=K f 2 [some (.list xs),some (.list (acc++[v]))] [some (.ref 0),some (.ref 1)]
theorem se0:JM [] .nxt:=fun xs v K=>by kernel_rfl
theorem se1(a:V):JM [a] .nxt:=fun xs v K=>by kernel_rfl
theorem se2(a b:V):JM [a,b] .nxt:=fun xs v K=>by kernel_rfl
theorem se3(a b c:V):JM [a,b,c] .brk:=fun xs v K=>by kernel_rfl
noncomputable def retEq(acc:List V):Prop:=∀(xs:List V) (K:Fl→List (Option AO)→Prop),(evF gN 50).ss namS retS (stZ xs acc) (fun f st=>K f (Yv [0,4] st))=K (.ret (.ref 4)) [some (.list xs),some (.list (acc++onesV (4-acc.length)))]
theorem re0:retEq []:=fun xs K=>by kernel_rfl
theorem re1(a:V):retEq [a]:=fun xs K=>by kernel_rfl
theorem re2(a b:V):retEq [a,b]:=fun xs K=>by kernel_rfl
theorem re3(a b c:V):retEq [a,b,c]:=fun xs K=>by kernel_rfl
theorem re4(a b c d:V):retEq [a,b,c,d]:=fun xs K=>by kernel_rfl
theorem asgEq(xs:List V)(K:KZ):(evF gN 50).ss namS [bodyS.headD (.Pass no0)] {stF [xs]with m:=[("ruler", .ref 0)]} (kZ [0,1] K)=K .nxt 2 [some (.list xs),some (.list [])] [some (.ref 0),some (.ref 1)]:=by kernel_rfl
theorem asg_S(rec:Rec)(v:V)(st:St)(K:St→Prop)(p:Pos):asgA rec namS (.Name "size" p) v st K=K {st with m:=updS "size" v st.m}:=by kernel_rfl
noncomputable def Zfe(xs:List V):Prop:=∀x b,V.int x b∈xs→b≠0→x.natAbs<b
theorem ZhO{ρ:Rho}{h:Heap}{xs:List V}{us:List Value}(r:VRs ρ h xs us):Zfe xs:=
 VRs.ind (P:=fun xs μ=>Zfe xs) (fun μ μ h=>(List.not_mem_nil h).elim) (fun v vs u us p μ ih x b hm hb=>by
  rcases List.mem_cons.mp hm with e|hm
  ·obtain⟨_,_,q⟩:=ZB (e▸p:VR ρ h (.int x b) u);exact q hb
  ·exact ih x b hm hb) r
theorem ZkC{v:V}(hv:flatV v=true)(n:Nat):flatL (List.replicate n v)=true:=by
 induction n with
 |zero=>rfl
 |succ n ih=>exact Bool.and_eq_true_iff.mpr ⟨hv,ih⟩
theorem TellV.nil(m:Nat)(l:Option V):TellV m l [] []:=by
 cases m with
 |zero=>exact .stop _ _
 |succ m=>exact .fin _ _
theorem Zpd{x:Int}{b:Nat}(e:Nat.beq b 1=true)(h:b≠0→x.natAbs<b):x=0:=by
 cases Nat.eq_of_beq_eq_true e;exact Int.natAbs_eq_zero.mp (Nat.lt_one_iff.mp (h (by decide)))
theorem ZkZ{x:Int}{b:Nat}(e:Nat.blt b 128=true)(h:x.natAbs<b):x≠127:=fun q=>by
 rw[q]at h;exact absurd (Nat.lt_of_lt_of_le h (Nat.le_of_lt_succ (Nat.le_of_ble_eq_true e))) (Nat.lt_irrefl _)
theorem ZjV(a:List V)(n:Nat):a++onesV (n-n)=a:=by rw[Nat.sub_self];exact List.append_nil a
theorem Zl9{fin:List V→Prop}{xs:List V}:∀(m n:Nat) (l:Option V) (acc:List V),n+m=4→szK fin xs n l acc→Zfe xs→(∀v,l=some v→flatV v=true)→
  ∃ys,TellV m l xs ys∧fin (acc++ys++onesV (m-ys.length))∧flatL ys=true:=by
 induction xs with
 |nil=>exact fun m n l acc e h μ μ=>⟨[], .nil m l,by rw[List.append_nil];exact(show 4-n=m by omega)▸h,rfl⟩
 |cons v r ih=>
  intro m n l acc en h ho hl;have hm:4-n=m:=by omega
  obtain⟨x,b,e,h⟩:=Yf (show Zo _ _ _ from h);subst e;have hx:=ho x b (.head _);cases m with
  |zero=>
   rcases JR h with⟨_,h⟩|⟨e,_⟩
   ·exact⟨[], .stop _ _,by rw[List.append_nil];exact(List.append_nil acc).symm▸h,rfl⟩
   ·exact absurd en (Nat.ne_of_beq_eq_false e)
  |succ m=>
   rcases JR h with⟨e,_⟩|⟨_,h⟩
   ·exact absurd (Nat.eq_of_beq_eq_true e) (by omega)
   rcases JR h with⟨e,h⟩|⟨_,h⟩
   ·obtain⟨v,e1,h⟩:=Zd h;rw[e1,Zpd e hx];refine⟨_, .zero m v b r,?_,ZkC (hl v e1) _⟩;rw[List.length_replicate,ZjV,←hm];exact h
   rcases JR h with⟨_,h⟩|⟨_,h⟩
   ·obtain⟨e1,h⟩:=gd_of h;rw[of_decide_eq_true e1];exact⟨[], .cm m l b r,by rw[List.append_nil];exact hm▸h,rfl⟩
   ·obtain⟨e1,hx0,h⟩:=gd_of h;have h:szK fin r (n+1) (some (V.int x b)) (acc++[V.int x b]):=h;have e1:=Bool.and_eq_true_iff.mp e1;have hb:b≠0:=fun q=>by rw[q]at e1;exact ftB e1.2
    obtain⟨ys,T,hf,hfl⟩:=ih m (n+1) (some (V.int x b)) (acc++[V.int x b]) (by omega) h (fun y c hy=>ho y c (.tail _ hy)) (fun v e=>Option.some.inj e▸rfl)
    refine⟨.int x b::ys, .step m l x b r ys hx0 (ZkZ e1.1 (hx hb)) T,?_,hfl⟩;rw[List.length_cons,Nat.add_sub_add_right,List.append_cons acc];exact hf
noncomputable def JS(xs ys:List V)(j:Nat)(st:St):Prop:=st.n=2∧Yv [0,1] st=[some (.list xs),some (.list (ys.take j))]∧Y5 ["ruler","sizes"] st=[some (.ref 0),some (.ref 1)]
section
variable{C:Ctx}{xs ys:List V}
theorem JS.x0{j:Nat}{st:St}(h:JS xs ys j st):st.σ.get 0=some (.list xs):=(List.cons.inj h.2.1).1
theorem JS.ws{j:Nat}{st:St}(h:JS xs ys j st):WS st (stZ xs (ys.take j)):=
 ws_of (is:=[0,1]) (xs:=["ruler","sizes"]) h.1 h.2.1 h.2.2 (.cons _ _ _ _ _ _ (.refl _) (.cons _ _ _ _ _ _ (.refl _) .nil)) (.cons _ _ _ _ _ _ (.refl _) (.cons _ _ _ _ _ _ (.refl _) .nil))
theorem ss_kZ{g:G}{n m:Nat}{sc:Sc}{st:St}{k:KS}(GK:GOK C g)(hm:m≤n){a:List Stmt}{is:List Nat}{f1:Fl}{n1:Nat}{os:List (Option AO)}{vs:List (Option V)}
  (run:∀K:KZ,(evF g m).ss sc a st (kZ is K)=K f1 n1 os vs)(h:∀st':St,st'.n=n1→Yv is st'=os→Y5 ["ruler","sizes"] st'=vs→k f1 st'):SS C n sc a st k:=by
 have hr:=run fun f n2 o2 v2=>f=f1∧∀st':St,st'.n=n2→Yv is st'=o2→Y5 ["ruler","sizes"] st'=v2→k f1 st';have h0:=hr.symm▸(⟨rfl,h⟩:f1=f1∧_);have S:=ZbI GK hm h0;intro A env ρ s Q E H F hs hA K;refine S A env ρ s Q E H F hs hA fun f fl st' ρ' s' hk H' F' e' r'=>?_;have hk':f=f1∧_:=hk;obtain⟨rfl,hk⟩:=hk';exact K f fl st' ρ' s' (hk st' rfl rfl rfl) H' F' e' r'
theorem Zn5(GK:GOK C gN){j:Nat}{v:V}{st:St}(h:JS xs ys j st)(hj:j<4)(hv:ys[j]? =some v):SS C 200 namS Zfy {st with m:=updS "size" v st.m} fun f st'=>(f= .nxt∧j+1<4∨f= .brk∧j+1=4)∧JS xs ys (j+1) st':=by
 have hru:lookS "ruler" st.m=some (.ref 0):=(List.cons.inj h.2.2).1;have hsi:lookS "sizes" st.m=some (.ref 1):=(List.cons.inj (List.cons.inj h.2.2).2).1;have ht:ys.take (j+1)=ys.take j++[v]:=by rw[List.take_succ,hv];rfl
 have W:WS {st with m:=updS "size" v st.m} (stZ' xs (ys.take j) v):=by
  refine ws_of (st:={st with m:=updS "size" v st.m}) (is:=[0,1]) (xs:=["ruler","sizes","size"]) h.1 h.2.1 (vs:=[some (.ref 0),some (.ref 1),some v]) ?_ (.cons _ _ _ _ _ _ (.refl _) (.cons _ _ _ _ _ _ (.refl _) .nil)) (.cons _ _ _ _ _ _ (.refl _) (.cons _ _ _ _ _ _ (.refl _) (.cons _ _ _ _ _ _ (.refl _) .nil)));show [lookS "ruler" (updS "size" v st.m),lookS "sizes" (updS "size" v st.m),lookS "size" (updS "size" v st.m)]=_;simp only[ZX];rw[if_neg (by decide),if_neg (by decide),hru,hsi];simp
 have go:∀f,JM (ys.take j) f→(f= .nxt∧j+1<4∨f= .brk∧j+1=4)→SS C 200 namS Zfy {st with m:=updS "size" v st.m} fun f st'=>(f= .nxt∧j+1<4∨f= .brk∧j+1=4)∧JS xs ys (j+1) st':=fun f se hf=>
  Zeg W (ss_kZ GK (m:=50) (by decide) (se xs v) fun st' q1 q2 q3=>⟨hf,q1,by rw[q2,ht],q3⟩)
 have hl:(ys.take j).length=j:=(List.length_take ..).trans (Nat.min_eq_left (Nat.le_of_lt (List.getElem?_eq_some_iff.mp hv).1));rcases(show j=0∨j=1∨j=2∨j=3 by omega)with e|e|e|e
 ·exact go _ (vl0 (P:=fun l=>JM l .nxt) hl e se0) (.inl ⟨rfl,by rw[e];decide⟩)
 ·exact go _ (vl1 (P:=fun l=>JM l .nxt) e se1 _ hl) (.inl ⟨rfl,by rw[e];decide⟩)
 ·exact go _ (vl2 (P:=fun l=>JM l .nxt) e se2 _ hl) (.inl ⟨rfl,by rw[e];decide⟩)
 ·exact go _ (vl3 (P:=fun l=>JM l .brk) e se3 _ hl) (.inr ⟨rfl,by rw[e]⟩)
theorem Zom(h:ys.length≤4):retEq ys:=by
 rcases(show ys.length=0∨ys.length=1∨ys.length=2∨ys.length=3∨ys.length=4 by omega)with e|e|e|e|e
 ·exact vl0 (P:=retEq) rfl e re0
 ·exact vl1 (P:=retEq) e re1 _ rfl
 ·exact vl2 (P:=retEq) e re2 _ rfl
 ·exact vl3 (P:=retEq) e re3 _ rfl
 ·exact vl4 (P:=retEq) e re4 _ rfl
theorem ret_S(GK:GOK C gN){st:St}(h:JS xs ys ys.length st)(hy:ys.length≤4):SS C 200 namS retS st fun f st'=>f= .ret (.ref 4)∧st'.σ.get 0=some (.list xs)∧st'.σ.get 4=some (.list (ys++onesV (4-ys.length))):=by
 have W:=h.ws;rw[List.take_length]at W;refine Zeg W (ZbI (m:=50) GK (by decide) ?_)
 have hr:=Zom hy xs fun f o=>f= .ret (.ref 4)∧o=[some (.list xs),some (.list (ys++onesV (4-ys.length)))];have h0:(evF gN 50).ss namS retS (stZ xs ys) (fun f st=>f= .ret (.ref 4)∧Yv [0,4] st=[some (.list xs),some (.list (ys++onesV (4-ys.length)))]):=hr.symm▸⟨rfl,rfl⟩;refine cast (congrArg (fun k=>(evF gN 50).ss namS retS (stZ xs ys) k) ?_) h0;funext f st;refine propext ⟨fun q=>⟨q.1,(List.cons.inj q.2).1,(List.cons.inj (List.cons.inj q.2).2).1⟩,fun q=>⟨q.1,?_⟩⟩;show [st.σ.get 0,st.σ.get 4]=_;rw[q.2.1,q.2.2]
theorem Zit(n:Nat):flatL (onesV n)=true:=by
 induction n with
 |zero=>rfl
 |succ n ih=>exact ih
theorem ZkE{a b:List V}(ha:flatL a=true)(hb:flatL b=true):flatL (a++b)=true:=by
 induction a with
 |nil=>exact hb
 |cons v r ih=>exact Bool.and_eq_true_iff.mpr ⟨(Bool.and_eq_true_iff.mp ha).1,ih (Bool.and_eq_true_iff.mp ha).2⟩
theorem ZjB(GK:GOK C gN){fa:Addr}{fd:FuncData}(T:FnAt C "_grouping_intervals" (fnOf "_grouping_intervals") fa fd)(CH:∃t,C.mg "CHAR_MAX"=some (.int 127 t)){fin:List V→Prop}{k:KS}(hz:szK fin xs 0 none [])
  (hk:∀l st',fin l→flatL l=true→st'.σ.get 0=some (.list xs)→st'.σ.get 4=some (.list l)→k (.ret (.ref 4)) st'):SS C 200 namS bodyS {stF [xs]with m:=[("ruler", .ref 0)]} k:=by
 intro A env ρ s Q E H F hs hA K;refine Classical.byContradiction fun hnG=>?_;have ho:Zfe xs:=by
  obtain⟨en,he,a',n',us,rfl,hl,r⟩:=H.sto 0 (.list xs) rfl;exact ZhO r
 obtain⟨ys,hT,hf,hfl⟩:=Zl9 4 0 none [] rfl hz ho (fun v e=>by exact nnO e)
 have hy:ys.length≤4:=hT.len;have hf':fin (ys++onesV (4-ys.length)):=hf;have main:SS C 200 namS bodyS {stF [xs]with m:=[("ruler", .ref 0)]} k:=by
  refine(Zmf).symm▸?_;refine Zn8 (ss_kZ GK (m:=50) (by decide) (asgEq xs) fun st1 q1 q2 q3=>?_)
  have j0:JS xs ys 0 st1:=⟨q1,by refine(List.take_zero).symm▸?_;exact q2,q3⟩
  intro A env ρ s Q E H F hs hA K;refine Znd (n:=200) (xs:=xs) (ys:=ys) (J:=JS xs ys) (k:=k) GK T CH (by kernel_rfl) (by kernel_rfl) (fun μ μ h=>h.x0) j0 (List.cons.inj q3).1 (fun j v st h hj hv=>?_) hT (fun st2 j2=>?_) H F hs hA K
  ·rw[asg_S];exact Zn5 GK h hj hv
  ·refine fun A env ρ s Q E H F hs hA K=>ret_S GK j2 hy A env ρ s Q E H F hs hA fun f fl st3 ρ3 s3 h3 H3 F3 e3 r3=>?_;obtain⟨rfl,h0,h4⟩:=h3;exact K _ fl st3 ρ3 s3 (hk _ st3 hf' (ZkE hfl (Zit _)) h0 h4) H3 F3 e3 r3
 refine hnG ?_;exact main A env ρ s Q E H F hs hA K
theorem ZoL{v:V}(h:isI v=true):∃x b,v= .int x b:=by
 cases v with
 |int x b=>exact⟨x,b,rfl⟩
 |_=>exact ftB h
theorem ZgN{rs:List Nat}{l:List V}:intsV l=true→Vals rs l l:=by
 induction l with
 |nil=>exact fun μ=> .nil
 |cons v r ih=>
  intro h;have h:=Bool.and_eq_true_iff.mp h;obtain⟨x,b,e⟩:=ZoL h.1;exact e▸ .cons _ _ _ _ (.int x b b fun hb=>⟨hb,Nat.le_refl _⟩) (ih h.2)
theorem Zeh{a fa:Addr}{fd fdg:FuncData}(T:FnAt C "_law_sizes" (fnOf "_law_sizes") a fd)(GK:GOK C gN)(Tg:FnAt C "_grouping_intervals" (fnOf "_grouping_intervals") fa fdg)(CH:∃t,C.mg "CHAR_MAX"=some (.int 127 t))(hok:okFn (fnOf "_law_sizes")=true)(hp:Zc (fnOf "_law_sizes").params=[("ruler":Str)]):ConOK C "_law_sizes" 201 ZaK (.ref a):=by
 refine ZeK T 200 hok fun {vs st k} h=>⟨semR C gN 200,JN GK 200,?_⟩;refine Classical.byContradiction fun hnG=>?_;obtain⟨_,e0,h⟩:=Jm h;obtain⟨r,e1,h⟩:=YJ h;rw[e0,e1]at hnG;obtain⟨xs,e,h⟩:=Zd h;obtain⟨hi,h⟩:=gd_of h;have S:SubL st [r] [r] [xs]:= .cons _ _ _ _ _ (Ye e) (ZgN hi) .nil;refine hnG ⟨[r],stF [xs],[.ref 0],S.sub (List.pairwise_singleton _ _), .cons _ _ _ _ (.ref _ 0 rfl) .nil,[("ruler", .ref 0)],by rw[hp];rfl,?_⟩
 refine ZjB GK Tg CH h fun l st' hf hfl h0 h4=>⟨fun j hj=>?_, .inr (.inr (.inl ⟨4,l,l,rfl,by show 1≤4;decide,h4,hfl, .refl _,hf⟩))⟩
 rw[Nat.lt_one_iff.mp hj,h0];rfl
end
end Mine
end
noncomputable section
open PySem PySem.W PyProof.Rows
namespace Mine
set_option backward.match.sparseCases false
structure LE(C:Ctx):Prop where
 own:∃fd,FnAt C "_law_own" (fnOf "_law_own") 274 fd
 det:∃fd,FnAt C "_law_det" (fnOf "_law_det") 303 fd
 yiq:∃fd,FnAt C "rgb_to_yiq" (fnOf "rgb_to_yiq") 71 fd
 rgb:∃fd,FnAt C "yiq_to_rgb" (fnOf "yiq_to_rgb") 78 fd
 dm:∃fd,FnAt C "domain_match" (fnOf "domain_match") 57 fd
 reach:∃fd,FnAt C "reach" (fnOf "reach") 64 fd
 loc:∃fd,FnAt C "_build_localename" (fnOf "_build_localename") 253 fd
 row:∃fd,FnAt C "_law_row" (fnOf "_law_row") 291 fd
 doors:∃fd,FnAt C "_law_doors" (fnOf "_law_doors") 296 fd
 way:∃fd,FnAt C "_law_way" (fnOf "_law_way") 286 fd
 told:∃fd,FnAt C "_law_told" (fnOf "_law_told") 279 fd
 sizes:∃fd,FnAt C "_law_sizes" (fnOf "_law_sizes") 267 fd
 grp:∃fd,FnAt C "_grouping_intervals" (fnOf "_grouping_intervals") 246 fd
 chr:∃t,C.mg "CHAR_MAX"=some (.int 127 t)
 cells:∃fd,FnAt C "_law_cells" (fnOf "_law_cells") 260 fd
 hdn:∃fd,FnAt C "is_HDN" (fnOf "is_HDN") 50 fd
 law:∃fd,FnAt C "law" (fnOf "law") 308 fd
 meth:∀f,Zbb f=true→∃fa,MethOK C f fa
 con:ConOK C "_ValueFormatter" 0 ZcN (.ref 151)
 re:ReAt C "IPV4_RE" 43 Yp
 nob:∀p∈ZP,C.mg p.1=none
 enum:C.mg "enumerate"=none
 nxt:∀{A:Around} {ρ:Rho} {st:St} {s:Shared} {v:V} {x:Value} {k:KE} {Q E:VP},ZaE v st k→HI C ρ st s→VR ρ s.heap v x→Room 0 A→KX C ρ s st.m k Q→wpAny (model C.prog C.w) A (call (.builtin "next") [x]) Q E s
section
variable{C:Ctx}(L:LE C)
include L
theorem gok_N:GOK C gN where
 fn:=fun μ μ μ h=>by exact nnO h
 con:=fun μ μ h=>by exact nnO h
 meth:=L.meth
 nob:=L.nob
 nxt:=fun h H r hA K=>L.nxt h H r hA K
theorem k_own:ConOK C "_law_own" 101 ZdZ (.ref 274):=by
 obtain⟨fd,Y⟩:=L.own;exact ZhK Y (gok_N L) (by kernel_rfl) (by kernel_rfl)
theorem k_det:ConOK C "_law_det" 201 ZfG (.ref 303):=by
 obtain⟨fd,Y⟩:=L.det;exact ZiK Y (gok_N L) (by kernel_rfl) (by kernel_rfl)
theorem k_yiq:ConOK C "rgb_to_yiq" 101 ZiO (.ref 71):=by
 obtain⟨fd,Y⟩:=L.yiq;exact ZgJ Y (gok_N L) (by kernel_rfl) (by kernel_rfl)
theorem k_rgb:ConOK C "yiq_to_rgb" 101 ZiQ (.ref 78):=by
 obtain⟨fd,Y⟩:=L.rgb;exact Zhz Y (gok_N L) (by kernel_rfl) (by kernel_rfl)
theorem gok_T:GOK C gT where
 fn:=fun μ μ μ h=>by exact nnO h
 con:=fun f c h=>by
  replace h:ZiP f=some c:=h
  unfold ZiP at h;split at h
  ·rename_i e;cases h;refine(Za.mp e).symm▸?_;exact⟨_,k_yiq L⟩
  ·split at h
   ·rename_i e;cases h;refine(Za.mp e).symm▸?_;exact⟨_,k_rgb L⟩
   ·split at h
    ·rename_i e;cases h;refine(Za.mp e).symm▸?_;exact⟨_,k_own L⟩
    ·exact nnO h
 meth:=L.meth
 nob:=L.nob
 nxt:=fun h H r hA K=>L.nxt h H r hA K
theorem ZoI:ConOK C "_law_told" 301 ZcM (.ref 279):=by
 obtain⟨fd,Y⟩:=L.told;exact ZfZ Y (gok_T L) (by kernel_rfl) (by kernel_rfl)
theorem k_hdn(top:Bool):ConOK C "is_HDN" 102 (ZfF top) (.ref 50):=by
 obtain⟨fd,Y⟩:=L.hdn;exact Zip Y (gok_N L) L.re top (by kernel_rfl) (by kernel_rfl)
theorem fn_E{f:Str}{d:FnDef}(h:fnE f=some d):∃a fd,FnAt C f d a fd:=by
 unfold fnE at h;split at h
 ·rename_i hk;unfold okFns at hk;simp only[Bool.or_eq_true]at hk;have key:∀{g:Str} {a:Addr},f=g→(∃fd,FnAt C g (fnOf g) a fd)→∃a fd,FnAt C f d a fd:=by
   rintro g a rfl ⟨fd,Y⟩
   have:fnOf f=d:=by unfold fnOf;refine(h).symm▸?_;rfl
   exact⟨a,fd,this▸Y⟩
  rcases hk with((((e|e)|e)|e)|e)|e
  ·exact key (Za.mp e) (L.reach)
  ·exact key (Za.mp e) (L.dm)
  ·exact key (Za.mp e) (L.loc)
  ·exact key (Za.mp e) (L.way)
  ·exact key (Za.mp e) (L.row)
  ·exact key (Za.mp e) (L.doors)
 ·exact nnO h
theorem gok_E(top:Bool):GOK C (gE top) where
 fn:=fun μ μ μ h=>fn_E L h
 con:=fun f c h=>by
  replace h:conE top f=some c:=h
  unfold conE at h;split at h
  ·rename_i e;cases h;refine(Za.mp e).symm▸?_;exact⟨_,k_hdn L top⟩
  ·split at h
   ·rename_i e;cases h;refine(Za.mp e).symm▸?_;exact⟨_,L.con⟩
   ·split at h
    ·rename_i e;cases h;refine(Za.mp e).symm▸?_;exact⟨_,k_own L⟩
    ·split at h
     ·rename_i e;cases h;refine(Za.mp e).symm▸?_;exact⟨_,ZoI L⟩
     ·split at h
      ·rename_i e;cases h;refine(Za.mp e).symm▸?_;exact⟨_,k_det L⟩
      ·exact nnO h
 meth:=L.meth
 nob:=L.nob
 nxt:=fun h H r hA K=>L.nxt h H r hA K
theorem ZmW:ConOK C "_law_sizes" 201 ZaK (.ref 267):=by
 obtain⟨fd,Y⟩:=L.sizes;obtain⟨fdg,Yg⟩:=L.grp;exact Zeh Y (gok_N L) Yg L.chr (by kernel_rfl) (by kernel_rfl)
theorem gok_A{q:Cuts}:GOK C (gA q) where
 fn:=fun μ μ μ h=>fn_E L h
 con:=fun f c h=>by
  replace h:conA f=some c:=h
  unfold conA at h;split at h
  ·rename_i e;cases h;refine(Za.mp e).symm▸?_;exact⟨_,ZmW L⟩
  ·exact nnO h
 meth:=L.meth
 nob:=L.nob
 nxt:=fun h H r hA K=>L.nxt h H r hA K
end
end Mine
end
noncomputable section
open PySem PyProof.Rows
namespace Mine
set_option backward.match.sparseCases false
noncomputable def bodyC:List Stmt:=(fnOf "_law_cells").body
noncomputable def namC:Sc:=(fnOf "_law_cells").scope.names
noncomputable def Zlk:Stmt:=(bodyC.drop 1).headD (.Pass ⟨0,0,0,0⟩)
noncomputable def bodyF:List Stmt:=forB Zlk
noncomputable def elsC:List Expr:=match forT Zlk with
 | .Tuple es _ _=>es
 |_=>[]
noncomputable def addAt(c:Nat→Int)(r:Nat)(y:Int):Nat→Int:=fun i=>match Nat.beq i r with
 |true=>c i+y
 |false=>c i
noncomputable def Zav:List Int→Nat→(Nat→Int)→(Nat→Int)
 | [],_,c=>c
 |y::r,j,c=>Zav r (j+1) (addAt c (j % 7) y)
noncomputable def Zb8(i:Nat):Int:=match i with
 |0=>291
 |1=>2045
 |2=>19
 |3=>1155
 |4=>1547
 |5=>387
 |_=>1455
noncomputable def Y2(ns:List Int):Nat→Int:=Zav ns 0 Zb8
theorem Zbn:∀(a:List Int) (y:Int) (j:Nat) (c:Nat→Int),Zav (a++[y]) j c=addAt (Zav a j c) ((j+a.length) % 7) y
 | [],y,j,c=>rfl
 |x::a,y,j,c=>by
  show Zav (a++[y]) (j+1) _=addAt (Zav a (j+1) _) _ y;rw[Zbn a y (j+1)];congr 2;simp only[List.length_cons];lia
noncomputable def numsV(ns:List Int):List V:=ns.map fun n=> .int n 0
noncomputable def cutR(r:Nat)(p:Pos):Option V:=match Nat.beq p.line 197 with
 |true=>match Nat.beq p.col 14 with
  |true=>match Nat.beq p.endCol 23 with
   |true=>some (.int r 7)
   |false=>none
  |false=>none
 |false=>none
noncomputable def gR(r:Nat):G:={gN with cut:=cutR r}
noncomputable def stR(c:Nat→Int)(j:Int)(b:Nat)(y:Int):St:=mkSt 1 [(0, .list (Z7 c))] [("cells", .ref 0),("place", .int j b),("number", .int y 0)]
noncomputable def JX(r:Nat):Prop:=∀(c:Nat→Int) (j y:Int) (b:Nat) (K:KO),
 (evF (gR r) 50).ss namC bodyF (stR c j b y) (kO [0] ["cells"] K)=((j.fmod 7=(r:Int)∧(7≠0→(j.fmod 7).natAbs<7))∧K 1 [some (.list (Z7 (addAt c r y)))] [some (.ref 0)])
theorem ce0:JX 0:=fun μ μ μ μ μ=>by kernel_rfl
theorem ce1:JX 1:=fun μ μ μ μ μ=>by kernel_rfl
theorem ce2:JX 2:=fun μ μ μ μ μ=>by kernel_rfl
theorem ce3:JX 3:=fun μ μ μ μ μ=>by kernel_rfl
theorem ce4:JX 4:=fun μ μ μ μ μ=>by kernel_rfl
theorem ce5:JX 5:=fun μ μ μ μ μ=>by kernel_rfl
theorem ce6:JX 6:=fun μ μ μ μ μ=>by kernel_rfl
theorem ceAll(r:Nat)(h:r<7):JX r:=by
 exact ltS (P:=JX) (ltS (ltS (ltS (ltS (ltS (ltS lt0 ce0) ce1) ce2) ce3) ce4) ce5) ce6 r h
noncomputable def lstC:Expr:=match(bodyC.headD (.Pass ⟨0,0,0,0⟩))with
 | .Assign _ e _=>e
 |_=> .Constant .none 0 ⟨0,0,0,0⟩
noncomputable def lits7:List V:=[.lit 291, .lit 2045, .lit 19, .lit 1155, .lit 1547, .lit 387, .lit 1455]
theorem Zm3(K:V→List (Str×V)→Nat→Tr AO→Prop):(evF gN 50).ex namC lstC ⟨[],0, .nil⟩ (fun v st=>K v st.m st.n st.σ)=K (.ref 0) [] 1 (puts [(0, .list lits7)]):=by kernel_rfl
theorem Zmp(st:St)(K:V→St→Prop):(evF gN 50).ss namC (bodyC.drop 2) st (fun f st'=>match f with| .ret v=>K v st'|f=>f= .ret (.ref 0)∧st'.n=1∧st'.σ.get 0=none)=(match lookS "cells" st.m with|some v=>K v st|none=>Bad 34):=by kernel_rfl
theorem asg_C(rec:Rec)(a b:V)(st:St)(K:St→Prop)(x1)(p:Pos):asgA rec namC (.Tuple elsC x1 p) (.tup [a,b]) st K=K {st with m:=updS "number" b (updS "place" a st.m)}:=by kernel_rfl
theorem Zmg:bodyC= .Assign [.Name "cells" ⟨195,4,195,9⟩] lstC ⟨195,4,195,50⟩::(.For (.Tuple elsC 0 ⟨196,8,196,21⟩) (.Call (.Name "enumerate" ⟨196,25,196,34⟩) [.Name "script" ⟨196,35,196,41⟩] [] ⟨196,25,196,42⟩) bodyF [] ⟨196,4,197,34⟩::bodyC.drop 2):=by kernel_rfl
noncomputable def JC(ns:List Int)(j:Nat)(st:St):Prop:=st.n=1∧Yv [0] st=[some (.list (Z7 (Zav (ns.take j) 0 Zb8)))]∧Y5 ["cells"] st=[some (.ref 0)]
section
variable{C:Ctx}
theorem gok_R(GK:GOK C gN)(r:Nat):GOK C (gR r):=⟨GK.fn,GK.con,GK.meth,GK.nob,GK.nxt⟩
theorem Zn6(GK:GOK C gN){ns:List Int}{j:Nat}{v:V}{st:St}(h:JC ns j st)(hv:(numsV ns)[j]? =some v):SS C 60 namC bodyF {st with m:=updS "number" v (updS "place" (.int (j:Int) (j+1)) st.m)} fun f st'=>f= .nxt∧JC ns (j+1) st':=by
 have hlt:j<ns.length:=by
  have:=(List.getElem?_eq_some_iff.mp hv).1;simpa[numsV]using this
 have ev:v= .int ns[j] 0:=by
  have:=(List.getElem?_eq_some_iff.mp hv).2;rw[←this];simp[numsV]
 subst ev;have hc:lookS "cells" st.m=some (.ref 0):=(List.cons.inj h.2.2).1;have hr:j % 7<7:=Nat.mod_lt _ (by decide)
 have hf:(j:Int).fmod 7=((j % 7:Nat):Int):=by rw[Int.fmod_eq_emod_of_nonneg _ (by decide)];lia
 refine Zeg (st':=stR (Zav (ns.take j) 0 Zb8) j (j+1) ns[j]) ?_ (Zll (m:=50) (gok_R GK (j % 7)) (by decide) (ceAll (j % 7) hr _ _ _ _) ⟨hf,fun μ=>by lia⟩ fun st' q1 q2 q3=>?_)
 ·refine ws_of (st:={st with m:=updS "number" (.int ns[j] 0) (updS "place" (.int (j:Int) (j+1)) st.m)}) (is:=[0]) (xs:=["cells","place","number"]) h.1 h.2.1 (vs:=[some (.ref 0),some (.int (j:Int) (j+1)),some (.int ns[j] 0)]) ?_ (.cons _ _ _ _ _ _ (.refl _) .nil) (.cons _ _ _ _ _ _ (.refl _) (.cons _ _ _ _ _ _ (.refl _) (.cons _ _ _ _ _ _ (.refl _) .nil)));show [lookS "cells" (updS "number" _ (updS "place" _ st.m)),lookS "place" (updS "number" _ (updS "place" _ st.m)),lookS "number" (updS "number" _ (updS "place" _ st.m))]=_;simp only[ZX];rw[if_neg (by decide),if_neg (by decide),if_neg (by decide)]
  simp[hc]
 ·refine⟨rfl,q1,?_,q3⟩;rw[q2];have:ns.take (j+1)=ns.take j++[ns[j]]:=by rw[List.take_succ,List.getElem?_eq_getElem hlt];rfl
  rw[this,Zbn];have hl:(0+(ns.take j).length) % 7=j % 7:=by rw[List.length_take,Nat.min_eq_left (Nat.le_of_lt hlt),Nat.zero_add]
  rw[hl]
theorem ZiZ{a l:Addr}{fd:FuncData}{ns:List Int}{A:Around}{s:Shared}{Q E:VP}(T:FnAt C "_law_cells" (fnOf "_law_cells") a fd)(GK:GOK C gN)(hmg:C.mg "enumerate"=none)(hok:okFn (fnOf "_law_cells")=true)(hp:Zc (fnOf "_law_cells").params=[("script":Str)])
  (hlist:∀(st:St) (ρ:Rho) (s:Shared),HI C ρ st s→∃n us,s.heap.get? l=some (Zb us n)∧VRs ρ s.heap (numsV ns) us)(H:HI C [] ⟨[],0, .nil⟩ s)(hA:Room 61 A)
  (K:∀st' ρ' s' b,st'.n=1→st'.σ.get 0=some (AO.list (Z7 (Y2 ns)))→HI C ρ' st' s'→Ext C nox [] s ρ' s'→Zi ρ' 0=some b→Q (.ref b) s'):wpAny (model C.prog C.w) A (call (.ref a) [.ref l]) Q E s:=by
 refine ZfJ (n:=60) (x:="script") T hp (by kernel_rfl) hok H hA fun A' env s1 E' H1 F1 R1 k4 hA' back=>?_
 show wpAny (model C.prog C.w) A' (execs bodyC env) _ E' s1;refine(Zmg).symm▸?_;refine PySem.wpAny_execs_cons (PySem.wpAny_Assign_Name ?_ (by kernel_rfl))
 have hq:=Zm3 (fun v m n σ=>v= .ref 0∧n=1∧σ=puts [(0,AO.list lits7)]);have hex:(ev gN 50).ex namC lstC ⟨[],0, .nil⟩ (fun v st=>v= .ref 0∧st.n=1∧st.σ=puts [(0,AO.list lits7)]):=by
  rw[←ZlJ];exact hq.symm▸⟨rfl,rfl,rfl⟩
 refine(Zb2 GK 50).ex hex H1 F1 k4 (hA'.less (by decide)) fun v st2 ρ2 s2 x h2 H2 e2 r2 m2=>?_
 obtain⟨rfl,n2,σ2⟩:=h2;have F2:FI C env namC ρ2 [] s2:=F1.ext e2;have m2':st2.m=[]:=m2;have F2':FI C env namC ρ2 st2.m s2:=by refine(m2').symm▸?_;exact F2
 refine Zha H2 F2' (x:="script") (w:= .ref l) (by kernel_rfl) (by decide) r2 (R1.ext F1 e2) fun s3 H3 F3 e3 R3=>?_
 have j0:JC ns 0 {st2 with m:=[("cells", .ref 0)]}→True:=fun μ=>trivial;have W:WS {st2 with m:=[("cells", .ref 0)]} (mkSt 1 [(0, .list (Z7 Zb8))] [("cells", .ref 0)]):=by
  refine ws_of (st:={st2 with m:=[("cells", .ref 0)]}) (is:=[0]) (xs:=["cells"]) (os:=[some (AO.list lits7)]) (vs:=[some (V.ref 0)]) n2 ?_ rfl (.cons _ _ _ _ _ _ (.list _ _ ?_) .nil) (.cons _ _ _ _ _ _ (.refl _) .nil)
  ·show [st2.σ.get 0]=_;refine(σ2).symm▸?_;rfl
  ·have z:∀(x y:Int) (b:Nat),x=y→WV (.int x b) (.int y 0):=fun x y b e=> .int _ _ _ _ e fun h=>absurd rfl h;exact .cons _ _ _ _ (z _ _ _ rfl) (.cons _ _ _ _ (z _ _ _ rfl) (.cons _ _ _ _ (z _ _ _ rfl) (.cons _ _ _ _ (z _ _ _ rfl) (.cons _ _ _ _ (z _ _ _ rfl) (.cons _ _ _ _ (z _ _ _ rfl) (.cons _ _ _ _ (z _ _ _ rfl) .nil))))))
 have H4:=H3.weak W;have F4:FI C env namC ρ2 (mkSt 1 [(0, .list (Z7 Zb8))] [("cells", .ref 0)]).m s3:=FI.weak (st:={st2 with m:=[("cells", .ref 0)]}) F3 W;have e13:Ext C (own env namC) [] s1 ρ2 s3:=(e2.weaken fun μ h=>h.elim).trans e3;have hlen:(numsV ns).length=ns.length:=by simp[numsV]
 refine Zky (n:=60) (l:=l) (vs:=numsV ns) (J:=JC ns) (st:=mkSt 1 [(0, .list (Z7 Zb8))] [("cells", .ref 0)]) (k:=fun f st'=>f= .ret (.ref 0)∧st'.n=1∧st'.σ.get 0=some (AO.list (Z7 (Y2 ns)))) GK (by kernel_rfl) hmg hlist ⟨rfl,rfl,rfl⟩ (fun j v st hj hv=>?_) (fun st2 j2=>?_) H4 F4 k4 hA' (by kernel_rfl) R3 fun f fl st5 ρ5 s5 h5 H5 F5 e5 r5=>?_
 ·rw[asg_C];exact Zn6 GK hj hv
 ·refine ZbI (m:=50) GK (by decide) ?_
  have hc:lookS "cells" st2.m=some (.ref 0):=(List.cons.inj j2.2.2).1;have ho:st2.σ.get 0=some (AO.list (Z7 (Y2 ns))):=by
   have q:st2.σ.get 0=_:=(List.cons.inj j2.2.1).1;rw[q,hlen,List.take_length];rfl
  have hr:=Zmp st2 (fun v st'=>Fl.ret v= .ret (.ref 0)∧st'.n=1∧st'.σ.get 0=some (AO.list (Z7 (Y2 ns))));rw[hc]at hr;have hr2:_=(Fl.ret (.ref 0)=Fl.ret (.ref 0)∧st2.n=1∧st2.σ.get 0=some (AO.list (Z7 (Y2 ns)))):=hr;have h6:=hr2.symm▸(⟨rfl,j2.1,ho⟩:Fl.ret (.ref 0)=Fl.ret (.ref 0)∧st2.n=1∧st2.σ.get 0=some (AO.list (Z7 (Y2 ns))));exact h6
 ·obtain⟨rfl,n5,σ5⟩:=h5;cases r5 with|ret _ x r5=>
  cases r5 with|ref _ b hb=>
  exact⟨_,rfl,K st5 ρ5 s5 b n5 σ5 H5 (back _ _ (e13.trans e5)) hb⟩
end
end Mine
end
noncomputable section
open PySem PySem.W PyProof.Rows
namespace Mine
set_option backward.match.sparseCases false
theorem Zh9:(fnOf "law").body= .Assign [.Name "cells" ⟨260,4,260,9⟩] (.Call (.Name "_law_cells" ⟨260,12,260,22⟩) [.Name "script" ⟨260,23,260,29⟩] [] ⟨260,12,260,30⟩) ⟨260,4,260,30⟩::(lawS 1 8++rest8):=by kernel_rfl
section
variable{C:Ctx}
theorem ZmK{a ac l:Addr}{fd fdc:FuncData}{ns:List Int}{A:Around}{s:Shared}{Q E:VP}(T:FnAt C "law" (fnOf "law") a fd)(Tc:FnAt C "_law_cells" (fnOf "_law_cells") ac fdc)(GN:GOK C gN)(GA:∀q,GOK C (gA q))(GE:∀top,GOK C (gE top))
  (TR:∀p2 p3 p4,p2<2→p3<3→p4<4→TreeOK ⟨p2,p3,p4⟩)(AE:∀kind,kind<4→∀top,aEq kind top)(DE:detEq)(HE:chEq)(PE:dEq)(QE:cEq)(hmg:C.mg "enumerate"=none)
  (hlist:∀(st:St) (ρ:Rho) (s:Shared),HI C ρ st s→∃n us,s.heap.get? l=some (Zb us n)∧VRs ρ s.heap (numsV ns) us)(H:HI C [] ⟨[],0, .nil⟩ s)(hA:Room 661 A)
  (K:∀t ρ' st' s',HI C ρ' st' s'→Q (.bool t) s'∨t=false):wpAny (model C.prog C.w) A (call (.ref a) [.ref l]) Q E s:=by
 refine ZfJ (n:=660) (x:="script") T (by kernel_rfl) (by kernel_rfl) (by kernel_rfl) H (hA.less (by decide)) fun A' env s1 E' H1 F1 R1 k4 hA' back=>?_
 rw[Zh9];refine PySem.wpAny_execs_cons (PySem.wpAny_Assign_Name ?_ (by kernel_rfl))
 refine Call_Name rfl (Ju (v:= .ref ac) (by kernel_rfl) H1 F1 k4 (.inl Tc.glob) ?_)
 refine Zf (ZC (es:=[.Name "script" ⟨260,23,260,29⟩]) rfl) (Calls.spliced_cons (Zcs F1 k4 (by kernel_rfl) R1 (Calls.spliced_nil ⟨?_,?_⟩)))
 ·obtain⟨o,ho,hd⟩:=Tc.obj _ H1.old H1.inv;exact ZZ ho hd
 refine ZiZ Tc GN hmg (by kernel_rfl) (by kernel_rfl) hlist H1 (hA'.less (by decide)) fun st2 ρ2 s2 b n2 σ2 H2 e2 hb=>?_
 have F2:FI C env lawN ρ2 [] s2:=F1.ext e2;have H2':HI C ρ2 {st2 with m:=[]} s2:=H2.m [];refine Z5 (st:={st2 with m:=[]}) (k:=fun st'=>st'={st2 with m:=[("cells", .ref 0)]}) (v:= .ref 0) ?_ H2' F2 (.ref _ _ hb) fun st3 s3 h3 H3 F3 e3=>?_
 ·have:∀(st:St) (k:St→Prop),bindA lawN "cells" (.ref 0) st k=k {st with m:=updS "cells" (.ref 0) st.m}:=fun st k=>by kernel_rfl
  rw[this];rfl
 subst h3;have W:WS {st2 with m:=[("cells", .ref 0)]} (mkSt 1 [(0, .list (Z7 (Y2 ns)))] [("cells", .ref 0)]):=by
  refine ws_of (st:={st2 with m:=[("cells", .ref 0)]}) (is:=[0]) (xs:=["cells"]) (os:=[some (AO.list (Z7 (Y2 ns)))]) (vs:=[some (V.ref 0)]) n2 ?_ rfl (.cons _ _ _ _ _ _ (.refl _) .nil) (.cons _ _ _ _ _ _ (.refl _) .nil);show [st2.σ.get 0]=_;rw[σ2]
 refine(Zej W (c_A (C:=C) (c:=Y2 ns) GA GE TR AE DE HE PE QE)) A' env ρ2 s3 _ _ H3 F3 k4 (hA'.less (by decide)) fun v x ρ' st' s' hz H' r=>?_
 have hv:v= .bool true:=hz;subst hv;cases r with|bool _=>
 refine⟨_,rfl,?_⟩;rcases K true ρ' st' s' H' with h|h
 ·exact h
 ·exact tfB h
end
end Mine
end
noncomputable section
open PySem PyProof.Rows
namespace Mine
set_option backward.match.sparseCases true
noncomputable abbrev RE:=Lean.Grind.CommRing.Expr
noncomputable def sgnE(b:Bool):Int:=match b with
 |true=> -1
 |false=>1
noncomputable def shpF(x:Nat→Nat→RE):Nat→List Nat→RE
 |0,_=> .num 1
 |n+1,ks=>(ks.foldl (fun o k=>(.add o.1 (.mul (.mul (.num (sgnE o.2)) (x n k)) (shpF x n (ks.filter fun j=>!(Nat.beq j k)))),!o.2)) ((.num 0:RE),false)).1
noncomputable def varE(k:Nat):RE:= .var k
noncomputable def dsE:List Nat→RE
 | []=> .num 0
 |k::r=> .add (varE (k-1)) (dsE r)
noncomputable def dE(t:Tree):RE:=shpF (fun i j=>match Yj 10 i j pairs with
 |true=>dsE (ksOf t (min i j,max i j))
 |false=> .num 0) 5 [4,3,2,1,0]
noncomputable def tgtE:RE:= .mul (.mul (.mul (.mul (.mul (.num 8) (.add (.add (.add (.add (.num 0) (varE 0)) (varE 1)) (varE 2)) (varE 3))) (varE 0)) (varE 1)) (varE 2)) (varE 3)
noncomputable def mE(t:Tree):RE:=shpF (fun i j=>match Nat.beq i j with
 |true=>varE i
 |false=>varE (Za5 t (min i j,max i j))) 5 [4,3,2,1,0]
noncomputable def dueE(t:Tree):RE:= .mul (.mul (.mul (.mul (varE 0) (.sub (varE 1) (varE (par t 1)))) (.sub (varE 2) (varE (par t 2)))) (.sub (varE 3) (varE (par t 3)))) (.sub (varE 4) (varE (par t 4)))
noncomputable def c4(a b c d:Int):Lean.RArray Int:= .branch 2 (.branch 1 (.leaf a) (.leaf b)) (.branch 3 (.leaf c) (.leaf d))
noncomputable def c5(p:Nat→Int):Lean.RArray Int:= .branch 2 (.branch 1 (.leaf (p 0)) (.leaf (p 1))) (.branch 3 (.leaf (p 2)) (.branch 4 (.leaf (p 3)) (.leaf (p 4))))
theorem peq{x y:RE}(h:x.toPoly_k.beq' y.toPoly_k=true)(c:Lean.RArray Int):x.denote c=y.denote c:=by
 rw[Lean.Grind.CommRing.Poly.beq'_eq,Lean.Grind.CommRing.Expr.toPoly_k_eq_toPoly,Lean.Grind.CommRing.Expr.toPoly_k_eq_toPoly]at h;rw[←Lean.Grind.CommRing.Expr.denote_toPoly,←Lean.Grind.CommRing.Expr.denote_toPoly,h]
theorem ZnV(a b c d:Int):tgtE.denote (c4 a b c d)=8*(0+a+b+c+d)*a*b*c*d:=by kernel_rfl
noncomputable def wyL(t:Tree)(top:Bool)(e:Nat):=fun(a b c d h l:Int) (on to:Nat→List V) (K:KO)=>
 (evF (gE top) 560).ss lawN bodyE (stWay t top ⟨⟨a,b,c,d⟩,h,l,on,to⟩ e [("near", .lit (Zj e).1),("far", .lit (Zj e).2)]) (kO idxE (xsE++[("near":Str)]) K)
noncomputable def wyR(t:Tree)(top:Bool)(e:Nat):=fun(a b c d h l:Int) (on to:Nat→List V) (K:KO)=>
 ((roomO ⟨⟨a,b,c,d⟩,h,l,on,to⟩∧K (40+12*(e+1)) ((rawO t top ⟨⟨a,b,c,d⟩,h,l,on,to⟩ e).map some) ((vsE ⟨⟨a,b,c,d⟩,h,l,on,to⟩++[V.lit (Zj e).1]).map some)):Prop)
theorem wy_of{t:Tree}{top:Bool}{e:Nat}(hE:wyL t top e=wyR t top e):wayEq t top e:=fun a b c d h l on to K=>congrArg (fun f=>f a b c d h l on to K) hE
noncomputable def nmL(t:Tree)(top:Bool):=fun(a b c d h l:Int) (cs:Nat→Int) (K:KO)=>
 (evF (gE top) 560).ss lawN (lawS 8 11) (stB t top ⟨a,b,c,d⟩ h l cs) (kO [0,1,2,3,4] xsB K)
noncomputable def nmR(t:Tree)(top:Bool):=fun(a b c d h l:Int) (cs:Nat→Int) (K:KO)=>
 (K 11 ((objB t ⟨a,b,c,d⟩ cs++[rowV (nameV t top)]).map some) ([V.ref 3, .ref 0, .int h 4, .int l 3, .ref 1, .ref 2, .ref 4].map some):Prop)
theorem nm_of{t:Tree}{top:Bool}(hE:nmL t top=nmR t top):bEq t top:=fun a b c d h l cs K=>congrArg (fun f=>f a b c d h l cs K) hE
noncomputable def txL(t:Tree):=fun(a b c d h l:Int) (on to:Nat→List V) (K:KO)=>
 (evF (gE true) 560).ss lawN (lawS 20 22) (stG t ⟨⟨a,b,c,d⟩,h,l,on,to⟩) (kO idxG' xsG' K)
noncomputable def txR(t:Tree):=fun(a b c d h l:Int) (on to:Nat→List V) (K:KO)=>
 (((!(strEq (textW t ⟨a,b,c,d⟩) (textW t ⟨a,b,c,d⟩)))=false∧(!(strEq ⟨(joinL [47] ((Yk [32,32] 2 (Zao t ⟨a,b,c,d⟩ 10)).map fun x=>x.1)).toArray⟩ (appF (textW t ⟨a,b,c,d⟩) "  ")))=false∧
  K 160 ((objG' t ⟨⟨a,b,c,d⟩,h,l,on,to⟩ (gapV t ⟨a,b,c,d⟩ 10) (meetV t 10) (rowsW t ⟨a,b,c,d⟩ 10)).map some) ((vsG'++[V.str (textW t ⟨a,b,c,d⟩) (YN (Zao t ⟨a,b,c,d⟩ 10)*2)]).map some)):Prop)
theorem tx_of{t:Tree}(hE:txL t=txR t):Zlg t:=fun a b c d h l on to K=>congrArg (fun f=>f a b c d h l on to K) hE
noncomputable def smL(t:Tree):=fun(a b c d:Int) (on to:Nat→List V) (x:Nat→Nat→Int) (y:Nat→Nat→V) (tx:Str) (r:Nat→Str) (K:KO)=>
 (evF (gE true) 560).ss lawN (lawS 22 30) (stF3 t ⟨a,b,c,d⟩ tx on to (ivR 21 x) y r) (kO idxF (xsF++[("whole":Str)]) K)
noncomputable def smR(t:Tree):=fun(a b c d:Int) (on to:Nat→List V) (x:Nat→Nat→Int) (y:Nat→Nat→V) (tx:Str) (r:Nat→Str) (K:KO)=>
 (((!(decide ((Zm tx.cps.toList 47:Int)=9)&&(decide ((Zm tx.cps.toList 98:Int)=prtN t 1)&&(decide ((Zm tx.cps.toList 99:Int)=prtN t 2)&&(decide ((Zm tx.cps.toList 100:Int)=prtN t 3)&&(decide ((Zm tx.cps.toList 101:Int)=prtN t 4)&&true))))))=false∧
 (!(decide ((tx.length:Int)-9=0+a*prtN t 1+b*prtN t 2+c*prtN t 3+d*prtN t 4)))=false∧
 (!(strEq tx ⟨(joinL [47] (rwS r)).toArray⟩))=false∧
 (!(decide (YF t (x 0)=ZQ ⟨a,b,c,d⟩)&&(decide (YF t (x 1)=ZQ ⟨a,b,c,d⟩)&&(decide (YF t (x 2)=ZQ ⟨a,b,c,d⟩)&&(decide (YF t (x 3)=ZQ ⟨a,b,c,d⟩)&&(decide (YF t (x 4)=ZQ ⟨a,b,c,d⟩)&&true))))))=false∧
 K 49 ((objF t ⟨a,b,c,d⟩ on to (ivR 21 x) y).map some) ((vsF++[V.int (ZQ ⟨a,b,c,d⟩) 21]).map some)):Prop)
theorem sm_of{t:Tree}(hE:smL t=smR t):Zli t:=fun a b c d on to x y tx r K=>congrArg (fun f=>f a b c d on to x y tx r K) hE
noncomputable def ptL(t:Tree):=fun(w:Wts) (p:Nat→Nat→Int) (x:Nat→Nat→V) (K:V→Prop)=>
 (evF (gE true) 560).ss lawN (lawS 32 34) (stP t w p x) (endK K)
noncomputable def ptR(t:Tree):=fun(w:Wts) (p:Nat→Nat→Int) (x:Nat→Nat→V) (K:V→Prop)=>
 (((!(decide (detX (Zak t fun k=>p k 0)=dueP t fun k=>p k 0)))=false∧(!(decide (detX (Zak t fun k=>p k 1)=dueP t fun k=>p k 1)))=false∧(!(decide (detX (Zak t fun k=>p k 2)=dueP t fun k=>p k 2)))=false∧K (.bool true)):Prop)
theorem pt_of{t:Tree}(hE:ptL t=ptR t):ZhI t:=fun w p x K=>congrArg (fun f=>f w p x K) hE
noncomputable def dtL(t:Tree):=fun(a b c d:Int)=>detX (gapI t ⟨a,b,c,d⟩)
noncomputable def dtR(t:Tree):=fun(a b c d:Int)=>(dE t).denote (c4 a b c d)
noncomputable def mtL(t:Tree):=fun(p:Nat→Int)=>detX (Zak t p)
noncomputable def mtR(t:Tree):=fun(p:Nat→Int)=>(mE t).denote (c5 p)
noncomputable def duL(t:Tree):=fun(p:Nat→Int)=>(dueE t).denote (c5 p)
noncomputable def chkP(t:Tree):Prop:=((dE t).toPoly_k.beq' tgtE.toPoly_k=true∧(mE t).toPoly_k.beq' (dueE t).toPoly_k=true)∧(∀e,e<10→(ksOf t (Zj e)).length≤4)∧(∀ks∈waysL t,in4 ks=true)∧(∀i,i<5→∀j,j<5→Yj 10 i j pairs=true→Mine.in4 (ksOf t (min i j,max i j))=true)∧
 ((cntS 1 (waysL t):Int)=prtN t 1∧(cntS 2 (waysL t):Int)=prtN t 2∧(cntS 3 (waysL t):Int)=prtN t 3∧(cntS 4 (waysL t):Int)=prtN t 4)∧
 (∀i,i<5→∀k,k<5→k≠0→(cij t k i 0:Int)*(2-(tieN t 0:Int))+cij t k i 1*(2-(tieN t 1:Int))+cij t k i 2*(2-(tieN t 2:Int))+cij t k i 3*(2-(tieN t 3:Int))+cij t k i 4*(2-(tieN t 4:Int))=1)
noncomputable def chkI(t:Tree):Decidable (chkP t):=by delta chkP;infer_instance
noncomputable def chkT(t:Tree):Bool:=@decide (chkP t) (chkI t)
theorem Zec{t:Tree}(hw:∀b,(List.range 10).map (wyL t b)=(List.range 10).map (wyR t b))(hn:∀b,nmL t b=nmR t b)(ht:txL t=txR t)(hs:smL t=smR t)(hp:ptL t=ptR t)(hd:dtL t=dtR t)(hm:mtL t=mtR t)(hu:duL t=dueP t)(hk:chkT t=true):TreeOK t:=
 have hc:chkP t:=@of_decide_eq_true (chkP t) (chkI t) hk
 {
 ways:=fun b=>by
  have h:=List.map_inj_left.mp (hw b);exact⟨wy_of (h 0 (by decide)),wy_of (h 1 (by decide)),wy_of (h 2 (by decide)),wy_of (h 3 (by decide)),wy_of (h 4 (by decide)),wy_of (h 5 (by decide)),wy_of (h 6 (by decide)),wy_of (h 7 (by decide)),wy_of (h 8 (by decide)),wy_of (h 9 (by decide))⟩
 names:=fun b=>nm_of (hn b)
 text:=tx_of ht
 sums:=sm_of hs
 paint:=pt_of hp
 len4:=hc.2.1
 in4:=hc.2.2.1
 in4':=hc.2.2.2.1
 prt:=hc.2.2.2.2.1
 row:=hc.2.2.2.2.2
 det:=fun a b c d=>(congrArg (fun f=>f a b c d) hd).trans ((peq hc.1.1 _).trans (ZnV a b c d))
 meet:=fun p=>(congrFun hm p).trans ((peq hc.1.2 _).trans (congrFun hu p))}
section
local macro_rules
 | `(tactic|trivial)=> `(tactic|exact Zec (by intro b;cases b<;>kernel_rfl) (by intro b;cases b<;>kernel_rfl) (by kernel_rfl) (by kernel_rfl) (by kernel_rfl) (by kernel_rfl) (by kernel_rfl) (by kernel_rfl) (by kernel_rfl))
theorem t000:TreeOK ⟨0,0,0⟩:=by trivial
theorem t001:TreeOK ⟨0,0,1⟩:=by trivial
theorem t002:TreeOK ⟨0,0,2⟩:=by trivial
theorem t003:TreeOK ⟨0,0,3⟩:=by trivial
theorem t010:TreeOK ⟨0,1,0⟩:=by trivial
theorem t011:TreeOK ⟨0,1,1⟩:=by trivial
theorem t012:TreeOK ⟨0,1,2⟩:=by trivial
theorem t013:TreeOK ⟨0,1,3⟩:=by trivial
end
section
local macro_rules
 | `(tactic|trivial)=> `(tactic|exact Zec (by intro b;cases b<;>kernel_rfl) (by intro b;cases b<;>kernel_rfl) (by kernel_rfl) (by kernel_rfl) (by kernel_rfl) (by kernel_rfl) (by kernel_rfl) (by kernel_rfl) (by kernel_rfl))
theorem t020:TreeOK ⟨0,2,0⟩:=by trivial
theorem t021:TreeOK ⟨0,2,1⟩:=by trivial
theorem t022:TreeOK ⟨0,2,2⟩:=by trivial
theorem t023:TreeOK ⟨0,2,3⟩:=by trivial
theorem t100:TreeOK ⟨1,0,0⟩:=by trivial
theorem t101:TreeOK ⟨1,0,1⟩:=by trivial
theorem t102:TreeOK ⟨1,0,2⟩:=by trivial
theorem t103:TreeOK ⟨1,0,3⟩:=by trivial
end
section
local macro_rules
 | `(tactic|trivial)=> `(tactic|exact Zec (by intro b;cases b<;>kernel_rfl) (by intro b;cases b<;>kernel_rfl) (by kernel_rfl) (by kernel_rfl) (by kernel_rfl) (by kernel_rfl) (by kernel_rfl) (by kernel_rfl) (by kernel_rfl))
theorem t110:TreeOK ⟨1,1,0⟩:=by trivial
theorem t111:TreeOK ⟨1,1,1⟩:=by trivial
theorem t112:TreeOK ⟨1,1,2⟩:=by trivial
theorem t113:TreeOK ⟨1,1,3⟩:=by trivial
theorem t120:TreeOK ⟨1,2,0⟩:=by trivial
theorem t121:TreeOK ⟨1,2,1⟩:=by trivial
theorem t122:TreeOK ⟨1,2,2⟩:=by trivial
theorem t123:TreeOK ⟨1,2,3⟩:=by trivial
end
theorem a0t:aEq 0 true:=fun c a2 a3 a4 h l K=>by kernel_rfl
theorem a0f:aEq 0 false:=fun c a2 a3 a4 h l K=>by kernel_rfl
theorem a1t:aEq 1 true:=fun c a2 a3 a4 h l K=>by kernel_rfl
theorem a1f:aEq 1 false:=fun c a2 a3 a4 h l K=>by kernel_rfl
theorem a2t:aEq 2 true:=fun c a2 a3 a4 h l K=>by kernel_rfl
theorem a2f:aEq 2 false:=fun c a2 a3 a4 h l K=>by kernel_rfl
theorem a3t:aEq 3 true:=fun c a2 a3 a4 h l K=>by kernel_rfl
theorem a3f:aEq 3 false:=fun c a2 a3 a4 h l K=>by kernel_rfl
theorem aAll(kind:Nat)(h:kind<4)(top:Bool):aEq kind top:=by
 match kind,h,top with
 |0,_,true=>exact a0t
 |0,_,false=>exact a0f
 |1,_,true=>exact a1t
 |1,_,false=>exact a1f
 |2,_,true=>exact a2t
 |2,_,false=>exact a2f
 |3,_,true=>exact a3t
 |3,_,false=>exact a3f
theorem eqC:cEq:=fun ls c vs K=>by kernel_rfl
theorem eqD:dEq:=fun ls h l K=>by kernel_rfl
theorem yCh:chEq:=fun l W K=>by kernel_rfl
theorem yDet:detEq:=fun t a b c d W on to x y K=>by kernel_rfl
noncomputable def T3(a b:Nat):Prop:=∀c,c<4→TreeOK ⟨a,b,c⟩
theorem T3_of{a b:Nat}(h0:TreeOK ⟨a,b,0⟩)(h1:TreeOK ⟨a,b,1⟩)(h2:TreeOK ⟨a,b,2⟩)(h3:TreeOK ⟨a,b,3⟩):T3 a b:=ltS (P:=fun c=>TreeOK ⟨a,b,c⟩) (ltS (ltS (ltS lt0 h0) h1) h2) h3
noncomputable def T2(a:Nat):Prop:=∀b,b<3→T3 a b
theorem T2_of{a:Nat}(h0:T3 a 0)(h1:T3 a 1)(h2:T3 a 2):T2 a:=ltS (ltS (ltS lt0 h0) h1) h2
theorem trAll(p2 p3 p4:Nat)(h2:p2<2)(h3:p3<3)(h4:p4<4):TreeOK ⟨p2,p3,p4⟩:=
 ltS (P:=T2) (ltS lt0 (T2_of (T3_of t000 t001 t002 t003) (T3_of t010 t011 t012 t013) (T3_of t020 t021 t022 t023))) (T2_of (T3_of t100 t101 t102 t103) (T3_of t110 t111 t112 t113) (T3_of t120 t121 t122 t123)) p2 h2 p3 h3 p4 h4
end Mine
end
noncomputable section
open PySem PySem.W PyProof.Rows
namespace Mine
set_option backward.match.sparseCases false
theorem ZoH{C:Ctx}(L:LE C){l:Addr}{ns:List Int}{A:Around}{s:Shared}{Q E:VP}
  (hlist:∀(st:St) (ρ:Rho) (s:Shared),HI C ρ st s→∃n us,s.heap.get? l=some (Zb us n)∧VRs ρ s.heap (numsV ns) us)(H:HI C [] ⟨[],0, .nil⟩ s)(hA:Room 661 A)
  (K:∀ρ' st' s',HI C ρ' st' s'→Q (.bool true) s'):wpAny (model C.prog C.w) A (call (.ref 308) [.ref l]) Q E s:=by
 obtain⟨fd,Y⟩:=L.law;obtain⟨fdc,Yc⟩:=L.cells;refine ZmK Y Yc (gok_N L) (fun μ=>gok_A L) (gok_E L) trAll aAll yDet yCh eqD eqC L.enum hlist H hA fun t ρ' st' s' H'=>?_;cases t with
 |true=>exact .inl (K ρ' st' s' H')
 |false=>exact .inr rfl
set_option backward.match.sparseCases true
set_option tactic.hygienic true in
theorem cf_mg{K:Frag}{h:Heap}{N:Addr}{mg:Str→Option Value}(X:K.In h)(G:h.Ns N mg){n:Str}{r:Option Value}(e:nsIn K N n=some r):mg n=r:=by
 cases r with
 |none=>exact ns_none_of X G e
 |some v=>
  obtain⟨o,es,ep,ho,hd,_,hf⟩:=G
  delta nsIn at e
  split at e
  ·rename_i c d es' n' sl q;have:=X _ _ q;rw[ho]at this;cases this;cases hd;split at e
   ·rename_i en he;rw[←hf]
    delta nsFind findBy
    rw[←Array.find?_toList,he];cases e;rfl
   ·split at e<;>cases e
  ·exact nnO e
noncomputable def ctx0(prog:Program)(w:World)(base:Heap)(os:OsState)(K:Frag)(T:List (Addr×Addr))(mg mb:Str→Option Value)(g:base.Ns mainGlobals mg)(b:base.Ns builtinsNs mb)(bi:∀x:Str,x≠"__name__"→mb x=bootBuiltins x)
  (last:∃n o,base.objs.size=n+1∧base.get? n=some o)(X:K.In base)(NL:base.NoLimit)(TT:∀p∈T,Tab base p):Ctx where
 prog:=prog
 w:=w
 base:=base
 os:=os
 inv:=fun h=>K.In h∧h.NoLimit∧∀p∈T,Tab h p
 inv_step:=fun h h' i k=>by
  obtain⟨i1,i2,i3⟩:=i;refine⟨fun a o e=>k a o (i1 a o e) (Heap.lt_size (X a o e)),?_,fun p hp=>?_⟩
  ·obtain⟨mc,hn,q⟩:=i2;obtain⟨_,hn0,_⟩:=NL;obtain⟨o0,_,_,ho0,_⟩:=hn0;exact⟨mc,ns_at hn fun o e=>k _ o e (Heap.lt_size ho0),q⟩
  ·exact(i3 p hp).imp fun ps t=>⟨k _ _ t.1 ((TT p hp).elim fun μ t=>Heap.lt_size t.1),t.2⟩
 mg:=mg
 mb:=mb
 g:=g
 b:=b
 lim:=fun h i=>i.2.1
 bi:=bi
 last:=last
 xr:=fun μ μ μ μ=>False
 xr_live:=fun μ μ μ μ h=>h.elim
 xr_step:=fun μ μ μ μ μ μ h=>h.elim
theorem Zex{K:Frag}{a:Addr}{o:Obj}(e:(dropT K).lookup a=some o):K.lookup a=some o∧a≠197∧a≠204:=by
 induction K with
 |nil=>exact nnO e
 |cons p r ih=>
  obtain⟨b,q⟩:=p;unfold dropT at e ih;rw[List.filter_cons]at e;cases hb:(Nat.beq b 197 || Nat.beq b 204)with
  |true=>
   rw[hb]at e;obtain⟨h1,h2,h3⟩:=ih e;refine⟨?_,h2,h3⟩;have hn:a≠b:=by
    rintro rfl
    rw[Bool.or_eq_true]at hb;rcases hb with h|h
    ·exact h2 (Nat.eq_of_beq_eq_true h)
    ·exact h3 (Nat.eq_of_beq_eq_true h)
   rw[List.lookup_cons,beq_false_of_ne hn];exact h1
  |false=>
   rw[hb]at e;have e':((b,q)::r.filter fun p=>!(Nat.beq p.1 197 || Nat.beq p.1 204)).lookup a=some o:=e;rw[List.lookup_cons]at e' ⊢;cases hab:a==b with
   |true=>
    rw[hab]at e';have:=eq_of_beq hab;subst this;rw[Bool.or_eq_false_iff]at hb;exact⟨e',Nat.ne_of_beq_eq_false hb.1,Nat.ne_of_beq_eq_false hb.2⟩
   |false=>
    rw[hab]at e';exact ih e'
theorem Zo1{p:Params}:∀q∈TB,(KK p).lookup q.2=none:=fun q hq=>by
 rcases List.mem_cons.mp hq with e|hq
 ·exact e▸(by kernel_rfl:(KK p).lookup 197=none)
 ·exact List.mem_singleton.mp hq▸(by kernel_rfl:(KK p).lookup 204=none)
theorem Zm1{ρ:Rho}{h:Heap}{vs:List Value}{ns:List Int}(w:IntsAre vs ns):VRs ρ h (numsV ns) vs:=by
 induction w with
 |nil=>exact .nil
 |cons n t _ ih=>exact .cons _ _ _ _ (.int n 0 t fun h=>absurd rfl h) ih
theorem ZmL{prog:Program}{w:World}{s:Shared}{p:Params}{mg mb:Str→Option Value}{vals:List Value}{ns:List Int}{Q E:VP}(KX:(KH.K p).In s.heap)(hgens:s.gens= #[])(g:s.heap.Ns mainGlobals mg)(b:s.heap.Ns builtinsNs mb)(NL:s.heap.NoLimit)(bi:∀x:Str,x≠"__name__"→mb x=bootBuiltins x)
  (hsz:s.heap.objs.size=309+1)(ho:s.heap.get? 309=some (Zb vals 0))(hI:IntsAre vals ns)(hT:∀h,(KH.K p).In h→∀q∈TB,Tab h q)(hfile:((prog.main.file:Str)==("/claim/cut.py":Str))=true)(htop:(prog.main.scope.names.lookup ("super":Str)).isSome=false)
  (LEK:∀C:Ctx,PG (CC C) p→LE (CC C))
  (hQ:∀s',OldK s.heap s'.heap→s'.os=s.os→AllBare s'.gens→Q (.bool true) s'):wpAny (model prog w) callerA (call (.ref 308) [.ref 309]) Q E s:=by
 have X:(KK p).In s.heap:=fun a o e=>KX a o (Zex e).1;have TT:=hT _ KX
 let C0:Ctx:=ctx0 prog w s.heap s.os (KK p) TB mg mb g b bi ⟨309,_,hsz,ho⟩ X NL TT
 have lt:∀p∈TB,p.1<310∧p.2<310∧p.2≠cStatics:=by decide
 have PK:PF C0 (KK p) TB:=by
  refine⟨fun h=>Iff.rfl,fun p hp=>?_,fun p hp=>?_,fun p hp=>?_,?_⟩
  ·obtain⟨h1,h2,h3⟩:=lt p hp;exact⟨hsz▸h1,hsz▸h2,h3⟩
  ·exact Zo1 p hp
  ·exact(tabK hp X (TT p hp)).imp fun ps h=>h.2
  ·decide
 have G:PG (CC C0) p:=⟨⟨PK.inv,PK.lo,PK.far,PK.tab,PK.apart⟩,⟨fun nm r e=>cf_mg X g e,hfile,htop⟩⟩;have L:=LEK C0 G;have H:HI (CC C0) [] ⟨[],0, .nil⟩ s:={
  old:=OldK.refl _
  inv:=⟨X,NL,TT⟩
  os:=rfl
  gens:=AllBare.of_eq hgens
  nod:=List.nodup_nil
  lo:=fun μ h=>by cases h
  live:=fun μ h=>by cases h
  gnod:=List.nodup_nil
  ghi:=fun μ h=>by cases h
  len:=rfl
  dom:=fun i o e=>by rw[Tr.get_nil]at e;exact nnO e
  sto:=fun i o e=>by rw[Tr.get_nil]at e;cases e}
 refine ZoH (C:=CC C0) L (ns:=ns) (fun st ρ s' H'=>⟨0,vals,?_,Zm1 hI⟩) H ⟨by decide+kernel,by decide+kernel,rfl⟩ fun ρ' st' s' H'=>hQ s' H'.old H'.os H'.gens
 exact H'.old.get_of_cls ho (by simp)
section
noncomputable def ZhS(K:Frag)(n:Str):Bool:=match nsIn K mainGlobals n with
 |some none=>true
 |_=>false
theorem Zet{K:Frag}{n:Str}(h:ZhS K n=true):nsIn K mainGlobals n=some none:=by
 unfold ZhS at h;split at h
 ·assumption
 ·cases h
variable{C:Ctx}{p:Params}
theorem y_grp(PK:PG C p):∃fd,FnAt C "_grouping_intervals" (fnOf "_grouping_intervals") 246 fd:=
 ⟨_,ZV PK.pf (PK.cf.mg _ _ rfl) rfl (by kernel_rfl) (by kernel_rfl) rfl rfl rfl (by kernel_rfl) (vl1 (by kernel_rfl) fun μ=>rfl)⟩
theorem x_chr(PK:PG C p):∃t,C.mg "CHAR_MAX"=some (.int 127 t):=⟨_,PK.cf.mg _ _ rfl⟩
theorem x_nob(PK:PG C p):∀q∈ZP,C.mg q.1=none:=fun q hq=>
 PK.cf.mg _ _ (Zet (List.all_eq_true.mp (by kernel_rfl:(ZP.all fun q=>ZhS (KK p) q.1)=true) q hq))
theorem ZnI(PK:PG C p):C.mg "enumerate"=none:=PK.cf.mg _ _ rfl
theorem x_tab(h:Heap)(X:(KH.K p).In h):∀q∈TB,Tab h q:=fun q hq=>by
 rcases List.mem_cons.mp hq with e|hq
 ·exact e▸⟨_,X 197 _ rfl,trivial⟩
 ·exact List.mem_singleton.mp hq▸⟨_,X 204 _ rfl,trivial⟩
theorem x_le(PK:PG (CC C) p):LE (CC C) where
 own:=y_own PK
 det:=y_det PK
 yiq:=y_yiq PK
 rgb:=y_rgb PK
 dm:=y_dm PK
 reach:=ZlY PK
 loc:=y_loc PK
 row:=y_row PK
 doors:=ZlZ PK
 way:=y_way PK
 told:=ZnG PK
 sizes:=ZlX PK
 grp:=y_grp PK
 chr:=x_chr PK
 cells:=Zl0 PK
 hdn:=y_hdn PK
 law:=y_law PK
 meth:=ZnH PK
 con:=Zgw PK
 re:=x_re PK
 nob:=x_nob PK
 enum:=ZnI PK
 nxt:=fun h H r hA K=>Zoq PK h H r hA K
end
end Mine
end
noncomputable section
open PySem PySem.W PyProof.Rows PySem.W.X
namespace Mine
set_option backward.match.sparseCases true
theorem said1:namesResolve KH.pr=true:=by kernel_rfl
theorem said2:noRoadLSs {strict:=!(importedModules KH.pr.main.body).all cThrough.contains,foot:=none,bare:=(["vars","dir","locals"]:List Str).filter (readsOut KH.pr KH.pr.main.body)} KH.pr.main.body=true:=by kernel_rfl
theorem said3:looksOpen KH.pr=true:=by
 delta looksOpen
 rewrite [said2,said1]
 kernel_rfl
theorem said4:PySem.Challenge.rw_xr0023_01.row.wellSaid=true:=by
 delta OpenRow.wellSaid OpenRow.partSaid
 rewrite [show looksOpen PySem.Challenge.rw_xr0023_01.row.prog=true from said3]
 kernel_rfl
theorem said5:PySem.Challenge.rw_xr0023_01.wellSaid=true:=by
 delta OpenLaw.wellSaid
 rewrite [said4]
 kernel_rfl
end Mine
end
open PySem PySem.W PyProof.Rows PySem.W.X Mine
theorem PySem.Challenge.cw_xr0023_01_holds : PySem.Challenge.rw_xr0023_01.Holds := by
 w_on
 refine holds_law said5 fun said=>?_;refine holds_openX (q:=KH.qv) (loose:=KH.loose) (XP:=XL KH.qv []) (d:=KH.defD (KH.F 28)) (kwd:=[]) KH.hl (fun s e=>xl_of s (Bool.and_eq_true_iff.mp e).1) XL.keeps (by kernel_rfl) (by kernel_rfl) (by kernel_rfl) (fun s e=>recFacts_of (Bool.and_eq_true_iff.mp e).2) (by rfl) said (by kernel_rfl) ⟨rfl,rfl,rfl,rfl,rfl,by decide+kernel⟩ ?hw ?hc
 case hw=>w_witness2
 intro w s₀ s₁ mg mb G y fa o pm cd doc dV kV ho hd hcd hD hmg hg args vals as L hpre hlay hrd hwl hlo;obtain⟨ZA,ZI,ZN,ZT⟩:=z_facts KH.keys y;have KX:(KH.K w.params).In s₁.heap:=InK.keeps w _ _ ZI L.keeps;refine Ground.open G ?_;intro T B D TE TW
 wrow_args hpre hlay hrd hwl hlo
 obtain⟨hat,hsz⟩:=script_at L;rw[ZN]at hat hsz;subst hat;have e1:mg "law"=some (.ref 308):=mg_of KX T.g (by kernel_rfl)
 cases hmg.symm.trans e1;exact ZmL KX hg T.g T.b T.nolimit T.builtins hsz (script_obj L ‹s₁.heap.IsList 309 _›) ‹IntsAre _ _› (fun h X=>x_tab h X) (by kernel_rfl) (by kernel_rfl) (fun C PK=>x_le PK) fun s' h1 h2 h3=>⟨.inl ⟨.bool true, .bool true,[],rfl,fun _=>rfl, .bool true,(by first|rfl|wrow_post),fun _=>⟨List.nodup_nil,fun _ hm=>(nomatch hm)⟩⟩,h1,h2,h3⟩
