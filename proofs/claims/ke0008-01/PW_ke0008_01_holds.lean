import PyProof.Rows.All
import PyProof.EqAt
import KE.KxBytes
import KE.BytesMake
import KE.BytesMulAny
import KE.KBits
import KE.KBytesWalk
import KE.KIsBytes
import KE.KPar
import KE.KRevIter
import KE.KRevSl
import Wide.FinOn
import OpenK.AllK
import Wide.All
import Lean
import PySem.Challenge.RW_ke0008_01
set_option linter.unusedVariables false
set_option maxRecDepth 100000
set_option Elab.async false
set_option maxHeartbeats 0
set_option genSizeOf false
set_option genInjectivity false
set_option bootstrap.genMatcherCode false
set_option tactic.hygienic false
namespace Internal
section
open PySem PySem.W PyProof.Rows
set_option backward.match.sparseCases false
section
noncomputable abbrev pw:Program:=PySem.Challenge.pw_ke0008_01
noncomputable def S(x:String):Str:=Str.ofString x
noncomputable def vs(x:String)(t:Nat):Value:=.str (Str.ofString x) t
noncomputable def vi(i:Int)(t:Nat):Value:=.int i t
noncomputable def vr(a:Nat):Value:=.ref a
noncomputable def vt(n:String):Value:=.type n
noncomputable def vb(n:String):Value:=.builtin n
noncomputable def en(P:Params)(x:String)(t:Nat)(v:Value):DictEntry:=⟨PyData.keyHash P (Str.ofString x),.str (Str.ofString x) t,v⟩
noncomputable def nth:List Stmt->Nat->Stmt
 | [],_1=>.Pass default
 | s::_,0=>s
 | _1::r,n+1=>nth r n
noncomputable def top(i:Nat):Stmt:=nth pw.main.body i
noncomputable def sP:Stmt->Expr×List Stmt
 | .For _1 e b _2 _3=>(e,b)
 | .While e b _1 _2=>(e,b)
 | .If e b _1 _2=>(e,b)
 | .Assign _1 e _2=>(e,[])
 | .FunctionDef _1 _2 b _3 _4 _5 _6 _7 _8 _9=>(default,b)
 | .ClassDef _1 _2 _3 b _4 _5 _6 _7 _8 _9 _10=>(default,b)
 | _1=>(default,[])
noncomputable def sub(i j:Nat):Stmt:=nth (sP (top i)).2 j
noncomputable def fnd(st:Stmt)(q:String)(g:Nat)(cl:List (Str×Nat))(d kd doc md:Value)(an:Option Nat)(cd ct:Value)(b:Nat):Data:=match st with
 | .FunctionDef n ps bd _1 _2 _3 sc _4 _5 _6=>.func { name:=n,qualname:=Str.ofString q,params:=ps,body:=.stmts bd,scope:=sc,globals:=g,closure:=cl,defaults:=d,kwdefaults:=kd,doc:=doc,pyModule:=md,annotations:=an,code:=cd,closureTuple:=ct,builtins:=b }
 | _1=>.plain
noncomputable def cut(l:List Stmt)(a n:Nat):List Stmt:=(l.drop a).take n
noncomputable def env:Env:={ scope:=pw.main.scope,locals:=mainNs,globals:=mainNs,cells:=[],code:=.ref 41,frame:=some 42 }
noncomputable def cE:Code:=.body (behindTheImports pw) env
noncomputable def life:Life:={}
noncomputable def dr:Drawn:={}
noncomputable abbrev fC:=@PySem.W.Fast.tw18129864485346669323
noncomputable abbrev c9:=@PySem.W.Fast.tw10110043849684766642
noncomputable abbrev dN:=@PySem.W.Fast.tw14364793385576792824
noncomputable def sL{α:Type}(l:List α)(i n:Nat):List α:=(l.drop i).take n
noncomputable def eL(P:Params)(v:String->Value):Nat->List String->List DictEntry
 | _1,[]=>[]
 | n,x::r=>en P x n (v x)::eL P v (n+1) r
noncomputable def d0(P:Params):List DictEntry:=[en P "__name__" 1 (vs "builtins" 160),en P "__doc__" 2 (vb "builtins.__doc__:str#opaque"),en P "__package__" 3 (vb "builtins.__package__:str#opaque"),en P "__loader__" 4 (vb "builtins.__loader__:shared#opaque"),en P "__spec__" 5 (vb "builtins.__spec__#opaque")]++eL P vb 6 ["__build_class__","__import__","abs","all","any","ascii","bin","breakpoint","callable","chr","compile","delattr","dir","divmod","eval","exec","format","getattr","globals","hasattr","hash","hex","id","input","isinstance","issubclass","iter","aiter","len","locals","max","min","next","anext","oct","ord","pow","print","repr","round","setattr","sorted","sum","vars"]++[en P "None" 50 .none,en P "Ellipsis" 51 .ellipsis,en P "NotImplemented" 52 .notImplemented,en P "False" 53 (.bool false),en P "True" 54 (.bool true)]++eL P vt 55 ["bool","memoryview","bytearray","bytes","classmethod","complex","dict","enumerate","filter","float","frozenset","property","int","list","map","object","range","reversed","set","slice","staticmethod","str","super","tuple","type","zip"]++[en P "__debug__" 81 (.bool true)]++eL P vt 82 ["BaseException","BaseExceptionGroup","Exception","GeneratorExit","KeyboardInterrupt","SystemExit","ArithmeticError","AssertionError","AttributeError","BufferError","EOFError","ImportError","LookupError","MemoryError","NameError","OSError","ReferenceError","RuntimeError","StopAsyncIteration","StopIteration","SyntaxError","SystemError","TypeError","ValueError","Warning","FloatingPointError","OverflowError","ZeroDivisionError","BytesWarning","DeprecationWarning","EncodingWarning","FutureWarning","ImportWarning","PendingDeprecationWarning","ResourceWarning","RuntimeWarning","SyntaxWarning","UnicodeWarning","UserWarning","BlockingIOError","ChildProcessError","ConnectionError","FileExistsError","FileNotFoundError","InterruptedError","IsADirectoryError","NotADirectoryError","PermissionError","ProcessLookupError","TimeoutError","IndentationError","_IncompleteInputError","IndexError","KeyError","ModuleNotFoundError","NotImplementedError","PythonFinalizationError","RecursionError","UnboundLocalError","UnicodeError","BrokenPipeError","ConnectionAbortedError","ConnectionRefusedError","ConnectionResetError","TabError","UnicodeDecodeError","UnicodeEncodeError","UnicodeTranslateError","ExceptionGroup"]++[en P "EnvironmentError" 151 (vt "OSError"),en P "IOError" 152 (vt "OSError"),en P "open" 153 (vb "open"),en P "quit" 154 (vb "builtins.quit#opaque"),en P "exit" 155 (vb "builtins.exit#opaque"),en P "copyright" 156 (vb "builtins.copyright#opaque"),en P "credits" 157 (vb "builtins.credits#opaque"),en P "license" 158 (vb "builtins.license#opaque"),en P "help" 159 (vb "builtins.help#opaque")]
noncomputable def d1(P:Params):List DictEntry:=[en P "im\x70ort.loaded._struct" 186 (.bool true),en P "class._frozen_importlib_external._LoaderBasics" 191 (vr 16),en P "watched.im\x70ort" 207 (vr 20),en P "class._frozen_importlib_external.FileLoader" 208 (vr 22),en P "class._frozen_importlib_external.ExtensionFileLoader" 229 (vr 27),en P "class._frozen_importlib.ModuleSpec" 257 (vr 33),en P "sys.modules.booked-epoch" 286 (vi 3 0),en P "class.struct.error" 303 (vt "struct.error"),en P "im\x70ort.later-laid._struct" 305 (.bool true),en P "watched.library" 307 (vr 38),en P "watched.library-objects" 0 (vs "\x0d" 0)]
noncomputable def d2(P:Params):List DictEntry:=[en P "__name__" 165 (vs "__main__" 164),en P "__doc__" 166 .none,en P "__package__" 167 .none,en P "__loader__" 168 (vb "__main__.__loader__#opaque"),en P "__spec__" 169 .none,en P "__annotations__" 170 (vr 6),en P "__builtins__" 171 (vr 4),en P "__file__" 173 (vs "/claim/cut.py" 172),en P "__cached__" 174 .none,en P "Struct" 313 (vt "_struct.Struct"),en P "unpack" 316 (vb "_struct.unpack")]
noncomputable def d3(P:Params):List DictEntry:=[en P "__name__" 288 (vs "_struct" 287),en P "__doc__" 289 (vb "_struct.__doc__:str#opaque"),en P "__package__" 291 (vs "" 290),en P "__loader__" 292 (vr 29),en P "__spec__" 293 (vr 37),en P "_clearcache" 294 (vb "_struct._clearcache"),en P "calcsize" 295 (vb "_struct.calcsize"),en P "iter_unpack" 296 (vb "_struct.iter_unpack"),en P "pack" 297 (vb "_struct.pack"),en P "pack_into" 298 (vb "_struct.pack_into"),en P "unpack" 299 (vb "_struct.unpack"),en P "unpack_from" 300 (vb "_struct.unpack_from"),en P "__file__" 301 (vs "/nix/store/wj1f56qky4pmjc7l0r6b6l7whnnw7hp6-python3-3.13.15/lib/python3.13/lib-dynload/_struct.cpython-313-x86_64-linux-gnu.so" 187),en P "Struct" 302 (vt "_struct.Struct"),en P "error" 304 (vt "struct.error")]
noncomputable def d4(P:Params):List DictEntry:=[en P "__module__" 194 (vs "_frozen_importlib_external" 192),en P "__firstlineno__" 195 (vi 1001 193),en P "__doc__" 196 (vb "_frozen_importlib_external._LoaderBasics.__doc__:str#opaque"),en P "is_package" 197 (vb "_frozen_importlib_external._LoaderBasics.is_package#opaque"),en P "create_module" 198 (vb "_frozen_importlib_external._LoaderBasics.create_module#opaque"),en P "exec_module" 199 (vb "_frozen_importlib_external._LoaderBasics.exec_module#opaque"),en P "load_module" 200 (vb "_frozen_importlib_external._LoaderBasics.load_module#opaque"),en P "__static_attributes__" 201 (vr 17),en P "__dict__" 203 (vr 18),en P "__weakref__" 205 (vr 19)]
noncomputable def d5(P:Params):List DictEntry:=[en P "__module__" 213 (vs "_frozen_importlib_external" 209),en P "__firstlineno__" 214 (vi 1176 210),en P "__doc__" 215 (vb "_frozen_importlib_external.FileLoader.__doc__:str#opaque"),en P "__init__" 216 (vb "_frozen_importlib_external.FileLoader.__init__#opaque"),en P "__eq__" 217 (vb "_frozen_importlib_external.FileLoader.__eq__#opaque"),en P "__hash__" 218 (vb "_frozen_importlib_external.FileLoader.__hash__#opaque"),en P "load_module" 219 (vb "_frozen_importlib_external.FileLoader.load_module#opaque"),en P "get_filename" 220 (vb "_frozen_importlib_external.FileLoader.get_filename#opaque"),en P "get_data" 221 (vb "_frozen_importlib_external.FileLoader.get_data#opaque"),en P "get_resource_reader" 222 (vb "_frozen_importlib_external.FileLoader.get_resource_reader#opaque"),en P "__static_attributes__" 223 (vr 23),en P "__dict__" 225 (vr 24),en P "__weakref__" 227 (vr 25)]
noncomputable def d6(P:Params):List DictEntry:=[en P "__module__" 234 (vs "_frozen_importlib_external" 230),en P "__firstlineno__" 235 (vi 1296 231),en P "__doc__" 236 (vb "_frozen_importlib_external.ExtensionFileLoader.__doc__:str#opaque"),en P "__init__" 237 (vb "_frozen_importlib_external.ExtensionFileLoader.__init__#opaque"),en P "__eq__" 238 (vb "_frozen_importlib_external.ExtensionFileLoader.__eq__#opaque"),en P "__hash__" 239 (vb "_frozen_importlib_external.ExtensionFileLoader.__hash__#opaque"),en P "create_module" 240 (vb "_frozen_importlib_external.ExtensionFileLoader.create_module#opaque"),en P "exec_module" 241 (vb "_frozen_importlib_external.ExtensionFileLoader.exec_module#opaque"),en P "is_package" 242 (vb "_frozen_importlib_external.ExtensionFileLoader.is_package#opaque"),en P "get_code" 243 (vb "_frozen_importlib_external.ExtensionFileLoader.get_code#opaque"),en P "get_source" 244 (vb "_frozen_importlib_external.ExtensionFileLoader.get_source#opaque"),en P "get_filename" 245 (vb "_frozen_importlib_external.ExtensionFileLoader.get_filename#opaque"),en P "__static_attributes__" 246 (vr 28)]
noncomputable def d7(P:Params):List DictEntry:=[en P "name" 249 (vs "_struct" 248),en P "loader" 250 (vr 29),en P "origin" 251 (vs "/nix/store/wj1f56qky4pmjc7l0r6b6l7whnnw7hp6-python3-3.13.15/lib/python3.13/lib-dynload/_struct.cpython-313-x86_64-linux-gnu.so" 187),en P "loader_state" 252 .none,en P "submodule_search_locations" 253 .none,en P "_uninitialized_submodules" 254 (vr 30),en P "_set_fileattr" 255 (.bool true),en P "_cached" 256 .none,en P "_initializing" 284 (.bool false)]
noncomputable def d8(P:Params):List DictEntry:=[en P "__module__" 268 (vs "_frozen_importlib" 258),en P "__firstlineno__" 269 (vi 562 259),en P "__doc__" 270 (vb "_frozen_importlib.ModuleSpec.__doc__:str#opaque"),en P "__init__" 271 (vb "_frozen_importlib.ModuleSpec.__init__#opaque"),en P "__repr__" 272 (vb "_frozen_importlib.ModuleSpec.__repr__#opaque"),en P "__eq__" 273 (vb "_frozen_importlib.ModuleSpec.__eq__#opaque"),en P "cached" 274 (vb "_frozen_importlib.ModuleSpec.cached#opaque"),en P "parent" 275 (vb "_frozen_importlib.ModuleSpec.parent#opaque"),en P "has_location" 276 (vb "_frozen_importlib.ModuleSpec.has_location#opaque"),en P "__static_attributes__" 277 (vr 34),en P "__dict__" 279 (vr 35),en P "__weakref__" 281 (vr 36),en P "__hash__" 282 .none]
noncomputable def d9(P:Params):List DictEntry:=[en P "__name__" 288 (vs "_struct" 287),en P "__doc__" 289 (vb "off-the-table:_struct.__doc__:shared#opaque"),en P "__package__" 291 (vs "" 290),en P "__loader__" 292 (vb "off-the-table:_struct.__loader__:shared#opaque"),en P "__spec__" 293 (vb "off-the-table:_struct.__spec__:shared#opaque"),en P "_clearcache" 294 (vb "off-the-table:_struct._clearcache:shared#opaque")]++sL (d3 P) 6 9
noncomputable def d10(P:Params):List DictEntry:=[en P "__name__" 165 (vs "flatbuffers.number_types" 363)]++sL (d2 P) 1 10++[en P "_wall" 329 (vr 49),en P "string_types" 330 (vr 50),en P "binary_types" 331 (vr 51),en P "boolean" 336 (vr 52),en P "uint8" 339 (vr 53),en P "uint16" 342 (vr 54),en P "uint32" 345 (vr 55),en P "uint64" 348 (vr 56),en P "int8" 351 (vr 57),en P "int16" 354 (vr 58),en P "int32" 357 (vr 59),en P "int64" 360 (vr 60),en P "uoffset" 361 (vr 55),en P "soffset" 362 (vr 59),en P "BoolFlags" 392 (vr 70),en P "Uint8Flags" 426 (vr 84),en P "Uint16Flags" 460 (vr 98),en P "Uint32Flags" 494 (vr 112),en P "Uint64Flags" 528 (vr 126),en P "Int8Flags" 565 (vr 140),en P "Int16Flags" 602 (vr 154),en P "Int32Flags" 639 (vr 168)]
noncomputable def d11:List Value:=[(vi 2 0),(vi 0 0),(vr 48),(vi 20 0),(vi 0 0),(vr 66),(vi 27 0),(vi 0 0),(vr 80),(vi 34 0),(vi 0 0),(vr 94),(vi 41 0),(vi 0 0),(vr 108),(vi 48 0),(vi 0 0),(vr 122),(vi 55 0),(vi 0 0),(vr 136),(vi 62 0),(vi 0 0),(vr 150),(vi 69 0),(vi 0 0),(vr 164)]
noncomputable def d12(P:Params):List DictEntry:=[en P "__module__" 372 (vs "flatbuffers.number_types" 363),en P "__qualname__" 374 (vs "BoolFlags" 373),en P "__firstlineno__" 376 (vi 20 375),en P "bytewidth" 378 (vi 1 377),en P "min_val" 379 (.bool false),en P "max_val" 380 (.bool true),en P "py_type" 381 (vt "bool"),en P "name" 383 (vs "bool" 382),en P "packer_type" 384 (vr 52),en P "__static_attributes__" 385 (vr 68)]
noncomputable def d13(P:Params):List DictEntry:=[en P "__module__" 372 (vs "flatbuffers.number_types" 363)]++sL (d12 P) 2 8++[en P "__dict__" 387 (vr 71),en P "__weakref__" 389 (vr 72),en P "__doc__" 390 .none]
noncomputable def d14(P:Params):List DictEntry:=[en P "__name__" 165 (vs "flatbuffers.builder" 747)]++sL (d10 P) 1 32++[en P "Int64Flags" 676 (vr 182),en P "SOffsetTFlags" 692 (vr 196),en P "UOffsetTFlags" 708 (vr 208),en P "VOffsetTFlags" 724 (vr 220),en P "enforce_number" 732 (vr 229),en P "FILE_IDENTIFIER_LENGTH" 736 (vi 4 735),en P "Write" 746 (vr 236),en P "OffsetArithmeticError" 766 (vr 246),en P "IsNotNestedError" 784 (vr 259),en P "IsNestedError" 802 (vr 272),en P "StructIsNotInlineError" 820 (vr 285),en P "BuilderSizeError" 838 (vr 298),en P "BuilderNotFinishedError" 856 (vr 311),en P "EndVectorLengthMismatched" 874 (vr 324),en P "VtableMetadataFields" 876 (vi 2 875)]
noncomputable def d15:List Value:=sL d11 0 27++[(vi 76 0),(vi 0 0),(vr 178),(vi 83 0),(vi 0 0),(vr 192),(vi 85 0),(vi 0 0),(vr 204),(vi 87 0),(vi 0 0),(vr 216),(vi 89 0),(vi 0 0),(vr 228),(vi 96 0),(vi 0 0),(vr 235),(vi 99 0),(vi 0 0),(vr 242),(vi 101 0),(vi 0 0),(vr 255),(vi 103 0),(vi 0 0),(vr 268),(vi 105 0),(vi 0 0),(vr 281),(vi 107 0),(vi 0 0),(vr 294),(vi 109 0),(vi 0 0),(vr 307),(vi 111 0),(vi 0 0),(vr 320)]
noncomputable def d16(P:Params):List DictEntry:=[en P "__name__" 165 (vs "law_ke0008_01" 1429)]++sL (d14 P) 1 47++[en P "Builder" 1428 (vr 729),en P "_law_signs" 1445 (vr 751),en P "_law_kinds" 1451 (vr 758),en P "_law_take" 1460 (vr 765),en P "_law_value" 1473 (vr 772),en P "_law_text" 1485 (vr 779),en P "_law_put" 1494 (vr 786),en P "_law_slot" 1505 (vr 793),en P "_law_align" 1514 (vr 800),en P "_law_write" 1524 (vr 807),en P "_law_octets" 1533 (vr 814),en P "_law_numbers" 1539 (vr 819),en P "_law_offset" 1547 (vr 826),en P "_law_offsets" 1553 (vr 831)]
noncomputable def d17:List Value:=sL d15 0 66++[(vi 114 0),(vi 0 0),(vr 333),(vi 480 0),(vi 0 0),(vr 757),(vi 482 0),(vi 0 0),(vr 764),(vi 488 0),(vi 0 0),(vr 771),(vi 495 0),(vi 0 0),(vr 778),(vi 503 0),(vi 0 0),(vr 785),(vi 522 0),(vi 0 0),(vr 792),(vi 541 0),(vi 0 0),(vr 799),(vi 546 0),(vi 0 0),(vr 806),(vi 549 0),(vi 0 0),(vr 813),(vi 554 0),(vi 0 0),(vr 818),(vi 570 0),(vi 0 0),(vr 825),(vi 573 0),(vi 0 0),(vr 830)]
noncomputable def d18(P:Params):List DictEntry:=[en P "__module__" 884 (vs "flatbuffers.builder" 747),en P "__qualname__" 886 (vs "Builder" 885),en P "__firstlineno__" 888 (vi 114 887),en P "__slots__" 900 (vr 335),en P "MAX_BUFFER_SIZE" 905 (vi 2147483648 904),en P "__init__" 915 (vr 343),en P "Clear" 922 (vr 350),en P "Output" 929 (vr 357),en P "StartObject" 937 (vr 364),en P "WriteVtable" 955 (vr 371),en P "EndObject" 962 (vr 378),en P "GrowByteBuffer" 972 (vr 385),en P "Head" 979 (vr 392),en P "Offset" 986 (vr 399),en P "Pad" 995 (vr 406),en P "Prep" 1009 (vr 413),en P "PrependSOffsetTRelative" 1019 (vr 420),en P "PrependUOffsetTRelative" 1029 (vr 427),en P "StartVector" 1039 (vr 434),en P "EndVector" 1047 (vr 442),en P "CreateSharedString" 1056 (vr 449),en P "CreateString" 1067 (vr 456),en P "CreateByteVector" 1077 (vr 463),en P "assertNested" 1084 (vr 470),en P "assertNotNested" 1091 (vr 477),en P "assertStructIsInline" 1100 (vr 484),en P "Slot" 1108 (vr 491),en P "_Builder__Finish" 1121 (vr 499),en P "Finish" 1130 (vr 507),en P "FinishSizePrefixed" 1139 (vr 515),en P "Prepend" 1148 (vr 522),en P "PrependSlot" 1159 (vr 529),en P "PrependBoolSlot" 1167 (vr 536),en P "PrependByteSlot" 1175 (vr 543),en P "PrependUint8Slot" 1183 (vr 550),en P "PrependUint16Slot" 1191 (vr 557),en P "PrependUint32Slot" 1199 (vr 564),en P "PrependUint64Slot" 1207 (vr 571),en P "PrependInt8Slot" 1215 (vr 578),en P "PrependInt16Slot" 1223 (vr 585),en P "PrependInt32Slot" 1231 (vr 592),en P "PrependInt64Slot" 1239 (vr 599),en P "PrependUOffsetTRelativeSlot" 1249 (vr 606),en P "PrependStructSlot" 1259 (vr 613),en P "PrependBool" 1267 (vr 620),en P "PrependByte" 1275 (vr 627),en P "PrependUint8" 1283 (vr 634),en P "PrependUint16" 1291 (vr 641),en P "PrependUint32" 1299 (vr 648),en P "PrependUint64" 1307 (vr 655),en P "PrependInt8" 1315 (vr 662),en P "PrependInt16" 1323 (vr 669),en P "PrependInt32" 1331 (vr 676),en P "PrependInt64" 1339 (vr 683),en P "ForceDefaults" 1347 (vr 690),en P "PrependVOffsetT" 1355 (vr 697),en P "Place" 1365 (vr 704),en P "PlaceVOffsetT" 1373 (vr 711),en P "PlaceSOffsetT" 1382 (vr 718),en P "PlaceUOffsetT" 1391 (vr 725),en P "__static_attributes__" 1403 (vr 726)]
noncomputable def d19:List Value:=[(vi 119 0),(vi 4 0),(vr 342),(vi 134 0),(vi 4 0),(vr 349),(vi 146 0),(vi 4 0),(vr 356),(vi 151 0),(vi 4 0),(vr 363),(vi 157 0),(vi 4 0),(vr 370),(vi 204 0),(vi 4 0),(vr 377),(vi 209 0),(vi 4 0),(vr 384),(vi 220 0),(vi 4 0),(vr 391),(vi 223 0),(vi 4 0),(vr 398),(vi 226 0),(vi 4 0),(vr 405),(vi 233 0),(vi 4 0),(vr 412),(vi 249 0),(vi 4 0),(vr 419),(vi 257 0),(vi 4 0),(vr 426),(vi 265 0),(vi 4 0),(vr 433),(vi 273 0),(vi 4 0),(vr 441),(vi 283 0),(vi 4 0),(vr 448),(vi 292 0),(vi 4 0),(vr 455),(vi 310 0),(vi 4 0),(vr 462),(vi 323 0),(vi 4 0),(vr 469),(vi 327 0),(vi 4 0),(vr 476),(vi 331 0),(vi 4 0),(vr 483),(vi 337 0),(vi 4 0),(vr 490),(vi 341 0),(vi 4 0),(vr 498),(vi 362 0),(vi 4 0),(vr 506),(vi 365 0),(vi 4 0),(vr 514),(vi 368 0),(vi 4 0),(vr 521),(vi 372 0),(vi 4 0),(vr 528),(vi 381 0),(vi 4 0),(vr 535),(vi 384 0),(vi 4 0),(vr 542),(vi 387 0),(vi 4 0),(vr 549),(vi 390 0),(vi 4 0),(vr 556),(vi 393 0),(vi 4 0),(vr 563),(vi 396 0),(vi 4 0),(vr 570),(vi 399 0),(vi 4 0),(vr 577),(vi 402 0),(vi 4 0),(vr 584),(vi 405 0),(vi 4 0),(vr 591),(vi 408 0),(vi 4 0),(vr 598),(vi 411 0),(vi 4 0),(vr 605),(vi 416 0),(vi 4 0),(vr 612),(vi 422 0),(vi 4 0),(vr 619),(vi 425 0),(vi 4 0),(vr 626),(vi 428 0),(vi 4 0),(vr 633),(vi 431 0),(vi 4 0),(vr 640),(vi 434 0),(vi 4 0),(vr 647),(vi 437 0),(vi 4 0),(vr 654),(vi 440 0),(vi 4 0),(vr 661),(vi 443 0),(vi 4 0),(vr 668),(vi 446 0),(vi 4 0),(vr 675),(vi 449 0),(vi 4 0),(vr 682),(vi 452 0),(vi 4 0),(vr 689),(vi 455 0),(vi 4 0),(vr 696),(vi 458 0),(vi 4 0),(vr 703),(vi 464 0),(vi 4 0),(vr 710),(vi 467 0),(vi 4 0),(vr 717),(vi 473 0),(vi 4 0),(vr 724)]
noncomputable def d20(P:Params):List DictEntry:=[en P "__module__" 884 (vs "flatbuffers.builder" 747)]++sL (d18 P) 2 59++[en P "Bytes" 1405 (vr 730),en P "current_vtable" 1407 (vr 731),en P "finished" 1409 (vr 732),en P "forceDefaults" 1411 (vr 733),en P "head" 1413 (vr 734),en P "minalign" 1415 (vr 735),en P "nested" 1417 (vr 736),en P "objectEnd" 1419 (vr 737),en P "sharedStrings" 1421 (vr 738),en P "vectorNumElems" 1423 (vr 739),en P "vtables" 1425 (vr 740),en P "__doc__" 1426 .none]
noncomputable def d21(P:Params):List DictEntry:=sL (d16 P) 0 62++[en P "_law_field" 1570 (vr 838),en P "_law_table" 1576 (vr 843),en P "_law_thing" 1589 (vr 850),en P "_law_finish" 1595 (vr 855),en P "law" 1609 (vr 862)]
noncomputable def d22:List Value:=sL d17 0 105++[(vi 586 0),(vi 0 0),(vr 837),(vi 618 0),(vi 0 0),(vr 842),(vi 644 0),(vi 0 0),(vr 849),(vi 669 0),(vi 0 0),(vr 854),(vi 681 0),(vi 0 0),(vr 861)]
noncomputable def k0(a:Nat):Obj:=⟨(vt "module"),(some a),.plain,#[]⟩
noncomputable def k1(a:String):Obj:=⟨(vt a),none,(.seq #[] 0),#[]⟩
noncomputable def k2:Obj:=⟨.none,none,(.fields #[]),#[]⟩
noncomputable def k3(a:String)(b:Nat)(c:Int)(d:Nat)(e:Int)(f:Int):Obj:=⟨(vt "code"),none,(.fields #[(vs a b),(vs a (b+1)),(vs "/claim/cut.py" (b+2)),(vi c 0),(vi 0 0),(vi 0 0),(vi 0 0),(vi 0 0),(vr d),(.bool false),(vi e 0),(vr (d+1)),.none,.none,.none,.none,(vi f 0),(vi c 0),(vs "/claim/cut.py" (b+4))]),#[]⟩
noncomputable def k4(a:Nat)(b:Nat)(c:String)(d:Nat):Obj:=⟨(vt "frame"),none,.plain,#[some (vr a),some (vr 3),some (vr b),none,some (vs c d),none,some (vr 0)]⟩
noncomputable def k5(a:String)(b:Nat)(c:String):Obj:=⟨(vt "tuple"),none,(.seq #[(vs a b),(vs c (b+1))] 0),#[]⟩
noncomputable def k6(a:String)(b:Nat):Obj:=⟨(vt "type"),none,(.cls ⟨S a,[(vt "object")],[(vr b),(vt "object")],(b-1),S a,true,[],[(vr 27)],false,none,false⟩),#[]⟩
noncomputable def k7(a:Nat)(b:Nat):Obj:=⟨(vt "getset_descriptor"),none,(.fields #[(vs "__dict__" a),(vr b),(vb "function.__dict__"),(vb "function.__dict__#set")]),#[]⟩
noncomputable def k8(a:Nat)(b:Nat):Obj:=⟨(vt "getset_descriptor"),none,(.fields #[(vs "__weakref__" a),(vr b),(vb "ExceptionGroup.__weakref__"),.none]),#[]⟩
noncomputable def k9(a:Nat)(b:Nat):Obj:=⟨(vr a),(some b),.plain,#[]⟩
noncomputable def k10(a:String)(b:Nat)(c:String)(d:String)(e:String)(f:String)(g:String)(h:String)(i:String):Obj:=⟨(vt "tuple"),none,(.seq #[(vs a b),(vs c (b+1)),(vs d (b+2)),(vs e (b+3)),(vs f (b+4)),(vs g (b+5)),(vs h (b+6)),(vs i (b+7))] 0),#[]⟩
noncomputable def k11(a:String)(b:Nat):Obj:=⟨(vt "tuple"),none,(.seq #[(vs a b)] 0),#[]⟩
noncomputable def k12(a:Nat)(b:String):Obj:=⟨.none,none,(fnd (top a) b 0 [] .none .none .none .none none .none .none 0),#[]⟩
noncomputable def k13(a:String)(b:Nat)(c:String)(d:Int)(e:Int)(f:Int)(g:Nat)(h:Int)(i:Nat):Obj:=⟨(vt "code"),none,(.fields #[(vs a b),(vs c (b+1)),(vs "/claim/cut.py" (b+2)),(vi d 0),(vi e 0),(vi 0 0),(vi 0 0),(vi f 0),(vr g),(.bool true),(vi 317 0),(vr (g+1)),.none,(vr (g+2)),(vr (g+3)),(vr (g+4)),(vi h 0),(vi d 0),(vs "/claim/cut.py" i)]),#[]⟩
noncomputable def k14(a:Nat)(b:String)(c:String)(d:Nat)(e:Nat):Obj:=⟨(vt "function"),none,(fnd (top a) b 3 [] .none .none .none (vs c d) none (vr e) .none 0),#[]⟩
noncomputable def k15(a:String):Obj:=⟨(vt "tuple"),none,(.seq #[(vt a)] 0),#[]⟩
noncomputable def k16(a:UInt8)(b:Nat):Obj:=⟨(vt "_struct.Struct"),none,(.fields #[(.bytes #[60,a] b)]),#[]⟩
noncomputable def k17:Obj:=⟨(vt "builtin_function_or_method"),none,(.fields #[(vb "type.__prepare__"),(vt "type")]),#[]⟩
noncomputable def k18(a:String)(b:Nat)(c:Nat):Obj:=⟨(vt "type"),none,(.cls ⟨S a,[(vt "object")],[(vr b),(vt "object")],(b-1),S a,true,[],[],false,none,false⟩),#[some (vr (b-9)),none,some (vs a c),some (vs a (c+8)),some (vb "object.__new__"),some (.bool true)]⟩
noncomputable def k19(a:Nat):Obj:=⟨(vt "super"),none,(.fields #[(vr a),(vr a),(vr a)]),#[]⟩
noncomputable def k20(a:Nat):Obj:=⟨(vt "builtin_function_or_method"),none,(.fields #[(vb "object.__init_subclass__"),(vr a)]),#[]⟩
noncomputable def k21(P:Params)(a:Nat)(b:String)(c:Int)(d:Int)(e:Nat)(f:Int)(g:Int)(h:String)(i:Nat)(j:Nat):Obj:=⟨(vt "dict"),none,(.dict #[en P "__module__" a (vs "flatbuffers.number_types" 363),en P "__qualname__" (a+2) (vs b (a+1)),en P "__firstlineno__" (a+4) (vi c (a+3)),en P "bytewidth" (a+6) (vi d (a+5)),en P "min_val" e (vi f (e-1)),en P "max_val" (e+6) (vi g (e+5)),en P "py_type" (e+7) (vt "int"),en P "name" (e+9) (vs h (e+8)),en P "packer_type" (e+10) (vr i),en P "__static_attributes__" (e+11) (vr j)] 10),#[]⟩
noncomputable def k22(P:Params)(a:Nat)(b:Int)(c:Int)(d:Nat)(e:Int)(f:Int)(g:String)(h:Nat)(i:Nat):Obj:=⟨(vt "dict"),none,(.dict #[en P "__module__" a (vs "flatbuffers.number_types" 363),en P "__firstlineno__" (a+4) (vi b (a+3)),en P "bytewidth" (a+6) (vi c (a+5)),en P "min_val" d (vi e (d-1)),en P "max_val" (d+6) (vi f (d+5)),en P "py_type" (d+7) (vt "int"),en P "name" (d+9) (vs g (d+8)),en P "packer_type" (d+10) (vr h),en P "__static_attributes__" (d+11) (vr i),en P "__dict__" (d+13) (vr (i+3)),en P "__weakref__" (d+15) (vr (i+4)),en P "__doc__" (d+16) .none] 4),#[]⟩
noncomputable def k23(a:String)(b:Nat)(c:Nat)(d:Nat):Obj:=⟨(vt "type"),none,(.cls ⟨S a,[(vt "object")],[(vr b),(vt "object")],(b-1),S a,true,[],[(vr c)],false,none,false⟩),#[some (vr (b-9)),none,some (vs a d),some (vs a (d+8)),some (vb "object.__new__"),some (.bool true)]⟩
noncomputable def k24(a:Nat):Obj:=⟨(vt "tuple"),none,(.seq #[(vr a)] 0),#[]⟩
noncomputable def k25(P:Params)(a:Nat)(b:String)(c:Nat)(d:String)(e:Int)(f:Nat):Obj:=⟨(vt "dict"),none,(.dict #[en P "__module__" a (vs b c),en P "__qualname__" (a+2) (vs d (a+1)),en P "__firstlineno__" (a+4) (vi e (a+3)),en P "__static_attributes__" (a+5) (vr f)] 4),#[]⟩
noncomputable def k26(P:Params)(a:Nat)(b:Int)(c:Nat):Obj:=⟨(vt "dict"),none,(.dict #[en P "__module__" a (vs "flatbuffers.number_types" 363),en P "__firstlineno__" (a+4) (vi b (a+3)),en P "__static_attributes__" (a+5) (vr c),en P "__doc__" (a+6) .none] 2),#[]⟩
noncomputable def k27(a:String)(b:Nat)(c:Nat)(d:Nat):Obj:=⟨(vt "type"),none,(.cls ⟨S a,[(vr b)],[(vr c),(vr b),(vt "object")],(c-1),S a,true,[],[],false,none,false⟩),#[some (vr (c-9)),none,some (vs a d),some (vs a (d+8)),some (vb "object.__new__"),some (.bool true)]⟩
noncomputable def k28(a:String)(b:Nat)(c:String)(d:String)(e:String):Obj:=⟨(vt "tuple"),none,(.seq #[(vs a b),(vs c (b+1)),(vs d (b+2)),(vs e (b+3))] 0),#[]⟩
noncomputable def k29(P:Params)(a:Nat)(b:Int)(c:Nat):Obj:=⟨(vt "dict"),none,(.dict #[en P "__module__" a (vs "flatbuffers.builder" 747),en P "__firstlineno__" (a+4) (vi b (a+3)),en P "__static_attributes__" (a+5) (vr c),en P "__weakref__" (a+7) (vr (c+3)),en P "__doc__" (a+8) .none] 3),#[]⟩
noncomputable def k30(a:String)(b:Nat)(c:Nat):Obj:=⟨(vt "type"),none,(.cls ⟨S a,[(vt "RuntimeError")],[(vr b),(vt "RuntimeError"),(vt "Exception"),(vt "BaseException"),(vt "object")],(b-1),S a,true,[],[],false,none,false⟩),#[some (vr (b-9)),none,some (vs a c),some (vs a (c+8)),some (vb "RuntimeError.__new__"),some (.bool true)]⟩
noncomputable def k31(a:String)(b:String)(c:Nat)(d:String)(e:String)(f:String)(g:String)(h:String)(i:String)(j:String)(k:String)(l:String)(m:String)(n:Nat):Obj:=⟨(vt a),none,(.seq #[(vs b c),(vs d (c+1)),(vs e (c+2)),(vs f (c+3)),(vs g (c+4)),(vs h (c+5)),(vs i (c+6)),(vs j (c+7)),(vs k (c+8)),(vs l (c+9)),(vs m (c+10))] n),#[]⟩
noncomputable def k32(a:String)(b:Int)(c:Nat):Obj:=⟨(vt a),none,(.seq #[(vi b c)] 0),#[]⟩
noncomputable def k33(a:String)(b:Nat)(c:String)(d:String):Obj:=⟨(vt "tuple"),none,(.seq #[(vs a b),(vs c (b+1)),(vs d (b+2))] 0),#[]⟩
noncomputable def k34(a:Nat)(b:String):Obj:=⟨.none,none,(fnd (sub 42 a) b 0 [] .none .none .none .none none .none .none 0),#[]⟩
noncomputable def k35(a:Nat)(b:String)(c:Nat):Obj:=⟨(vt "function"),none,(fnd (sub 42 a) b 3 [] (vr c) .none .none (vs "flatbuffers.builder" 747) none (vr (c+6)) .none 0),#[]⟩
noncomputable def k36(a:Nat)(b:String)(c:Nat):Obj:=⟨(vt "function"),none,(fnd (sub 42 a) b 3 [] .none .none .none (vs "flatbuffers.builder" 747) none (vr c) .none 0),#[]⟩
noncomputable def k37:Obj:=⟨(vt "tuple"),none,(.seq #[.none] 0),#[]⟩
noncomputable def k38(a:String)(b:Nat)(c:String)(d:String)(e:String)(f:String):Obj:=⟨(vt "tuple"),none,(.seq #[(vs a b),(vs c (b+1)),(vs d (b+2)),(vs e (b+3)),(vs f (b+4))] 0),#[]⟩
noncomputable def k39(a:String)(b:Nat)(c:String)(d:String)(e:String)(f:String)(g:String)(h:String):Obj:=⟨(vt "tuple"),none,(.seq #[(vs a b),(vs c (b+1)),(vs d (b+2)),(vs e (b+3)),(vs f (b+4)),(vs g (b+5)),(vs h (b+6))] 0),#[]⟩
noncomputable def k40(a:String)(b:Nat)(c:Int):Obj:=⟨(vt "member_descriptor"),none,(.fields #[(vs a b),(vr 729),(vb "proto.slot"),(vb "proto.slot#set"),(vi c 0)]),#[]⟩
noncomputable def k41(a:String)(b:Nat)(c:Nat):Obj:=⟨(vt "tuple"),none,(.seq #[(vs a b),(vr c)] 0),#[]⟩
noncomputable def k42(a:String)(b:Nat)(c:Int)(d:Int)(e:Nat)(f:Int):Obj:=⟨(vt "code"),none,(.fields #[(vs a b),(vs a (b+1)),(vs "/claim/cut.py" (b+2)),(vi c 0),(vi d 0),(vi 0 0),(vi 0 0),(vi 3 0),(vr e),(.bool true),(vi 317 0),(vr (e+1)),.none,.none,.none,(vr (e+2)),(vi f 0),(vi c 0),(vs "/claim/cut.py" (b+4))]),#[]⟩
noncomputable def hB:List BT->BT
 | []=>.nil
 | a::_=>a
noncomputable def zT:List Obj->List BT->List BT->List BT
 | [],_1,_2=>[]
 | o::r,a,b=>.node o (hB a) (hB b)::zT r a.tail b.tail
noncomputable def bT:Nat->Nat->List Obj->List BT
 | 0,_1,_2=>[]
 | n+1,k,l=>zT (l.take k) ((bT n (2*k) (l.drop k)).take k) ((bT n (2*k) (l.drop k)).drop k)
noncomputable def tR(l:List Obj):BT:=hB (bT 10 1 l)
noncomputable def L0(P:Params):List Obj:=[⟨(vt "dict"),none,(.dict (d0 P).toArray 159),#[]⟩,⟨(vt "dict"),none,(.dict #[en P "builtins" 162 (vr 4),en P "__main__" 163 (vr 5),en P "_struct" 285 (vr 13)] 3),#[]⟩,⟨.none,none,(.dict (d1 P).toArray 11),#[]⟩,⟨(vt "dict"),none,(.dict (d2 P).toArray 11),#[]⟩,k0 0,k0 3,⟨(vt "dict"),none,(.dict #[] 0),#[]⟩,k1 "tuple",k2 ,k3 "<module>" 176 1 7 175 179,k4 9 3 "__main__" 164,k5 "Struct" 182 "unpack",⟨(vt "dict"),none,(.dict (d3 P).toArray 15),#[]⟩,k0 12,⟨(vt "dict"),none,(.dict #[en P "name" 189 (vs "_struct" 188),en P "path" 190 (vs "/nix/store/wj1f56qky4pmjc7l0r6b6l7whnnw7hp6-python3-3.13.15/lib/python3.13/lib-dynload/_struct.cpython-313-x86_64-linux-gnu.so" 187)] 2),#[]⟩,⟨(vt "dict"),none,(.dict (d4 P).toArray 10),#[]⟩,k6 "_LoaderBasics" 16,k1 "tuple",k7 202 16,k8 204 16,⟨.none,none,(.seq #[(vi 15 0),(fC #[(vs "__module__" 194),(vs "_frozen_importlib_external" 192),(vs "__firstlineno__" 195),(vi 1001 193),(vs "__doc__" 196),(vb "_frozen_importlib_external._LoaderBasics.__doc__:str#opaque"),(vs "is_package" 197),(vb "_frozen_importlib_external._LoaderBasics.is_package#opaque"),(vs "create_module" 198),(vb "_frozen_importlib_external._LoaderBasics.create_module#opaque"),(vs "exec_module" 199),(vb "_frozen_importlib_external._LoaderBasics.exec_module#opaque"),(vs "load_module" 200),(vb "_frozen_importlib_external._LoaderBasics.load_module#opaque"),(vs "__static_attributes__" 201),(vi 17 0),(vs "__dict__" 203),(vi 18 0),(vs "__weakref__" 205),(vi 19 0)]),(.bool true),(.bool true),(vs "" 206),(vi 21 0),(fC #[(vs "__module__" 213),(vs "_frozen_importlib_external" 209),(vs "__firstlineno__" 214),(vi 1176 210),(vs "__doc__" 215),(vb "_frozen_importlib_external.FileLoader.__doc__:str#opaque"),(vs "__init__" 216),(vb "_frozen_importlib_external.FileLoader.__init__#opaque"),(vs "__eq__" 217),(vb "_frozen_importlib_external.FileLoader.__eq__#opaque"),(vs "__hash__" 218),(vb "_frozen_importlib_external.FileLoader.__hash__#opaque"),(vs "load_module" 219),(vb "_frozen_importlib_external.FileLoader.load_module#opaque"),(vs "get_filename" 220),(vb "_frozen_importlib_external.FileLoader.get_filename#opaque"),(vs "get_data" 221),(vb "_frozen_importlib_external.FileLoader.get_data#opaque"),(vs "get_resource_reader" 222),(vb "_frozen_importlib_external.FileLoader.get_resource_reader#opaque"),(vs "__static_attributes__" 223),(vi 23 0),(vs "__dict__" 225),(vi 24 0),(vs "__weakref__" 227),(vi 25 0)]),(.bool true),(.bool true),(vs "" 228),(vi 26 0),(fC #[(vs "__module__" 234),(vs "_frozen_importlib_external" 230),(vs "__firstlineno__" 235),(vi 1296 231),(vs "__doc__" 236),(vb "_frozen_importlib_external.ExtensionFileLoader.__doc__:str#opaque"),(vs "__init__" 237),(vb "_frozen_importlib_external.ExtensionFileLoader.__init__#opaque"),(vs "__eq__" 238),(vb "_frozen_importlib_external.ExtensionFileLoader.__eq__#opaque"),(vs "__hash__" 239),(vb "_frozen_importlib_external.ExtensionFileLoader.__hash__#opaque"),(vs "create_module" 240),(vb "_frozen_importlib_external.ExtensionFileLoader.create_module#opaque"),(vs "exec_module" 241),(vb "_frozen_importlib_external.ExtensionFileLoader.exec_module#opaque"),(vs "is_package" 242),(vb "_frozen_importlib_external.ExtensionFileLoader.is_package#opaque"),(vs "get_code" 243),(vb "_frozen_importlib_external.ExtensionFileLoader.get_code#opaque"),(vs "get_source" 244),(vb "_frozen_importlib_external.ExtensionFileLoader.get_source#opaque"),(vs "get_filename" 245),(vb "_frozen_importlib_external.ExtensionFileLoader.get_filename#opaque"),(vs "__static_attributes__" 246),(vi 28 0)]),(.bool true),(.bool true),(vs "" 247),(vi 32 0),(fC #[(vs "__module__" 268),(vs "_frozen_importlib" 258),(vs "__firstlineno__" 269),(vi 562 259),(vs "__doc__" 270),(vb "_frozen_importlib.ModuleSpec.__doc__:str#opaque"),(vs "__init__" 271),(vb "_frozen_importlib.ModuleSpec.__init__#opaque"),(vs "__repr__" 272),(vb "_frozen_importlib.ModuleSpec.__repr__#opaque"),(vs "__eq__" 273),(vb "_frozen_importlib.ModuleSpec.__eq__#opaque"),(vs "cached" 274),(vb "_frozen_importlib.ModuleSpec.cached#opaque"),(vs "parent" 275),(vb "_frozen_importlib.ModuleSpec.parent#opaque"),(vs "has_location" 276),(vb "_frozen_importlib.ModuleSpec.has_location#opaque"),(vs "__static_attributes__" 277),(vi 34 0),(vs "__dict__" 279),(vi 35 0),(vs "__weakref__" 281),(vi 36 0),(vs "__hash__" 282),.none]),(.bool true),(.bool true),(vs "" 283)] 3),#[]⟩,⟨(vt "dict"),none,(.dict (d5 P).toArray 13),#[]⟩,k6 "FileLoader" 22,k5 "name" 211 "path",k7 224 22,k8 226 22,⟨(vt "dict"),none,(.dict (d6 P).toArray 13),#[]⟩,⟨(vt "type"),none,(.cls ⟨S "ExtensionFileLoader",[(vr 22),(vr 16)],[(vr 27),(vr 22),(vr 16),(vt "object")],26,S "ExtensionFileLoader",true,[],[],false,none,false⟩),#[]⟩,k5 "name" 232 "path",k9 27 14,k1 "list",⟨(vt "dict"),none,(.dict (d7 P).toArray 9),#[]⟩,⟨(vt "dict"),none,(.dict (d8 P).toArray 13),#[]⟩,⟨(vt "type"),none,(.cls ⟨S "ModuleSpec",[(vt "object")],[(vr 33),(vt "object")],32,S "ModuleSpec",true,[],[],false,none,false⟩),#[]⟩,k10 "_cached" 260 "_set_fileattr" "_uninitialized_submodules" "loader" "loader_state" "name" "origin" "submodule_search_locations",k7 278 33,k8 280 33,k9 33 31,⟨.none,none,(.seq #[(vi 12 0),(fC #[(vs "__name__" 288),(vs "_struct" 287),(vs "__doc__" 289),(vb "_struct.__doc__:str#opaque"),(vs "__package__" 291),(vs "" 290),(vs "__loader__" 292),(vi 29 0),(vs "__spec__" 293),(vi 37 0),(vs "_clearcache" 294),(vb "_struct._clearcache"),(vs "calcsize" 295),(vb "_struct.calcsize"),(vs "iter_unpack" 296),(vb "_struct.iter_unpack"),(vs "pack" 297),(vb "_struct.pack"),(vs "pack_into" 298),(vb "_struct.pack_into"),(vs "unpack" 299),(vb "_struct.unpack"),(vs "unpack_from" 300),(vb "_struct.unpack_from"),(vs "__file__" 301),(vs "/nix/store/wj1f56qky4pmjc7l0r6b6l7whnnw7hp6-python3-3.13.15/lib/python3.13/lib-dynload/_struct.cpython-313-x86_64-linux-gnu.so" 187),(vs "Struct" 302),(vt "_struct.Struct"),(vs "error" 304),(vt "struct.error")]),(.bool true),(.bool false),(vs "_struct" 306)] 0),#[]⟩]
noncomputable def L1(P:Params):List Obj:=(L0 P).set 12 (⟨(vt "dict"),none,(.dict (d9 P).toArray 15),#[]⟩)
noncomputable def L2(P:Params):List Obj:=L1 P++[k1 "tuple",k2 ,k3 "<module>" 318 1 39 317 321,k4 41 3 "__main__" 164]
noncomputable def L3(P:Params):List Obj:=((L2 P).set 3 (⟨(vt "dict"),none,(.dict (d10 P).toArray 33),#[]⟩)).set 40 (⟨.none,none,(.fields (d11).toArray),#[]⟩)++[k1 "tuple",k2 ,k11 "k" 326,k1 "tuple",k12 1 "_wall",k13 "_wall" 323 "_wall" 2 1 3 43 327 328,k14 1 "_wall" "__main__" 164 48,k15 "str",⟨(vt "tuple"),none,(.seq #[(vt "bytes"),(vt "bytearray")] 0),#[]⟩,⟨(vt "_struct.Struct"),none,(.fields #[(.bytes #[63] 335)]),#[]⟩,k16 66 338,k16 72 341,k16 73 344,k16 81 347,k16 98 350,k16 104 353,k16 105 356,k16 113 359,k15 "object",k17 ,⟨(vt "dict"),none,(.dict (d12 P).toArray 10),#[]⟩,k1 "tuple",k2 ,k3 "BoolFlags" 367 20 64 317 370,k4 66 63 "flatbuffers.number_types" 363,k1 "tuple",⟨(vt "dict"),none,(.dict (d13 P).toArray 4),#[]⟩,k18 "BoolFlags" 70 365,k7 386 70,k8 388 70,k19 70,k20 70,k15 "object",k17 ,k21 P 400 "Uint8Flags" 27 1 408 0 255 "uint8" 53 82,k1 "tuple",k2 ,k3 "Uint8Flags" 395 27 78 317 398,k4 80 77 "flatbuffers.number_types" 363,k1 "tuple",k22 P 400 27 1 408 0 255 "uint8" 53 82,k18 "Uint8Flags" 84 393,k7 420 84,k8 422 84,k19 84,k20 84,k15 "object",k17 ,k21 P 434 "Uint16Flags" 34 2 442 0 65535 "uint16" 54 96,k1 "tuple",k2 ,k3 "Uint16Flags" 429 34 92 317 432,k4 94 91 "flatbuffers.number_types" 363,k1 "tuple",k22 P 434 34 2 442 0 65535 "uint16" 54 96,k18 "Uint16Flags" 98 427,k7 454 98,k8 456 98,k19 98,k20 98,k15 "object",k17 ,k21 P 468 "Uint32Flags" 41 4 476 0 4294967295 "uint32" 55 110,k1 "tuple",k2 ,k3 "Uint32Flags" 463 41 106 317 466,k4 108 105 "flatbuffers.number_types" 363,k1 "tuple",k22 P 468 41 4 476 0 4294967295 "uint32" 55 110,k18 "Uint32Flags" 112 461,k7 488 112,k8 490 112,k19 112,k20 112,k15 "object",k17 ,k21 P 502 "Uint64Flags" 48 8 510 0 18446744073709551615 "uint64" 56 124,k1 "tuple",k2 ,k3 "Uint64Flags" 497 48 120 317 500,k4 122 119 "flatbuffers.number_types" 363,k1 "tuple",k22 P 502 48 8 510 0 18446744073709551615 "uint64" 56 124,k18 "Uint64Flags" 126 495,k7 522 126,k8 524 126,k19 126,k20 126,k15 "object",k17 ,k21 P 536 "Int8Flags" 55 1 547 (-128) 127 "int8" 57 138,k1 "tuple",k2 ,k3 "Int8Flags" 531 55 134 317 534,k4 136 133 "flatbuffers.number_types" 363,k1 "tuple",k22 P 536 55 1 547 (-128) 127 "int8" 57 138,k18 "Int8Flags" 140 529,k7 559 140,k8 561 140,k19 140,k20 140,k15 "object",k17 ,k21 P 573 "Int16Flags" 62 2 584 (-32768) 32767 "int16" 58 152,k1 "tuple",k2 ,k3 "Int16Flags" 568 62 148 317 571,k4 150 147 "flatbuffers.number_types" 363,k1 "tuple",k22 P 573 62 2 584 (-32768) 32767 "int16" 58 152,k18 "Int16Flags" 154 566,k7 596 154,k8 598 154,k19 154,k20 154,k15 "object",k17 ,k21 P 610 "Int32Flags" 69 4 621 (-2147483648) 2147483647 "int32" 59 166,k1 "tuple",k2 ,k3 "Int32Flags" 605 69 162 317 608,k4 164 161 "flatbuffers.number_types" 363,k1 "tuple",k22 P 610 69 4 621 (-2147483648) 2147483647 "int32" 59 166,k18 "Int32Flags" 168 603,k7 633 168,k8 635 168,k19 168,k20 168]
noncomputable def L4(P:Params):List Obj:=(((((L3 P).set 3 (⟨(vt "dict"),none,(.dict (d14 P).toArray 48),#[]⟩)).set 40 (⟨.none,none,(.fields (d15).toArray),#[]⟩)).set 98 (k23 "Uint16Flags" 98 220 427)).set 112 (k23 "Uint32Flags" 112 208 461)).set 168 (k23 "Int32Flags" 168 196 603)++[k15 "object",k17 ,k21 P 647 "Int64Flags" 76 8 658 (-9223372036854775808) 9223372036854775807 "int64" 60 180,k1 "tuple",k2 ,k3 "Int64Flags" 642 76 176 317 645,k4 178 175 "flatbuffers.number_types" 363,k1 "tuple",k22 P 647 76 8 658 (-9223372036854775808) 9223372036854775807 "int64" 60 180,k18 "Int64Flags" 182 640,k7 670 182,k8 672 182,k19 182,k20 182,k24 168,k17 ,k25 P 684 "flatbuffers.number_types" 363 "SOffsetTFlags" 83 194,k1 "tuple",k2 ,k3 "SOffsetTFlags" 679 83 190 317 682,k4 192 189 "flatbuffers.number_types" 363,k1 "tuple",k26 P 684 83 194,k27 "SOffsetTFlags" 168 196 677,k19 196,k20 196,k24 112,k17 ,k25 P 700 "flatbuffers.number_types" 363 "UOffsetTFlags" 85 206,k1 "tuple",k2 ,k3 "UOffsetTFlags" 695 85 202 317 698,k4 204 201 "flatbuffers.number_types" 363,k1 "tuple",k26 P 700 85 206,k27 "UOffsetTFlags" 112 208 693,k19 208,k20 208,k24 98,k17 ,k25 P 716 "flatbuffers.number_types" 363 "VOffsetTFlags" 87 218,k1 "tuple",k2 ,k3 "VOffsetTFlags" 711 87 214 317 714,k4 216 213 "flatbuffers.number_types" 363,k1 "tuple",k26 P 716 87 218,k27 "VOffsetTFlags" 98 220 709,k19 220,k20 220,k1 "tuple",k2 ,k5 "n" 728 "flags",k1 "tuple",k12 29 "enforce_number",k13 "enforce_number" 725 "enforce_number" 89 2 3 223 730 731,k14 29 "enforce_number" "flatbuffers.number_types" 363 228,k1 "tuple",k2 ,k28 "packer_type" 740 "buf" "head" "n",k1 "tuple",k12 32 "Write",k13 "Write" 737 "Write" 96 4 3 230 744 745,k14 32 "Write" "flatbuffers.encode" 733 235,k15 "RuntimeError",k17 ,k25 P 756 "flatbuffers.builder" 747 "OffsetArithmeticError" 99 244,k1 "tuple",k2 ,k3 "OffsetArithmeticError" 751 99 240 317 754,k4 242 239 "flatbuffers.builder" 747,k1 "tuple",k29 P 756 99 244,k30 "OffsetArithmeticError" 246 749,k8 762 246,k19 246,k20 246,k15 "RuntimeError",k17 ,k25 P 774 "flatbuffers.builder" 747 "IsNotNestedError" 101 257,k1 "tuple",k2 ,k3 "IsNotNestedError" 769 101 253 317 772,k4 255 252 "flatbuffers.builder" 747,k1 "tuple",k29 P 774 101 257,k30 "IsNotNestedError" 259 767,k8 780 259,k19 259,k20 259,k15 "RuntimeError",k17 ,k25 P 792 "flatbuffers.builder" 747 "IsNestedError" 103 270,k1 "tuple",k2 ,k3 "IsNestedError" 787 103 266 317 790,k4 268 265 "flatbuffers.builder" 747,k1 "tuple",k29 P 792 103 270,k30 "IsNestedError" 272 785,k8 798 272,k19 272,k20 272,k15 "RuntimeError",k17 ,k25 P 810 "flatbuffers.builder" 747 "StructIsNotInlineError" 105 283,k1 "tuple",k2 ,k3 "StructIsNotInlineError" 805 105 279 317 808,k4 281 278 "flatbuffers.builder" 747,k1 "tuple",k29 P 810 105 283,k30 "StructIsNotInlineError" 285 803,k8 816 285,k19 285,k20 285,k15 "RuntimeError",k17 ,k25 P 828 "flatbuffers.builder" 747 "BuilderSizeError" 107 296,k1 "tuple",k2 ,k3 "BuilderSizeError" 823 107 292 317 826,k4 294 291 "flatbuffers.builder" 747,k1 "tuple",k29 P 828 107 296,k30 "BuilderSizeError" 298 821,k8 834 298,k19 298,k20 298,k15 "RuntimeError",k17 ,k25 P 846 "flatbuffers.builder" 747 "BuilderNotFinishedError" 109 309,k1 "tuple",k2 ,k3 "BuilderNotFinishedError" 841 109 305 317 844,k4 307 304 "flatbuffers.builder" 747,k1 "tuple",k29 P 846 109 309,k30 "BuilderNotFinishedError" 311 839,k8 852 311,k19 311,k20 311,k15 "RuntimeError",k17 ,k25 P 864 "flatbuffers.builder" 747 "EndVectorLengthMismatched" 111 322,k1 "tuple",k2 ,k3 "EndVectorLengthMismatched" 859 111 318 317 862,k4 320 317 "flatbuffers.builder" 747,k1 "tuple",k29 P 864 111 322,k30 "EndVectorLengthMismatched" 324 857,k8 870 324,k19 324,k20 324]
noncomputable def L5(P:Params):List Obj:=((L4 P).set 3 (⟨(vt "dict"),none,(.dict (d16 P).toArray 62),#[]⟩)).set 40 (⟨.none,none,(.fields (d17).toArray),#[]⟩)++[k15 "object",k17 ,⟨(vt "dict"),none,(.dict (d18 P).toArray 61),#[]⟩,k1 "tuple",⟨.none,none,(.fields (d19).toArray),#[]⟩,k3 "Builder" 879 114 331 317 882,k4 333 330 "flatbuffers.builder" 747,k31 "tuple" "Bytes" 889 "current_vtable" "head" "minalign" "objectEnd" "vtables" "nested" "forceDefaults" "finished" "vectorNumElems" "sharedStrings" 0,k32 "tuple" 1024 906,k1 "tuple",k2 ,k33 "self" 910 "initialSize" "msg",k1 "tuple",k34 3 "Builder.__init__",k13 "__init__" 907 "Builder.__init__" 119 2 3 337 913 914,k35 3 "Builder.__init__" 336,k1 "tuple",k2 ,k11 "self" 919,k1 "tuple",k34 4 "Builder.Clear",k13 "Clear" 916 "Builder.Clear" 134 1 3 344 920 921,k36 4 "Builder.Clear" 349,k1 "tuple",k2 ,k11 "self" 926,k1 "tuple",k34 5 "Builder.Output",k13 "Output" 923 "Builder.Output" 146 1 3 351 927 928,k36 5 "Builder.Output" 356,k1 "tuple",k2 ,k5 "self" 933 "numfields",k1 "tuple",k34 6 "Builder.StartObject",k13 "StartObject" 930 "Builder.StartObject" 151 2 3 358 935 936,k36 6 "Builder.StartObject" 363,k1 "tuple",k2 ,⟨(vt "tuple"),none,(.seq #[(vs "self" 941),(vs "objectOffset" 942),(vs "vtKey" 943),(vs "trim" 944),(vs "elem" 945),(vs "objectSize" 946),(vs "vt2Offset" 947),(vs "i" 948),(vs "trailing" 949),(vs "off" 950),(vs "vBytes" 951),(vs "objectStart" 952)] 0),#[]⟩,k1 "tuple",k34 7 "Builder.WriteVtable",k13 "WriteVtable" 938 "Builder.WriteVtable" 157 1 3 365 953 954,k36 7 "Builder.WriteVtable" 370,k1 "tuple",k2 ,k11 "self" 959,k1 "tuple",k34 8 "Builder.EndObject",k13 "EndObject" 956 "Builder.EndObject" 204 1 3 372 960 961,k36 8 "Builder.EndObject" 377,k1 "tuple",k2 ,k28 "self" 966 "msg" "newSize" "bytes2",k1 "tuple",k34 9 "Builder.GrowByteBuffer",k13 "GrowByteBuffer" 963 "Builder.GrowByteBuffer" 209 1 3 379 970 971,k36 9 "Builder.GrowByteBuffer" 384,k1 "tuple",k2 ,k11 "self" 976,k1 "tuple",k34 10 "Builder.Head",k13 "Head" 973 "Builder.Head" 220 1 3 386 977 978,k36 10 "Builder.Head" 391,k1 "tuple",k2 ,k11 "self" 983,k1 "tuple",k34 11 "Builder.Offset",k13 "Offset" 980 "Builder.Offset" 223 1 3 393 984 985,k36 11 "Builder.Offset" 398,k1 "tuple",k2 ,k33 "self" 990 "n" "new_head",k1 "tuple",k34 12 "Builder.Pad",k13 "Pad" 987 "Builder.Pad" 226 2 3 400 993 994,k36 12 "Builder.Pad" 405,k1 "tuple",k2 ,k10 "self" 999 "size" "additionalBytes" "head" "buf_len" "alignSize" "needed" "oldBufSize",k1 "tuple",k34 13 "Builder.Prep",k13 "Prep" 996 "Builder.Prep" 233 3 3 407 1007 1008,k36 13 "Builder.Prep" 412,k1 "tuple",k2 ,k28 "self" 1013 "off" "msg" "off2",k1 "tuple",k34 14 "Builder.PrependSOffsetTRelative",k13 "PrependSOffsetTRelative" 1010 "Builder.PrependSOffsetTRelative" 249 2 3 414 1017 1018,k36 14 "Builder.PrependSOffsetTRelative" 419,k1 "tuple",k2 ,k28 "self" 1023 "off" "msg" "off2",k1 "tuple",k34 15 "Builder.PrependUOffsetTRelative",k13 "PrependUOffsetTRelative" 1020 "Builder.PrependUOffsetTRelative" 257 2 3 421 1027 1028,k36 15 "Builder.PrependUOffsetTRelative" 426,k1 "tuple",k2 ,k28 "self" 1033 "elemSize" "numElems" "alignment",k1 "tuple",k34 16 "Builder.StartVector",k13 "StartVector" 1030 "Builder.StartVector" 265 4 3 428 1037 1038,k36 16 "Builder.StartVector" 433,k37 ,k1 "tuple",k2 ,k5 "self" 1043 "numElems",k1 "tuple",k34 17 "Builder.EndVector",k13 "EndVector" 1040 "Builder.EndVector" 273 2 3 436 1045 1046,k35 17 "Builder.EndVector" 435,k1 "tuple",k2 ,k33 "self" 1051 "s" "off",k1 "tuple",k34 18 "Builder.CreateSharedString",k13 "CreateSharedString" 1048 "Builder.CreateSharedString" 283 2 3 443 1054 1055,k36 18 "Builder.CreateSharedString" 448,k1 "tuple",k2 ,k38 "self" 1060 "s" "x" "payload_len" "new_head",k1 "tuple",k34 19 "Builder.CreateString",k13 "CreateString" 1057 "Builder.CreateString" 292 2 3 450 1065 1066,k36 19 "Builder.CreateString" 455,k1 "tuple",k2 ,k28 "self" 1071 "x" "data_len" "new_head",k1 "tuple",k34 20 "Builder.CreateByteVector",k13 "CreateByteVector" 1068 "Builder.CreateByteVector" 310 2 3 457 1075 1076,k36 20 "Builder.CreateByteVector" 462,k1 "tuple",k2 ,k11 "self" 1081,k1 "tuple",k34 21 "Builder.assertNested",k13 "assertNested" 1078 "Builder.assertNested" 323 1 3 464 1082 1083,k36 21 "Builder.assertNested" 469,k1 "tuple",k2 ,k11 "self" 1088,k1 "tuple",k34 22 "Builder.assertNotNested",k13 "assertNotNested" 1085 "Builder.assertNotNested" 327 1 3 471 1089 1090,k36 22 "Builder.assertNotNested" 476,k1 "tuple",k2 ,k33 "self" 1095 "obj" "msg",k1 "tuple",k34 23 "Builder.assertStructIsInline",k13 "assertStructIsInline" 1092 "Builder.assertStructIsInline" 331 2 3 478 1098 1099,k36 23 "Builder.assertStructIsInline" 483,k1 "tuple",k2 ,k5 "self" 1104 "slotnum",k1 "tuple",k34 24 "Builder.Slot",k13 "Slot" 1101 "Builder.Slot" 337 2 3 485 1106 1107,k36 24 "Builder.Slot" 490,k37 ,k1 "tuple",k2 ,k39 "self" 1112 "rootTable" "sizePrefix" "file_identifier" "prepSize" "i" "size",k1 "tuple",k34 25 "Builder.__Finish",k13 "__Finish" 1109 "Builder.__Finish" 341 4 3 493 1119 1120,k35 25 "Builder.__Finish" 492,k37 ,k1 "tuple",k2 ,k33 "self" 1125 "rootTable" "file_identifier",k1 "tuple",k34 26 "Builder.Finish",k13 "Finish" 1122 "Builder.Finish" 362 3 3 501 1128 1129,k35 26 "Builder.Finish" 500,k37 ,k1 "tuple",k2 ,k33 "self" 1134 "rootTable" "file_identifier",k1 "tuple",k34 27 "Builder.FinishSizePrefixed",k13 "FinishSizePrefixed" 1131 "Builder.FinishSizePrefixed" 365 3 3 509 1137 1138,k35 27 "Builder.FinishSizePrefixed" 508,k1 "tuple",k2 ,k33 "self" 1143 "flags" "off",k1 "tuple",k34 28 "Builder.Prepend",k13 "Prepend" 1140 "Builder.Prepend" 368 3 3 516 1146 1147,k36 28 "Builder.Prepend" 521,k1 "tuple",k2 ,k38 "self" 1152 "flags" "o" "x" "d",k1 "tuple",k34 29 "Builder.PrependSlot",k13 "PrependSlot" 1149 "Builder.PrependSlot" 372 5 3 523 1157 1158,k36 29 "Builder.PrependSlot" 528,k1 "tuple",k2 ,k5 "self" 1163 "args",k1 "tuple",k34 30 "Builder.PrependBoolSlot",k13 "PrependBoolSlot" 1160 "Builder.PrependBoolSlot" 381 1 7 530 1165 1166,k36 30 "Builder.PrependBoolSlot" 535,k1 "tuple",k2 ,k5 "self" 1171 "args",k1 "tuple",k34 31 "Builder.PrependByteSlot",k13 "PrependByteSlot" 1168 "Builder.PrependByteSlot" 384 1 7 537 1173 1174,k36 31 "Builder.PrependByteSlot" 542,k1 "tuple",k2 ,k5 "self" 1179 "args",k1 "tuple",k34 32 "Builder.PrependUint8Slot",k13 "PrependUint8Slot" 1176 "Builder.PrependUint8Slot" 387 1 7 544 1181 1182,k36 32 "Builder.PrependUint8Slot" 549,k1 "tuple",k2 ,k5 "self" 1187 "args",k1 "tuple",k34 33 "Builder.PrependUint16Slot",k13 "PrependUint16Slot" 1184 "Builder.PrependUint16Slot" 390 1 7 551 1189 1190,k36 33 "Builder.PrependUint16Slot" 556,k1 "tuple",k2 ,k5 "self" 1195 "args",k1 "tuple",k34 34 "Builder.PrependUint32Slot",k13 "PrependUint32Slot" 1192 "Builder.PrependUint32Slot" 393 1 7 558 1197 1198,k36 34 "Builder.PrependUint32Slot" 563,k1 "tuple",k2 ,k5 "self" 1203 "args",k1 "tuple",k34 35 "Builder.PrependUint64Slot",k13 "PrependUint64Slot" 1200 "Builder.PrependUint64Slot" 396 1 7 565 1205 1206,k36 35 "Builder.PrependUint64Slot" 570,k1 "tuple",k2 ,k5 "self" 1211 "args",k1 "tuple",k34 36 "Builder.PrependInt8Slot",k13 "PrependInt8Slot" 1208 "Builder.PrependInt8Slot" 399 1 7 572 1213 1214,k36 36 "Builder.PrependInt8Slot" 577,k1 "tuple",k2 ,k5 "self" 1219 "args",k1 "tuple",k34 37 "Builder.PrependInt16Slot",k13 "PrependInt16Slot" 1216 "Builder.PrependInt16Slot" 402 1 7 579 1221 1222,k36 37 "Builder.PrependInt16Slot" 584,k1 "tuple",k2 ,k5 "self" 1227 "args",k1 "tuple",k34 38 "Builder.PrependInt32Slot",k13 "PrependInt32Slot" 1224 "Builder.PrependInt32Slot" 405 1 7 586 1229 1230,k36 38 "Builder.PrependInt32Slot" 591,k1 "tuple",k2 ,k5 "self" 1235 "args",k1 "tuple",k34 39 "Builder.PrependInt64Slot",k13 "PrependInt64Slot" 1232 "Builder.PrependInt64Slot" 408 1 7 593 1237 1238,k36 39 "Builder.PrependInt64Slot" 598,k1 "tuple",k2 ,k28 "self" 1243 "o" "x" "d",k1 "tuple",k34 40 "Builder.PrependUOffsetTRelativeSlot",k13 "PrependUOffsetTRelativeSlot" 1240 "Builder.PrependUOffsetTRelativeSlot" 411 4 3 600 1247 1248,k36 40 "Builder.PrependUOffsetTRelativeSlot" 605,k1 "tuple",k2 ,k28 "self" 1253 "v" "x" "d",k1 "tuple",k34 41 "Builder.PrependStructSlot",k13 "PrependStructSlot" 1250 "Builder.PrependStructSlot" 416 4 3 607 1257 1258,k36 41 "Builder.PrependStructSlot" 612,k1 "tuple",k2 ,k5 "self" 1263 "x",k1 "tuple",k34 42 "Builder.PrependBool",k13 "PrependBool" 1260 "Builder.PrependBool" 422 2 3 614 1265 1266,k36 42 "Builder.PrependBool" 619,k1 "tuple",k2 ,k5 "self" 1271 "x",k1 "tuple",k34 43 "Builder.PrependByte",k13 "PrependByte" 1268 "Builder.PrependByte" 425 2 3 621 1273 1274,k36 43 "Builder.PrependByte" 626,k1 "tuple",k2 ,k5 "self" 1279 "x",k1 "tuple",k34 44 "Builder.PrependUint8",k13 "PrependUint8" 1276 "Builder.PrependUint8" 428 2 3 628 1281 1282,k36 44 "Builder.PrependUint8" 633,k1 "tuple",k2 ,k5 "self" 1287 "x",k1 "tuple",k34 45 "Builder.PrependUint16",k13 "PrependUint16" 1284 "Builder.PrependUint16" 431 2 3 635 1289 1290,k36 45 "Builder.PrependUint16" 640,k1 "tuple",k2 ,k5 "self" 1295 "x",k1 "tuple",k34 46 "Builder.PrependUint32",k13 "PrependUint32" 1292 "Builder.PrependUint32" 434 2 3 642 1297 1298,k36 46 "Builder.PrependUint32" 647,k1 "tuple",k2 ,k5 "self" 1303 "x",k1 "tuple",k34 47 "Builder.PrependUint64",k13 "PrependUint64" 1300 "Builder.PrependUint64" 437 2 3 649 1305 1306,k36 47 "Builder.PrependUint64" 654,k1 "tuple",k2 ,k5 "self" 1311 "x",k1 "tuple",k34 48 "Builder.PrependInt8",k13 "PrependInt8" 1308 "Builder.PrependInt8" 440 2 3 656 1313 1314,k36 48 "Builder.PrependInt8" 661,k1 "tuple",k2 ,k5 "self" 1319 "x",k1 "tuple",k34 49 "Builder.PrependInt16",k13 "PrependInt16" 1316 "Builder.PrependInt16" 443 2 3 663 1321 1322,k36 49 "Builder.PrependInt16" 668,k1 "tuple",k2 ,k5 "self" 1327 "x",k1 "tuple",k34 50 "Builder.PrependInt32",k13 "PrependInt32" 1324 "Builder.PrependInt32" 446 2 3 670 1329 1330,k36 50 "Builder.PrependInt32" 675,k1 "tuple",k2 ,k5 "self" 1335 "x",k1 "tuple",k34 51 "Builder.PrependInt64",k13 "PrependInt64" 1332 "Builder.PrependInt64" 449 2 3 677 1337 1338,k36 51 "Builder.PrependInt64" 682,k1 "tuple",k2 ,k5 "self" 1343 "forceDefaults",k1 "tuple",k34 52 "Builder.ForceDefaults",k13 "ForceDefaults" 1340 "Builder.ForceDefaults" 452 2 3 684 1345 1346,k36 52 "Builder.ForceDefaults" 689,k1 "tuple",k2 ,k5 "self" 1351 "x",k1 "tuple",k34 53 "Builder.PrependVOffsetT",k13 "PrependVOffsetT" 1348 "Builder.PrependVOffsetT" 455 2 3 691 1353 1354,k36 53 "Builder.PrependVOffsetT" 696,k1 "tuple",k2 ,k28 "self" 1359 "x" "flags" "new_head",k1 "tuple",k34 54 "Builder.Place",k13 "Place" 1356 "Builder.Place" 458 3 3 698 1363 1364,k36 54 "Builder.Place" 703,k1 "tuple",k2 ,k5 "self" 1369 "x",k1 "tuple",k34 55 "Builder.PlaceVOffsetT",k13 "PlaceVOffsetT" 1366 "Builder.PlaceVOffsetT" 464 2 3 705 1371 1372,k36 55 "Builder.PlaceVOffsetT" 710,k1 "tuple",k2 ,k33 "self" 1377 "x" "new_head",k1 "tuple",k34 56 "Builder.PlaceSOffsetT",k13 "PlaceSOffsetT" 1374 "Builder.PlaceSOffsetT" 467 2 3 712 1380 1381,k36 56 "Builder.PlaceSOffsetT" 717,k1 "tuple",k2 ,k33 "self" 1386 "x" "new_head",k1 "tuple",k34 57 "Builder.PlaceUOffsetT",k13 "PlaceUOffsetT" 1383 "Builder.PlaceUOffsetT" 473 2 3 719 1389 1390,k36 57 "Builder.PlaceUOffsetT" 724,k31 "tuple" "Bytes" 1392 "current_vtable" "finished" "forceDefaults" "head" "minalign" "nested" "objectEnd" "sharedStrings" "vectorNumElems" "vtables" 0,k31 "list" "Bytes" 889 "current_vtable" "head" "minalign" "objectEnd" "vtables" "nested" "forceDefaults" "finished" "vectorNumElems" "sharedStrings" 1,⟨(vt "dict"),none,(.dict (d20 P).toArray 13),#[]⟩,⟨(vt "type"),none,(.cls ⟨S "Builder",[(vt "object")],[(vr 729),(vt "object")],728,S "Builder",false,[(S "Bytes"),(S "current_vtable"),(S "finished"),(S "forceDefaults"),(S "head"),(S "minalign"),(S "nested"),(S "objectEnd"),(S "sharedStrings"),(S "vectorNumElems"),(S "vtables")],[],false,none,false⟩),#[some (vr 328),none,some (vs "Builder" 877),some (vs "Builder" 885),some (vb "object.__new__"),some (.bool false)]⟩,k40 "Bytes" 1404 10,k40 "current_vtable" 1406 9,k40 "finished" 1408 8,k40 "forceDefaults" 1410 7,k40 "head" 1412 6,k40 "minalign" 1414 5,k40 "nested" 1416 4,k40 "objectEnd" 1418 3,k40 "sharedStrings" 1420 2,k40 "vectorNumElems" 1422 1,k40 "vtables" 1424 0,k19 729,k20 729,k32 "list" 97 1432,k41 "a" 1431 743,⟨(vt "list"),none,(.seq #[(vi 195 1434),(vi 169 1435)] 0),#[]⟩,k41 "é" 1433 745,⟨(vt "list"),none,(.seq #[(vi 226 1437),(vi 130 1438),(vi 172 1439)] 0),#[]⟩,k41 "€" 1436 747,⟨(vt "list"),none,(.seq #[(vi 240 1441),(vi 159 1442),(vi 152 1443),(vi 128 1444)] 0),#[]⟩,k41 "😀" 1440 749,⟨(vt "list"),none,(.seq #[(vr 744),(vr 746),(vr 748),(vr 750)] 0),#[]⟩,k1 "tuple",k2 ,k1 "tuple",k1 "tuple",k12 45 "_law_kinds",k13 "_law_kinds" 1446 "_law_kinds" 480 0 3 752 1449 1450,k14 45 "_law_kinds" "law_ke0008_01" 1429 757,k1 "tuple",k2 ,k33 "box" 1455 "many" "number",k1 "tuple",k12 46 "_law_take",k13 "_law_take" 1452 "_law_take" 482 2 3 759 1458 1459,k14 46 "_law_take" "law_ke0008_01" 1429 764,k1 "tuple",k2 ,k39 "box" 1464 "kind" "width" "low" "high" "number" "rest",k1 "tuple",k12 47 "_law_value",k13 "_law_value" 1461 "_law_value" 488 2 3 766 1471 1472,k14 47 "_law_value" "law_ke0008_01" 1429 771,k1 "tuple",k2 ,⟨(vt "tuple"),none,(.seq #[(vs "box" 1477),(vs "text" 1478),(vs "octets" 1479),(vs "k" 1480),(vs "sign" 1481),(vs "part" 1482)] 0),#[]⟩,k1 "tuple",k12 48 "_law_text",k13 "_law_text" 1474 "_law_text" 495 1 3 773 1483 1484,k14 48 "_law_text" "law_ke0008_01" 1429 778,k1 "tuple",k2 ,k33 "builder" 1489 "kind" "n",k1 "tuple",k12 49 "_law_put",k13 "_law_put" 1486 "_law_put" 503 3 3 780 1492 1493,k14 49 "_law_put" "law_ke0008_01" 1429 785,k1 "tuple",k2 ,k38 "builder" 1498 "kind" "slot" "n" "without",k1 "tuple",k12 50 "_law_slot",k13 "_law_slot" 1495 "_law_slot" 522 5 3 787 1503 1504,k14 50 "_law_slot" "law_ke0008_01" 1429 792,k1 "tuple",k2 ,k33 "mine" 1509 "width" "behind",k1 "tuple",k12 51 "_law_align",k13 "_law_align" 1506 "_law_align" 541 3 3 794 1512 1513,k14 51 "_law_align" "law_ke0008_01" 1429 799,k1 "tuple",k2 ,k28 "mine" 1518 "width" "n" "k",k1 "tuple",k12 52 "_law_write",k13 "_law_write" 1515 "_law_write" 546 3 3 801 1522 1523,k14 52 "_law_write" "law_ke0008_01" 1429 806,k1 "tuple",k2 ,k33 "mine" 1528 "octets" "zeros",k1 "tuple",k12 53 "_law_octets",k13 "_law_octets" 1525 "_law_octets" 549 3 3 808 1531 1532,k14 53 "_law_octets" "law_ke0008_01" 1429 813,k1 "tuple",k2 ,k12 54 "_law_numbers",k42 "_law_numbers" 1534 554 3 815 1537,k14 54 "_law_numbers" "law_ke0008_01" 1429 818,k1 "tuple",k2 ,k5 "mine" 1543 "place",k1 "tuple",k12 55 "_law_offset",k13 "_law_offset" 1540 "_law_offset" 570 2 3 820 1545 1546,k14 55 "_law_offset" "law_ke0008_01" 1429 825,k1 "tuple",k2 ,k12 56 "_law_offsets",k42 "_law_offsets" 1548 573 3 827 1551,k14 56 "_law_offsets" "law_ke0008_01" 1429 830]
noncomputable def L6(P:Params):List Obj:=((L5 P).set 3 (⟨(vt "dict"),none,(.dict (d21 P).toArray 67),#[]⟩)).set 40 (⟨.none,none,(.fields (d22).toArray),#[]⟩)++[k1 "tuple",k2 ,k31 "tuple" "builder" 1557 "mine" "box" "slot" "what" "a" "b" "place" "without" "kind" "n" 0,k1 "tuple",k12 57 "_law_field",k13 "_law_field" 1554 "_law_field" 586 4 3 832 1568 1569,k14 57 "_law_field" "law_ke0008_01" 1429 837,k1 "tuple",k2 ,k12 58 "_law_table",k42 "_law_table" 1571 618 3 839 1574,k14 58 "_law_table" "law_ke0008_01" 1429 842,k1 "tuple",k2 ,k39 "builder" 1580 "mine" "box" "pick" "told" "text" "octets",k1 "tuple",k12 59 "_law_thing",k13 "_law_thing" 1577 "_law_thing" 644 3 3 844 1587 1588,k14 59 "_law_thing" "law_ke0008_01" 1429 849,k1 "tuple",k2 ,k12 60 "_law_finish",k42 "_law_finish" 1590 669 4 851 1593,k14 60 "_law_finish" "law_ke0008_01" 1429 854,k1 "tuple",k2 ,k10 "script" 1599 "box" "builder" "mine" "turn" "root" "told" "found",k1 "tuple",k12 61 "law",k13 "law" 1596 "law" 681 1 3 856 1607 1608,k14 61 "law" "law_ke0008_01" 1429 861]
noncomputable def tZ(P:Params):BT:=tR (L0 P)
noncomputable def h0(P:Params):Heap:=⟨(L1 P).toArray,life⟩
noncomputable def ha(P:Params):Heap:=⟨(L2 P).toArray,life⟩
noncomputable def tB(P:Params):BT:=tR (L2 P)
noncomputable def SB(w:World)(os:OsState):SharedT:=⟨tB w.params,43,life,#[],dr,323,os⟩
noncomputable def t0(P:Params):BT:=tR (L3 P)
noncomputable def S0(w:World)(os:OsState):SharedT:=⟨t0 w.params,173,life,#[],dr,640,os⟩
noncomputable def g0:List Stmt:=cut (behindTheImports pw) 0 24
theorem r0(w:World)(os:OsState):c9 dN pw w 39 (some (vr 6)) 1 2570 (SB w os) (piecesOf g0 env cE ⟨0,0,0,0⟩ [topFrame ⟨0,0,0,0⟩])=some (Flow.next,S0 w os,cE,⟨69,0,75,23⟩):=by kernel_rfl
noncomputable def t1(P:Params):BT:=tR (L4 P)
noncomputable def S1(w:World)(os:OsState):SharedT:=⟨t1 w.params,328,life,#[],dr,877,os⟩
noncomputable def g1:List Stmt:=cut (behindTheImports pw) 24 17
theorem r1(w:World)(os:OsState):c9 dN pw w 39 (some (vr 6)) 1 2324 (S0 w os) (piecesOf g1 env cE ⟨69,0,75,23⟩ [topFrame ⟨0,0,0,0⟩])=some (Flow.next,S1 w os,cE,⟨113,0,113,20⟩):=by kernel_rfl
noncomputable def t2(P:Params):BT:=tR (L5 P)
noncomputable def S2(w:World)(os:OsState):SharedT:=⟨t2 w.params,832,life,#[],dr,1554,os⟩
noncomputable def g2:List Stmt:=cut (behindTheImports pw) 41 15
theorem r2(w:World)(os:OsState):c9 dN pw w 39 (some (vr 6)) 1 2570 (S1 w os) (piecesOf g2 env cE ⟨113,0,113,20⟩ [topFrame ⟨0,0,0,0⟩])=some (Flow.next,S2 w os,cE,⟨573,0,585,30⟩):=by kernel_rfl
noncomputable def t3(P:Params):BT:=tR (L6 P)
noncomputable def S3(w:World)(os:OsState):SharedT:=⟨t3 w.params,863,life,#[],dr,1610,os⟩
noncomputable def g3:List Stmt:=cut (behindTheImports pw) 56 5
theorem r3(w:World)(os:OsState):c9 dN pw w 39 (some (vr 6)) 1 163 (S2 w os) (piecesOf g3 env cE ⟨573,0,585,30⟩ [topFrame ⟨0,0,0,0⟩])=some (Flow.next,S3 w os,cE,⟨681,0,702,77⟩):=by kernel_rfl
noncomputable def h1(P:Params):Heap:=⟨(L6 P).toArray,life⟩
noncomputable abbrev nQ:=@PySem.W.Fast.tw10156331382660048174
noncomputable abbrev gC:=@PySem.W.Fast.tw11892475500146522536
noncomputable abbrev gD:=@PySem.W.Fast.tw3805553451399329143
noncomputable abbrev tx:=@PySem.W.Fast.tw15667345088766844465
noncomputable abbrev pF:=@PySem.W.Fast.tw14082659384304107361
noncomputable abbrev tz:=@PySem.W.Fast.tw14289696077712309145
theorem tA:@segRunT=c9:=PySem.W.Fast.te10110043849684766642
theorem pG:treeTable=dN:=PySem.W.Fast.te14364793385576792824
theorem zX:@stepT=nQ:=PySem.W.Fast.te10156331382660048174
theorem pH:@denote=gC:=PySem.W.Fast.te11892475500146522536
theorem xa:@Thread.atExitBegin=gD:=PySem.W.Fast.te3805553451399329143
theorem zY:@topGo=tx:=PySem.W.Fast.te15667345088766844465
theorem xb:@topRun=pF:=PySem.W.Fast.te14082659384304107361
theorem zZ:@fenceModules?=tz:=PySem.W.Fast.te14289696077712309145
noncomputable def jW(p:Program)(w:World):Nat->SharedT->Thread->Option SharedT
 | 0,_1,_2=>none
 | n+1,s,t=>match gD t with
  | some []=>some s
  | some (_1::_)=>none
  | none=>match nQ (gC dN) p w s t with
   | some (s',t')=>jW p w n s' t'
   | none=>none
theorem jl{p:Program}{w:World}:∀{n:Nat}{s s':SharedT}{t:Thread},jW p w n s t=some s'->importEnds treeTable p w n s.abs t=some s'.abs
 | 0,_1,_2,_3,h=>by cases h
 | n+1,s,s',t,h=>by
  unfold jW at h
  unfold importEnds
  rw [show Thread.atExitBegin t=gD t from congrFun xa t]
  generalize gD t=x at h ⊢
  match x,h with
  | some [],h=>cases h; rfl
  | some (_1::_),h=>cases h
  | none,h =>
   cases hs:nQ (gC dN) p w s t with
   | none=>rw [hs] at h; cases h
   | some r =>
    obtain⟨s₂,t₂⟩:=r
    rw [hs] at h
    have hs':stepT (denote treeTable) p w s t=some (s₂,t₂):=by rw [zX,pH,pG]; exact hs
    dsimp only
    rw [stepT_spec hs']
    exact jl h
theorem eC{p:Program}{w:World}{m:Nat}{ann:Option Value}{b n:Nat}{s s':SharedT}{t:Thread}{f:Flow}{c:Code}{q:Pos}
 (h:c9 dN p w m ann b n s t=some (f,s',c,q)):segRun treeTable p w m ann b n s.abs t=some (f,s'.abs,c,q) :=
 segRun_of (by rw [tA,pG]; exact h)
noncomputable def he(P:Params):Heap:=absHeap (tZ P) 39 life
theorem xc(w:World):jW (opening pw) w 1015 ⟨.nil,0,life,#[],dr,1,(start (opening pw)).1.os⟩ (start (opening pw)).2=some ⟨tZ w.params,39,life,#[],dr,317,(start (opening pw)).1.os⟩:=by kernel_rfl
theorem open0(w:World):importEnds treeTable (opening pw) w 1015 (start (opening pw)).1 (start (opening pw)).2=some ⟨he w.params,#[],dr,317,(start (opening pw)).1.os⟩:=jl (s:=⟨.nil,0,life,#[],dr,1,(start (opening pw)).1.os⟩) (xc w)
theorem z5(w:World)(os:OsState):(tz pw ⟨he w.params,#[],dr,317,os⟩).map (λs=>(s.heap,s.gens,s.drawn,s.toks))=some (h0 w.params,#[],dr,317):=by kernel_rfl
theorem z7(w:World):(λos=>(fenceModules? pw ⟨he w.params,#[],dr,317,os⟩).map (λs=>(s.heap,s.gens,s.drawn,s.toks)))=λ_1=>some (h0 w.params,#[],dr,317):=by rw [zZ]; exact funext (z5 w)
theorem pre0(w:World)(os:OsState):tx dN pw w 39 (some (vr 6)) 12 ⟨h0 w.params,#[],dr,317,os⟩ (topStub pw)=some (⟨ha w.params,#[],dr,323,os⟩,⟨gC dN cE,cE,⟨0,0,0,0⟩,[topFrame ⟨0,0,0,0⟩]⟩):=by kernel_rfl
theorem pre1(w:World)(os:OsState):topGo treeTable pw w 39 (some (vr 6)) 12 ⟨h0 w.params,#[],dr,317,os⟩ (topStub pw)=some (⟨ha w.params,#[],dr,323,os⟩,⟨denote treeTable cE,cE,⟨0,0,0,0⟩,[topFrame ⟨0,0,0,0⟩]⟩):=by rw [zY,pG,pH]; exact pre0 w os
theorem z8(w:World)(os:OsState):segRun treeTable pw w 39 (some (vr 6)) 1 1 ⟨ha w.params,#[],dr,323,os⟩ (blockOf (behindTheImports pw) env cE ⟨0,0,0,0⟩ [topFrame ⟨0,0,0,0⟩])=some (Flow.next,(SB w os).abs,cE,⟨0,0,0,0⟩):=by kernel_rfl
theorem fin0(w:World)(os:OsState):pF dN pw w 39 (some (vr 6)) 2 (S3 w os).abs ⟨doneF .next,cE,⟨681,0,702,77⟩,[topFrame ⟨0,0,0,0⟩]⟩=some ⟨h1 w.params,#[],dr,1610,os⟩:=by kernel_rfl
theorem fin1(w:World)(os:OsState):topRun treeTable pw w 39 (some (vr 6)) 2 (S3 w os).abs ⟨doneF .next,cE,⟨681,0,702,77⟩,[topFrame ⟨0,0,0,0⟩]⟩=some ⟨h1 w.params,#[],dr,1610,os⟩:=by rw [xb,pG]; exact fin0 w os
theorem z9:behindTheImports pw=(g0++(g1++(g2++(g3++[])))):=by kernel_rfl
theorem rest0(w:World)(os:OsState):topRun treeTable pw w 39 (some (vr 6)) (2570+(2324+(2570+(163+2)))) (SB w os).abs (restOf (behindTheImports pw) env cE ⟨0,0,0,0⟩ [topFrame ⟨0,0,0,0⟩])=some ⟨h1 w.params,#[],dr,1610,os⟩:=by
 rw [z9]
 exact piece_app (eC (r0 w os)) (piece_app (eC (r1 w os)) (piece_app (eC (r2 w os)) (piece_app (eC (r3 w os)) (piece_nil (fin1 w os)))))
theorem run0(w:World)(os:OsState):topRun treeTable pw w 39 (some (vr 6)) (12+(1+(2570+(2324+(2570+(163+2)))))) ⟨h0 w.params,#[],dr,317,os⟩ (topStub pw)=some ⟨h1 w.params,#[],dr,1610,os⟩ :=
 go_top (pre1 w os) (piece_block (z8 w os) (rest0 w os))
theorem size0(w:World):((h0 w.params).isNs mainGlobals&&(#[]:Array GenState).size==0,(h0 w.params).objs.size,(h0 w.params).nsMap mainGlobals "__annotations__")=(true,39,(some (vr 6))):=by kernel_rfl
end
end
section
open PySem PySem.W PyProof.Rows
section
abbrev rw0:OpenLaw:=PySem.Challenge.rw_ke0008_01
noncomputable abbrev jm:=@PySem.W.Fast.tw4187177175401517315
theorem rh:@openSeen=@jm:=@PySem.W.Fast.te4187177175401517315
noncomputable def qv:Program:={ pw with main:={ pw.main with body:=[top 61] } }
noncomputable def lu:List Str:=[S "Struct",S "unpack",S "_wall",S "string_types",S "binary_types",S "boolean",S "uint8",S "uint16",S "uint32",S "uint64",S "int8",S "int16",S "int32",S "int64",S "uoffset",S "soffset",S "BoolFlags",S "Uint8Flags",S "Uint16Flags",S "Uint32Flags",S "Uint64Flags",S "Int8Flags",S "Int16Flags",S "Int32Flags",S "Int64Flags",S "SOffsetTFlags",S "UOffsetTFlags",S "VOffsetTFlags",S "enforce_number",S "FILE_IDENTIFIER_LENGTH",S "Write",S "OffsetArithmeticError",S "IsNotNestedError",S "IsNestedError",S "StructIsNotInlineError",S "BuilderSizeError",S "BuilderNotFinishedError",S "EndVectorLengthMismatched",S "VtableMetadataFields",S "Builder",S "_law_signs",S "_law_kinds",S "_law_take",S "_law_value",S "_law_text",S "_law_put",S "_law_slot",S "_law_align",S "_law_write",S "_law_octets",S "_law_numbers",S "_law_offset",S "_law_offsets",S "_law_field",S "_law_table",S "_law_thing",S "_law_finish"]
noncomputable def xt(s:Shared):Bool:=xlAt qv [] s&&recOk [] s
theorem look1(w:World)(os:OsState):(staticsOk (importedModules pw.main.body) (h0 w.params) (h1 w.params)&&namesBound pw (h1 w.params)&&gensDone ⟨h1 w.params,#[],dr,1610,os⟩&&laidKept (h0 w.params) (h1 w.params))=true:=by kernel_rfl
theorem look2(w:World)(os:OsState):jm qv lu (importedModules pw.main.body) xt true ⟨h1 w.params,#[],dr,1610,os⟩=openGood qv lu:=by kernel_rfl
theorem looks(w:World):(λos=>((staticsOk (importedModules pw.main.body) (h0 w.params) (h1 w.params)&&namesBound pw (h1 w.params)&&gensDone ⟨h1 w.params,#[],dr,1610,os⟩&&laidKept (h0 w.params) (h1 w.params)),
 openSeen qv lu (importedModules pw.main.body) xt true ⟨h1 w.params,#[],dr,1610,os⟩,(λs:Shared=>s.heap) ⟨h1 w.params,#[],dr,1610,os⟩))=λ_1=>(true,openGood qv lu,(λw:World=>h1 w.params) w) :=
 funext λos=>by rw [look1,rh,look2]
theorem left:LeftO pw qv lu xt (λs=>s.heap) (λw=>h1 w.params) 7642 :=
 LeftO.of_pieces (H₀:=h0) (H₁:=h1) (M:=(12+(1+(2570+(2324+(2570+(163+2))))))) (open_cut open0 (by decide) z7) size0 run0 (by decide) looks
end
end
section
open PySem PySem.W PyProof.Rows
section
noncomputable abbrev jX:=@PySem.W.Fast.tw8326940854005059898
theorem pI:@noRoadLSs=@jX:=@PySem.W.Fast.te8326940854005059898
noncomputable abbrev yL:=@PySem.W.Fast.tw17119622794617984870
theorem eMeet:@namesMeet=@yL:=@PySem.W.Fast.te17119622794617984870
noncomputable abbrev lw:=@PySem.W.Fast.tw16286561074155671207
theorem tC:@OpenLaw.namesIt=@lw:=@PySem.W.Fast.te16286561074155671207
theorem sa1:sreFenced rw0.row.prog.main=true:=by kernel_rfl
theorem sa2:((moduleNames rw0.row.prog.main.body).isEmpty || lookedIntoSs (moduleNames rw0.row.prog.main.body) rw0.row.prog.main.body)=true:=by kernel_rfl
theorem sa3:namesResolve rw0.row.prog=true:=by kernel_rfl
theorem sa4:(rw0.row.prog.boundNames.all λn=>!worldNames.contains n)=true:=by kernel_rfl
theorem sa5b:(List.filter (readsOut rw0.row.prog rw0.row.prog.main.body) [Str.ofString "vars",Str.ofString "dir",Str.ofString "locals"])=[]:=by kernel_rfl
theorem sa5q:jX { strict:=!(importedModules rw0.row.prog.main.body).all cThrough.contains,foot:=none,bare:=[] } rw0.row.prog.main.body=true:=by kernel_rfl
theorem sa5:noRoadLSs { strict:=!(importedModules rw0.row.prog.main.body).all cThrough.contains,foot:=none,bare:=List.filter (readsOut rw0.row.prog rw0.row.prog.main.body) [Str.ofString "vars",Str.ofString "dir",Str.ofString "locals"] } rw0.row.prog.main.body=true:=by
 rw [sa5b,pI]; exact sa5q
theorem sa6q:(yL rw0.row.prog rw0.row.prog.main.body λ_1 n=>attrL n)=true:=by kernel_rfl
theorem sa6:(namesMeet rw0.row.prog rw0.row.prog.main.body λ_1 n=>attrL n)=true:=by rw [eMeet]; exact sa6q
theorem saL:looksOpen rw0.row.prog=true:=look_both (look_both (look_both (look_both (look_both sa1 sa2) sa3) sa4) sa5) sa6
theorem saP:rw0.row.partSaid=true :=
 look_both (look_both (look_both (look_both (look_both (look_both (look_both (look_both (look_both (look_both (look_both (look_both (look_both
  saL (by kernel_rfl)) (by kernel_rfl)) (by kernel_rfl)) (by kernel_rfl)) (by decide)) (by kernel_rfl)) (by kernel_rfl)) (by kernel_rfl)) (by kernel_rfl)) (by kernel_rfl)) (by kernel_rfl)) (by kernel_rfl)) (by kernel_rfl)
theorem saR:rw0.row.wellSaid=true:=look_both (look_both saP (by kernel_rfl)) (by kernel_rfl)
theorem sb1:decide (rw0.foot<=(behindTheImports rw0.prog).length)=true:=by kernel_rfl
theorem sb2:rw0.footing.all footLine=true:=by kernel_rfl
theorem sb3:noClassBlock rw0.prog rw0.footing=true:=by kernel_rfl
theorem sb4:Option.all (λn=>decide (63<=n)) rw0.most=true:=by kernel_rfl
theorem sb5:Option.all (λn=>decide (2 ^ 63<=n)) rw0.bound=true:=by kernel_rfl
theorem sb6q:jX { strict:=true,foot:=some rw0.bound',writes:=rw0.writes,may:=rw0.may } rw0.footing=true:=by kernel_rfl
theorem sb6:noRoadLSs { strict:=true,foot:=some rw0.bound',writes:=rw0.writes,may:=rw0.may } rw0.footing=true:=by rw [pI]; exact sb6q
theorem sb7:defStands rw0.about rw0.above=true:=by kernel_rfl
theorem sb8q:lw rw0=true:=by kernel_rfl
theorem sb8:rw0.namesIt=true:=by rw [tC]; exact sb8q
theorem sb9:(([Str.ofString "type",Str.ofString "isinstance",Str.ofString "issubclass",Str.ofString "getattr",Str.ofString "hasattr"]:List Str).all λn=>rw0.about != [n])=true:=by kernel_rfl
theorem sb10:(rw0.bound'.all λn=>!builtinNamed n || rw0.about==[n] || !rw0.reads n)=true:=by kernel_rfl
theorem sb11:(!rw0.writes || (List.flatMap importedNames rw0.prog.main.body).all λn=>!rw0.reads n)=true:=by kernel_rfl
theorem sb12:((List.flatMap importedNames rw0.prog.main.body).all λn=>!rw0.reads n || (drawsOf n rw0.prog.main.body).all λmn=>mn.snd != Str.ofString "attrgetter"&&mn.snd != Str.ofString "methodcaller")=true:=by kernel_rfl
theorem sb13:(namesMeet rw0.prog rw0.footing λsc n =>
 (!([Str.ofString "type",Str.ofString "isinstance",Str.ofString "issubclass",Str.ofString "getattr",Str.ofString "hasattr"]:List Str).contains n ||
  List.lookup n sc.names==some NameKind.globalImplicit) &&
  (rw0.may != some n || sc.kind==ScopeKind.module || List.lookup n sc.names==some NameKind.globalImplicit))=true:=by kernel_rfl
theorem sb14:rw0.own.contains rw0.name=true:=by kernel_rfl
theorem sb15:(rw0.own.eraseDups.length==rw0.own.length)=true:=by kernel_rfl
theorem sb16:(rw0.own.all λn=>!builtinNamed n)=true:=by kernel_rfl
theorem sb17:(namesMeet rw0.prog rw0.above λ_1 n=>!rw0.own.contains n)=true:=by kernel_rfl
theorem sb18:(namesMeet rw0.prog rw0.footing λsc n=>sc.kind==ScopeKind.module || List.lookup n sc.names != some NameKind.globalExplicit)=true:=by kernel_rfl
theorem said0:OpenLaw.wellSaid rw0=true :=
 look_both (look_both (look_both (look_both (look_both (look_both (look_both (look_both (look_both (look_both (look_both (look_both (look_both (look_both (look_both (look_both (look_both (look_both
  saR sb1) sb2) sb3) sb4) sb5) sb6) sb7) sb8) sb9) sb10) sb11) sb12) sb13) sb14) sb15) sb16) sb17) sb18
noncomputable def lawD:DefRec:=match top 61 with
 | .FunctionDef n ps b _1 _2 _3 sc _4 _5 pos=>⟨n,ps,b,sc,pos⟩
 | _1=>⟨S "",{ posonlyargs:=[],args:=[],vararg:=none,kwonlyargs:=[],kw_defaults:=[],kwarg:=none,defaults:=[] },[],{ kind:=.function,names:=[],isGenerator:=false,isCoroutine:=false,more:=[] },default⟩
noncomputable def kept(w:World)(h:Heap):Prop:=∀ b o,(h1 w.params).get? b=some o->h.get? b=some o
theorem okAll:(chainsOk qv&&opensWell rw0.row.prog&&(frees rw0.row.toRowW&&rw0.row.toRowW.within.isEmpty))=true :=
 look_both (look_both (by kernel_rfl) (by kernel_rfl)) (look_both (by kernel_rfl) (by kernel_rfl))
theorem bare0:rw0.row.toRowW.prog.bare:=⟨rfl,rfl,rfl,rfl,rfl,by decide +kernel⟩
theorem jn:rw0.row.toRowW.promised:=by w_witness2
end
end
section
open PySem PySem.W PyProof.Rows PySem.Calls
theorem wEq{α:Type}{M:Model}{A:Around}{E:Value->Shared->Prop}{s:Shared}{p q:Sem α}{Q:α->Shared->Prop}(h:p=q)(k:wpAny M A q Q E s):wpAny M A p Q E s:=h▸k
noncomputable def vfor{β:Type}:ForInStep β->β
 | .done b=>b
 | .yield b=>b
theorem nR{β:Type}{M:Model}{A:Around}{E:Value->Shared->Prop}{s:Shared}{b:β}{f:Nat->β->Sem (ForInStep β)}{Q:β->Shared->Prop}(h:wpAny M A (f 0 b) (λr s=>Q (vfor r) s) E s) :
 wpAny M A (forIn [:1] b f) Q E s:=by
 rw [Std.Legacy.Range.forIn_eq_forIn_range',show List.range' [:1].start [:1].size [:1].step=[0] from rfl,List.forIn_cons]
 refine wpAny_bind (wpAny_mono h (λr s h=>?_) λ_1 _2 h=>h)
 cases r <;> exact wpAny_pure h
theorem jc{α:Type}{M:Model}{A:Around}{E:Value->Shared->Prop}{s:Shared}{p:Prop}[Decidable p]{t e:Sem α}{Q:α->Shared->Prop}(h:¬ p)(q:wpAny M A e Q E s):wpAny M A (if p then t else e) Q E s:=by rw [if_neg h]; exact q
theorem wIfp{α:Type}{M:Model}{A:Around}{E:Value->Shared->Prop}{s:Shared}{p:Prop}[Decidable p]{t e:Sem α}{Q:α->Shared->Prop}(h:p)(q:wpAny M A t Q E s):wpAny M A (if p then t else e) Q E s:=by rw [if_pos h]; exact q
theorem tD{α β:Type}{M:Model}{A:Around}{E:Value->Shared->Prop}{s:Shared}{a:α}{b:β}{f:α->β->Sem (ForInStep β)}{Q:β->Shared->Prop}(h:wpAny M A (f a b) (λr s=>Q (vfor r) s) E s) :
 wpAny M A (forIn [a] b f) Q E s:=by
 rw [List.forIn_cons]
 refine wpAny_bind (wpAny_mono h (λr s h=>?_) λ_1 _2 h=>h)
 cases r <;> exact wpAny_pure h
theorem xNS{α:Type _}{x:α}{G:Prop}(h:none=some x):G:=nomatch h
theorem xSN{α:Type _}{x:α}{G:Prop}(h:some x=none):G:=nomatch h
theorem xFT{G:Prop}(h:false=true):G:=nomatch h
theorem xTF{G:Prop}(h:true=false):G:=nomatch h
theorem xNC{α:Type _}{x:α}{l:List α}{G:Prop}(h:[]=x::l):G:=nomatch h
theorem xCN{α:Type _}{x:α}{l:List α}{G:Prop}(h:x::l=[]):G:=nomatch h
theorem xIn{α:Type _}{x:α}{G:Prop}(h:x∈[]):G:=nomatch h
theorem yae{P0:Prop}{A1:Sort _}{P2:A1->Prop}{G:Prop}(h:P0/\∃ a1:A1,P2 a1)(k:P0->∀ a1:A1,P2 a1->G):G:=h.2.elim λa1 h1=>k h.1 a1 h1
theorem yaea{P0:Prop}{A1:Sort _}{P2:A1->Prop}{P3:A1->Prop}{G:Prop}(h:P0/\∃ a1:A1,P2 a1/\P3 a1)(k:P0->∀ a1:A1,P2 a1->P3 a1->G):G:=h.2.elim λa1 h1=>k h.1 a1 h1.1 h1.2
theorem eX{A0:Sort _}{P1:A0->Prop}{P2:A0->Prop}{P3:A0->Prop}{A4:Sort _}{P5:A0->A4->Prop}{G:Prop}(h:∃ a0:A0,P1 a0/\P2 a0/\P3 a0/\∃ a4:A4,P5 a0 a4)(k:∀ a0:A0,P1 a0->P2 a0->P3 a0->∀ a4:A4,P5 a0 a4->G):G:=h.elim λa0 h0=>h0.2.2.2.elim λa4 h4=>k a0 h0.1 h0.2.1 h0.2.2.1 a4 h4
theorem yeae{A0:Sort _}{P1:A0->Prop}{A2:Sort _}{P3:A0->A2->Prop}{G:Prop}(h:∃ a0:A0,P1 a0/\∃ a2:A2,P3 a0 a2)(k:∀ a0:A0,P1 a0->∀ a2:A2,P3 a0 a2->G):G:=h.elim λa0 h0=>h0.2.elim λa2 h2=>k a0 h0.1 a2 h2
theorem dG{A0:Sort _}{P1:A0->Prop}{A2:Sort _}{P3:A0->A2->Prop}{P4:A0->A2->Prop}{G:Prop}(h:∃ a0:A0,P1 a0/\∃ a2:A2,P3 a0 a2/\P4 a0 a2)(k:∀ a0:A0,P1 a0->∀ a2:A2,P3 a0 a2->P4 a0 a2->G):G:=h.elim λa0 h0=>h0.2.elim λa2 h2=>k a0 h0.1 a2 h2.1 h2.2
theorem Aa{A0:Sort _}{A1:Sort _}{P2:A0->A1->Prop}{P3:A0->A1->Prop}{A4:Sort _}{P5:A0->A1->A4->Prop}{G:Prop}(h:∃ a0:A0,∃ a1:A1,P2 a0 a1/\P3 a0 a1/\∃ a4:A4,P5 a0 a1 a4)(k:∀ a0:A0,∀ a1:A1,P2 a0 a1->P3 a0 a1->∀ a4:A4,P5 a0 a1 a4->G):G:=h.elim λa0 h0=>h0.elim λa1 h1=>h1.2.2.elim λa4 h4=>k a0 a1 h1.1 h1.2.1 a4 h4
theorem jY{A0:Sort _}{A1:Sort _}{A2:Sort _}{A3:Sort _}{P4:A0->A1->A2->A3->Prop}{P5:A0->A1->A2->A3->Prop}{P6:A0->A1->A2->A3->Prop}{P7:A0->A1->A2->A3->Prop}{A8:Sort _}{P9:A0->A1->A2->A3->A8->Prop}{P10:A0->A1->A2->A3->A8->Prop}{P11:A0->A1->A2->A3->A8->Prop}{G:Prop}(h:∃ a0:A0,∃ a1:A1,∃ a2:A2,∃ a3:A3,P4 a0 a1 a2 a3/\P5 a0 a1 a2 a3/\P6 a0 a1 a2 a3/\P7 a0 a1 a2 a3/\∃ a8:A8,P9 a0 a1 a2 a3 a8/\P10 a0 a1 a2 a3 a8/\P11 a0 a1 a2 a3 a8)(k:∀ a0:A0,∀ a1:A1,∀ a2:A2,∀ a3:A3,P4 a0 a1 a2 a3->P5 a0 a1 a2 a3->P6 a0 a1 a2 a3->P7 a0 a1 a2 a3->∀ a8:A8,P9 a0 a1 a2 a3 a8->P10 a0 a1 a2 a3 a8->P11 a0 a1 a2 a3 a8->G):G:=h.elim λa0 h0=>h0.elim λa1 h1=>h1.elim λa2 h2=>h2.elim λa3 h3=>h3.2.2.2.2.elim λa8 h8=>k a0 a1 a2 a3 h3.1 h3.2.1 h3.2.2.1 h3.2.2.2.1 a8 h8.1 h8.2.1 h8.2.2
theorem tE{P0:Prop}{A1:Sort _}{A2:Sort _}{P3:A1->A2->Prop}{P4:A1->A2->Prop}{G:Prop}(h:P0/\∃ a1:A1,∃ a2:A2,P3 a1 a2/\P4 a1 a2)(k:P0->∀ a1:A1,∀ a2:A2,P3 a1 a2->P4 a1 a2->G):G:=h.2.elim λa1 h1=>h1.elim λa2 h2=>k h.1 a1 a2 h2.1 h2.2
theorem yM{A0:Sort _}{P1:A0->Prop}{P2:A0->Prop}{A3:Sort _}{P4:A0->A3->Prop}{G:Prop}(h:∃ a0:A0,P1 a0/\P2 a0/\∃ a3:A3,P4 a0 a3)(k:∀ a0:A0,P1 a0->P2 a0->∀ a3:A3,P4 a0 a3->G):G:=h.elim λa0 h0=>h0.2.2.elim λa3 h3=>k a0 h0.1 h0.2.1 a3 h3
theorem pJ{A0:Sort _}{P1:A0->Prop}{A2:Sort _}{P3:A0->A2->Prop}{A4:Sort _}{P5:A0->A2->A4->Prop}{P6:A0->A2->A4->Prop}{G:Prop}(h:∃ a0:A0,P1 a0/\∃ a2:A2,P3 a0 a2/\∃ a4:A4,P5 a0 a2 a4/\P6 a0 a2 a4)(k:∀ a0:A0,P1 a0->∀ a2:A2,P3 a0 a2->∀ a4:A4,P5 a0 a2 a4->P6 a0 a2 a4->G):G:=h.elim λa0 h0=>h0.2.elim λa2 h2=>h2.2.elim λa4 h4=>k a0 h0.1 a2 h2.1 a4 h4.1 h4.2
theorem lx{A0:Sort _}{P1:A0->Prop}{A2:Sort _}{P3:A0->A2->Prop}{A4:Sort _}{A5:Sort _}{P6:A0->A2->A4->A5->Prop}{P7:A0->A2->A4->A5->Prop}{G:Prop}(h:∃ a0:A0,P1 a0/\∃ a2:A2,P3 a0 a2/\∃ a4:A4,∃ a5:A5,P6 a0 a2 a4 a5/\P7 a0 a2 a4 a5)(k:∀ a0:A0,P1 a0->∀ a2:A2,P3 a0 a2->∀ a4:A4,∀ a5:A5,P6 a0 a2 a4 a5->P7 a0 a2 a4 a5->G):G:=h.elim λa0 h0=>h0.2.elim λa2 h2=>h2.2.elim λa4 h4=>h4.elim λa5 h5=>k a0 h0.1 a2 h2.1 a4 a5 h5.1 h5.2
theorem tF{A0:Sort _}{P1:A0->Prop}{A2:Sort _}{A3:Sort _}{P4:A0->A2->A3->Prop}{P5:A0->A2->A3->Prop}{G:Prop}(h:∃ a0:A0,P1 a0/\∃ a2:A2,∃ a3:A3,P4 a0 a2 a3/\P5 a0 a2 a3)(k:∀ a0:A0,P1 a0->∀ a2:A2,∀ a3:A3,P4 a0 a2 a3->P5 a0 a2 a3->G):G:=h.elim λa0 h0=>h0.2.elim λa2 h2=>h2.elim λa3 h3=>k a0 h0.1 a2 a3 h3.1 h3.2
theorem jo{A0:Sort _}{A1:Sort _}{P2:A0->A1->Prop}{P3:A0->A1->Prop}{A4:Sort _}{A5:Sort _}{P6:A0->A1->A4->A5->Prop}{P7:A0->A1->A4->A5->Prop}{P8:A0->A1->A4->A5->Prop}{G:Prop}(h:∃ a0:A0,∃ a1:A1,P2 a0 a1/\P3 a0 a1/\∃ a4:A4,∃ a5:A5,P6 a0 a1 a4 a5/\P7 a0 a1 a4 a5/\P8 a0 a1 a4 a5)(k:∀ a0:A0,∀ a1:A1,P2 a0 a1->P3 a0 a1->∀ a4:A4,∀ a5:A5,P6 a0 a1 a4 a5->P7 a0 a1 a4 a5->P8 a0 a1 a4 a5->G):G:=h.elim λa0 h0=>h0.elim λa1 h1=>h1.2.2.elim λa4 h4=>h4.elim λa5 h5=>k a0 a1 h1.1 h1.2.1 a4 a5 h5.1 h5.2.1 h5.2.2
theorem Ab{P0:Prop}{P1:Prop}{P2:Prop}{P3:Prop}{A4:Sort _}{P5:A4->Prop}{G:Prop}(h:P0/\P1/\P2/\P3/\∃ a4:A4,P5 a4)(k:P0->P1->P2->P3->∀ a4:A4,P5 a4->G):G:=h.2.2.2.2.elim λa4 h4=>k h.1 h.2.1 h.2.2.1 h.2.2.2.1 a4 h4
theorem tG{P0:Prop}{A1:Sort _}{A2:Sort _}{A3:Sort _}{A4:Sort _}{P5:A1->A2->A3->A4->Prop}{P6:A1->A2->A3->A4->Prop}{P7:A1->A2->A3->A4->Prop}{G:Prop}(h:P0/\∃ a1:A1,∃ a2:A2,∃ a3:A3,∃ a4:A4,P5 a1 a2 a3 a4/\P6 a1 a2 a3 a4/\P7 a1 a2 a3 a4)(k:P0->∀ a1:A1,∀ a2:A2,∀ a3:A3,∀ a4:A4,P5 a1 a2 a3 a4->P6 a1 a2 a3 a4->P7 a1 a2 a3 a4->G):G:=h.2.elim λa1 h1=>h1.elim λa2 h2=>h2.elim λa3 h3=>h3.elim λa4 h4=>k h.1 a1 a2 a3 a4 h4.1 h4.2.1 h4.2.2
theorem jZ{A0:Sort _}{A1:Sort _}{P2:A0->A1->Prop}{P3:A0->A1->Prop}{P4:A0->A1->Prop}{A5:Sort _}{A6:Sort _}{A7:Sort _}{P8:A0->A1->A5->A6->A7->Prop}{P9:A0->A1->A5->A6->A7->Prop}{P10:A0->A1->A5->A6->A7->Prop}{P11:A0->A1->A5->A6->A7->Prop}{G:Prop}(h:∃ a0:A0,∃ a1:A1,P2 a0 a1/\P3 a0 a1/\P4 a0 a1/\∃ a5:A5,∃ a6:A6,∃ a7:A7,P8 a0 a1 a5 a6 a7/\P9 a0 a1 a5 a6 a7/\P10 a0 a1 a5 a6 a7/\P11 a0 a1 a5 a6 a7)(k:∀ a0:A0,∀ a1:A1,P2 a0 a1->P3 a0 a1->P4 a0 a1->∀ a5:A5,∀ a6:A6,∀ a7:A7,P8 a0 a1 a5 a6 a7->P9 a0 a1 a5 a6 a7->P10 a0 a1 a5 a6 a7->P11 a0 a1 a5 a6 a7->G):G:=h.elim λa0 h0=>h0.elim λa1 h1=>h1.2.2.2.elim λa5 h5=>h5.elim λa6 h6=>h6.elim λa7 h7=>k a0 a1 h1.1 h1.2.1 h1.2.2.1 a5 a6 a7 h7.1 h7.2.1 h7.2.2.1 h7.2.2.2
theorem x02{P0 P1:Prop}{G:Prop}(h:P0/\P1)(k:P0->P1->G):G:=k h.1 h.2
theorem x03{P0 P1 P2:Prop}{G:Prop}(h:P0/\P1/\P2)(k:P0->P1->P2->G):G:=k h.1 h.2.1 h.2.2
theorem x04{P0 P1 P2 P3:Prop}{G:Prop}(h:P0/\P1/\P2/\P3)(k:P0->P1->P2->P3->G):G:=k h.1 h.2.1 h.2.2.1 h.2.2.2
theorem x05{P0 P1 P2 P3 P4:Prop}{G:Prop}(h:P0/\P1/\P2/\P3/\P4)(k:P0->P1->P2->P3->P4->G):G:=k h.1 h.2.1 h.2.2.1 h.2.2.2.1 h.2.2.2.2
theorem x12{α₀:Sort _}{P0 P1:α₀->Prop}{G:Prop}(h:∃ a0,P0 a0/\P1 a0)(k:∀ a0,P0 a0->P1 a0->G):G:=h.elim λa0 h=>k a0 h.1 h.2
theorem x13{α₀:Sort _}{P0 P1 P2:α₀->Prop}{G:Prop}(h:∃ a0,P0 a0/\P1 a0/\P2 a0)(k:∀ a0,P0 a0->P1 a0->P2 a0->G):G:=h.elim λa0 h=>k a0 h.1 h.2.1 h.2.2
theorem x14{α₀:Sort _}{P0 P1 P2 P3:α₀->Prop}{G:Prop}(h:∃ a0,P0 a0/\P1 a0/\P2 a0/\P3 a0)(k:∀ a0,P0 a0->P1 a0->P2 a0->P3 a0->G):G:=h.elim λa0 h=>k a0 h.1 h.2.1 h.2.2.1 h.2.2.2
theorem x21{α₀:Sort _}{α₁:Sort _}{P0:α₀->α₁->Prop}{G:Prop}(h:∃ a0 a1,P0 a0 a1)(k:∀ a0 a1,P0 a0 a1->G):G:=h.elim λa0 h=>h.elim λa1 h=>k a0 a1 h
theorem x22{α₀:Sort _}{α₁:Sort _}{P0 P1:α₀->α₁->Prop}{G:Prop}(h:∃ a0 a1,P0 a0 a1/\P1 a0 a1)(k:∀ a0 a1,P0 a0 a1->P1 a0 a1->G):G:=h.elim λa0 h=>h.elim λa1 h=>k a0 a1 h.1 h.2
theorem x23{α₀:Sort _}{α₁:Sort _}{P0 P1 P2:α₀->α₁->Prop}{G:Prop}(h:∃ a0 a1,P0 a0 a1/\P1 a0 a1/\P2 a0 a1)(k:∀ a0 a1,P0 a0 a1->P1 a0 a1->P2 a0 a1->G):G:=h.elim λa0 h=>h.elim λa1 h=>k a0 a1 h.1 h.2.1 h.2.2
theorem x24{α₀:Sort _}{α₁:Sort _}{P0 P1 P2 P3:α₀->α₁->Prop}{G:Prop}(h:∃ a0 a1,P0 a0 a1/\P1 a0 a1/\P2 a0 a1/\P3 a0 a1)(k:∀ a0 a1,P0 a0 a1->P1 a0 a1->P2 a0 a1->P3 a0 a1->G):G:=h.elim λa0 h=>h.elim λa1 h=>k a0 a1 h.1 h.2.1 h.2.2.1 h.2.2.2
theorem x25{α₀:Sort _}{α₁:Sort _}{P0 P1 P2 P3 P4:α₀->α₁->Prop}{G:Prop}(h:∃ a0 a1,P0 a0 a1/\P1 a0 a1/\P2 a0 a1/\P3 a0 a1/\P4 a0 a1)(k:∀ a0 a1,P0 a0 a1->P1 a0 a1->P2 a0 a1->P3 a0 a1->P4 a0 a1->G):G:=h.elim λa0 h=>h.elim λa1 h=>k a0 a1 h.1 h.2.1 h.2.2.1 h.2.2.2.1 h.2.2.2.2
theorem x27{α₀:Sort _}{α₁:Sort _}{P0 P1 P2 P3 P4 P5 P6:α₀->α₁->Prop}{G:Prop}(h:∃ a0 a1,P0 a0 a1/\P1 a0 a1/\P2 a0 a1/\P3 a0 a1/\P4 a0 a1/\P5 a0 a1/\P6 a0 a1)(k:∀ a0 a1,P0 a0 a1->P1 a0 a1->P2 a0 a1->P3 a0 a1->P4 a0 a1->P5 a0 a1->P6 a0 a1->G):G:=h.elim λa0 h=>h.elim λa1 h=>k a0 a1 h.1 h.2.1 h.2.2.1 h.2.2.2.1 h.2.2.2.2.1 h.2.2.2.2.2.1 h.2.2.2.2.2.2
theorem x31{α₀:Sort _}{α₁:Sort _}{α₂:Sort _}{P0:α₀->α₁->α₂->Prop}{G:Prop}(h:∃ a0 a1 a2,P0 a0 a1 a2)(k:∀ a0 a1 a2,P0 a0 a1 a2->G):G:=h.elim λa0 h=>h.elim λa1 h=>h.elim λa2 h=>k a0 a1 a2 h
theorem x32{α₀:Sort _}{α₁:Sort _}{α₂:Sort _}{P0 P1:α₀->α₁->α₂->Prop}{G:Prop}(h:∃ a0 a1 a2,P0 a0 a1 a2/\P1 a0 a1 a2)(k:∀ a0 a1 a2,P0 a0 a1 a2->P1 a0 a1 a2->G):G:=h.elim λa0 h=>h.elim λa1 h=>h.elim λa2 h=>k a0 a1 a2 h.1 h.2
theorem x33{α₀:Sort _}{α₁:Sort _}{α₂:Sort _}{P0 P1 P2:α₀->α₁->α₂->Prop}{G:Prop}(h:∃ a0 a1 a2,P0 a0 a1 a2/\P1 a0 a1 a2/\P2 a0 a1 a2)(k:∀ a0 a1 a2,P0 a0 a1 a2->P1 a0 a1 a2->P2 a0 a1 a2->G):G:=h.elim λa0 h=>h.elim λa1 h=>h.elim λa2 h=>k a0 a1 a2 h.1 h.2.1 h.2.2
theorem x34{α₀:Sort _}{α₁:Sort _}{α₂:Sort _}{P0 P1 P2 P3:α₀->α₁->α₂->Prop}{G:Prop}(h:∃ a0 a1 a2,P0 a0 a1 a2/\P1 a0 a1 a2/\P2 a0 a1 a2/\P3 a0 a1 a2)(k:∀ a0 a1 a2,P0 a0 a1 a2->P1 a0 a1 a2->P2 a0 a1 a2->P3 a0 a1 a2->G):G:=h.elim λa0 h=>h.elim λa1 h=>h.elim λa2 h=>k a0 a1 a2 h.1 h.2.1 h.2.2.1 h.2.2.2
theorem x35{α₀:Sort _}{α₁:Sort _}{α₂:Sort _}{P0 P1 P2 P3 P4:α₀->α₁->α₂->Prop}{G:Prop}(h:∃ a0 a1 a2,P0 a0 a1 a2/\P1 a0 a1 a2/\P2 a0 a1 a2/\P3 a0 a1 a2/\P4 a0 a1 a2)(k:∀ a0 a1 a2,P0 a0 a1 a2->P1 a0 a1 a2->P2 a0 a1 a2->P3 a0 a1 a2->P4 a0 a1 a2->G):G:=h.elim λa0 h=>h.elim λa1 h=>h.elim λa2 h=>k a0 a1 a2 h.1 h.2.1 h.2.2.1 h.2.2.2.1 h.2.2.2.2
theorem x36{α₀:Sort _}{α₁:Sort _}{α₂:Sort _}{P0 P1 P2 P3 P4 P5:α₀->α₁->α₂->Prop}{G:Prop}(h:∃ a0 a1 a2,P0 a0 a1 a2/\P1 a0 a1 a2/\P2 a0 a1 a2/\P3 a0 a1 a2/\P4 a0 a1 a2/\P5 a0 a1 a2)(k:∀ a0 a1 a2,P0 a0 a1 a2->P1 a0 a1 a2->P2 a0 a1 a2->P3 a0 a1 a2->P4 a0 a1 a2->P5 a0 a1 a2->G):G:=h.elim λa0 h=>h.elim λa1 h=>h.elim λa2 h=>k a0 a1 a2 h.1 h.2.1 h.2.2.1 h.2.2.2.1 h.2.2.2.2.1 h.2.2.2.2.2
theorem x41{α₀:Sort _}{α₁:Sort _}{α₂:Sort _}{α₃:Sort _}{P0:α₀->α₁->α₂->α₃->Prop}{G:Prop}(h:∃ a0 a1 a2 a3,P0 a0 a1 a2 a3)(k:∀ a0 a1 a2 a3,P0 a0 a1 a2 a3->G):G:=h.elim λa0 h=>h.elim λa1 h=>h.elim λa2 h=>h.elim λa3 h=>k a0 a1 a2 a3 h
theorem x43{α₀:Sort _}{α₁:Sort _}{α₂:Sort _}{α₃:Sort _}{P0 P1 P2:α₀->α₁->α₂->α₃->Prop}{G:Prop}(h:∃ a0 a1 a2 a3,P0 a0 a1 a2 a3/\P1 a0 a1 a2 a3/\P2 a0 a1 a2 a3)(k:∀ a0 a1 a2 a3,P0 a0 a1 a2 a3->P1 a0 a1 a2 a3->P2 a0 a1 a2 a3->G):G:=h.elim λa0 h=>h.elim λa1 h=>h.elim λa2 h=>h.elim λa3 h=>k a0 a1 a2 a3 h.1 h.2.1 h.2.2
theorem x44{α₀:Sort _}{α₁:Sort _}{α₂:Sort _}{α₃:Sort _}{P0 P1 P2 P3:α₀->α₁->α₂->α₃->Prop}{G:Prop}(h:∃ a0 a1 a2 a3,P0 a0 a1 a2 a3/\P1 a0 a1 a2 a3/\P2 a0 a1 a2 a3/\P3 a0 a1 a2 a3)(k:∀ a0 a1 a2 a3,P0 a0 a1 a2 a3->P1 a0 a1 a2 a3->P2 a0 a1 a2 a3->P3 a0 a1 a2 a3->G):G:=h.elim λa0 h=>h.elim λa1 h=>h.elim λa2 h=>h.elim λa3 h=>k a0 a1 a2 a3 h.1 h.2.1 h.2.2.1 h.2.2.2
theorem x45{α₀:Sort _}{α₁:Sort _}{α₂:Sort _}{α₃:Sort _}{P0 P1 P2 P3 P4:α₀->α₁->α₂->α₃->Prop}{G:Prop}(h:∃ a0 a1 a2 a3,P0 a0 a1 a2 a3/\P1 a0 a1 a2 a3/\P2 a0 a1 a2 a3/\P3 a0 a1 a2 a3/\P4 a0 a1 a2 a3)(k:∀ a0 a1 a2 a3,P0 a0 a1 a2 a3->P1 a0 a1 a2 a3->P2 a0 a1 a2 a3->P3 a0 a1 a2 a3->P4 a0 a1 a2 a3->G):G:=h.elim λa0 h=>h.elim λa1 h=>h.elim λa2 h=>h.elim λa3 h=>k a0 a1 a2 a3 h.1 h.2.1 h.2.2.1 h.2.2.2.1 h.2.2.2.2
theorem x51{α₀:Sort _}{α₁:Sort _}{α₂:Sort _}{α₃:Sort _}{α₄:Sort _}{P0:α₀->α₁->α₂->α₃->α₄->Prop}{G:Prop}(h:∃ a0 a1 a2 a3 a4,P0 a0 a1 a2 a3 a4)(k:∀ a0 a1 a2 a3 a4,P0 a0 a1 a2 a3 a4->G):G:=h.elim λa0 h=>h.elim λa1 h=>h.elim λa2 h=>h.elim λa3 h=>h.elim λa4 h=>k a0 a1 a2 a3 a4 h
theorem x57{α₀:Sort _}{α₁:Sort _}{α₂:Sort _}{α₃:Sort _}{α₄:Sort _}{P0 P1 P2 P3 P4 P5 P6:α₀->α₁->α₂->α₃->α₄->Prop}{G:Prop}(h:∃ a0 a1 a2 a3 a4,P0 a0 a1 a2 a3 a4/\P1 a0 a1 a2 a3 a4/\P2 a0 a1 a2 a3 a4/\P3 a0 a1 a2 a3 a4/\P4 a0 a1 a2 a3 a4/\P5 a0 a1 a2 a3 a4/\P6 a0 a1 a2 a3 a4)(k:∀ a0 a1 a2 a3 a4,P0 a0 a1 a2 a3 a4->P1 a0 a1 a2 a3 a4->P2 a0 a1 a2 a3 a4->P3 a0 a1 a2 a3 a4->P4 a0 a1 a2 a3 a4->P5 a0 a1 a2 a3 a4->P6 a0 a1 a2 a3 a4->G):G:=h.elim λa0 h=>h.elim λa1 h=>h.elim λa2 h=>h.elim λa3 h=>h.elim λa4 h=>k a0 a1 a2 a3 a4 h.1 h.2.1 h.2.2.1 h.2.2.2.1 h.2.2.2.2.1 h.2.2.2.2.2.1 h.2.2.2.2.2.2
theorem x67{α₀:Sort _}{α₁:Sort _}{α₂:Sort _}{α₃:Sort _}{α₄:Sort _}{α₅:Sort _}{P0 P1 P2 P3 P4 P5 P6:α₀->α₁->α₂->α₃->α₄->α₅->Prop}{G:Prop}(h:∃ a0 a1 a2 a3 a4 a5,P0 a0 a1 a2 a3 a4 a5/\P1 a0 a1 a2 a3 a4 a5/\P2 a0 a1 a2 a3 a4 a5/\P3 a0 a1 a2 a3 a4 a5/\P4 a0 a1 a2 a3 a4 a5/\P5 a0 a1 a2 a3 a4 a5/\P6 a0 a1 a2 a3 a4 a5)(k:∀ a0 a1 a2 a3 a4 a5,P0 a0 a1 a2 a3 a4 a5->P1 a0 a1 a2 a3 a4 a5->P2 a0 a1 a2 a3 a4 a5->P3 a0 a1 a2 a3 a4 a5->P4 a0 a1 a2 a3 a4 a5->P5 a0 a1 a2 a3 a4 a5->P6 a0 a1 a2 a3 a4 a5->G):G:=h.elim λa0 h=>h.elim λa1 h=>h.elim λa2 h=>h.elim λa3 h=>h.elim λa4 h=>h.elim λa5 h=>k a0 a1 a2 a3 a4 a5 h.1 h.2.1 h.2.2.1 h.2.2.2.1 h.2.2.2.2.1 h.2.2.2.2.2.1 h.2.2.2.2.2.2
theorem x85{α₀:Sort _}{α₁:Sort _}{α₂:Sort _}{α₃:Sort _}{α₄:Sort _}{α₅:Sort _}{α₆:Sort _}{α₇:Sort _}{P0 P1 P2 P3 P4:α₀->α₁->α₂->α₃->α₄->α₅->α₆->α₇->Prop}{G:Prop}(h:∃ a0 a1 a2 a3 a4 a5 a6 a7,P0 a0 a1 a2 a3 a4 a5 a6 a7/\P1 a0 a1 a2 a3 a4 a5 a6 a7/\P2 a0 a1 a2 a3 a4 a5 a6 a7/\P3 a0 a1 a2 a3 a4 a5 a6 a7/\P4 a0 a1 a2 a3 a4 a5 a6 a7)(k:∀ a0 a1 a2 a3 a4 a5 a6 a7,P0 a0 a1 a2 a3 a4 a5 a6 a7->P1 a0 a1 a2 a3 a4 a5 a6 a7->P2 a0 a1 a2 a3 a4 a5 a6 a7->P3 a0 a1 a2 a3 a4 a5 a6 a7->P4 a0 a1 a2 a3 a4 a5 a6 a7->G):G:=h.elim λa0 h=>h.elim λa1 h=>h.elim λa2 h=>h.elim λa3 h=>h.elim λa4 h=>h.elim λa5 h=>h.elim λa6 h=>h.elim λa7 h=>k a0 a1 a2 a3 a4 a5 a6 a7 h.1 h.2.1 h.2.2.1 h.2.2.2.1 h.2.2.2.2
theorem j0(a:Bool)(b:Int)(u:Tok):Gives (Builtin.«int.__le__» ⟨[.bool a,.int b u],[]⟩) (.val (.bool (decide ((if a=true then(1:Int) else 0)<=b)))) :=
 .of_wp λM A E s Q h=>by obtain⟨hp,g,d,tk,os⟩:=s; wp_walk; exact⟨_,rfl,h⟩
theorem j1(a:Bool)(b:Int)(u:Tok):Gives (Builtin.«int.__ge__» ⟨[.bool a,.int b u],[]⟩) (.val (.bool (decide (b<=(if a=true then(1:Int) else 0))))) :=
 .of_wp λM A E s Q h=>by obtain⟨hp,g,d,tk,os⟩:=s; wp_walk; exact⟨_,rfl,h⟩
theorem gW(a:Bool)(b:Int)(u:Tok)(hb:b≠0)(hp:¬ (Builtin.divisionGoesByPylong (if a=true then(1:Int) else 0) b)=true) :
 Gives (Builtin.«int.__floordiv__» ⟨[.bool a,.int b u],[]⟩) (.int ((if a=true then(1:Int) else 0).fdiv b)):=by
 have h1:¬ (b==0)=true:=by simpa using hb
 refine .of_wp λM A E s Q h=>?_
 obtain⟨hp,g,d,tk,os⟩:=s
 wp_walk
 all_goals first | exact⟨_,rfl,h⟩ | skip
section
variable {prog:Program}{w:World}{A:Around}{E:Value->Shared->Prop}{s:Shared}{Q:Value->Shared->Prop}
theorem jd{a:Bool}{b:Int}{u:Tok}(hb:b≠0)(hp:¬ (Builtin.divisionGoesByPylong (if a=true then(1:Int) else 0) b)=true)(h:Q (.int ((if a=true then(1:Int) else 0).fdiv b) s.toks) { s with toks:=s.toks+1 }) :
 wpAny (model prog w) A (binaryOp .FloorDiv (.bool a) (.int b u)) Q E s :=
 binaryOp_left_gives (op:=.FloorDiv) (T:="bool") (U:="int") (by decide) rfl (λs'=>typeIs_int s' b u) F.fills_bool_floordiv F.fills_int_floordiv F.sub_int_bool F.slot_bool_floordiv F.slot_int_rfloordiv F.entry_int_floordiv (F.args_int_floordiv_2 _ _)
  (gW a b u hb hp) trivial h
theorem ly{a:Bool}{b:Int}{u:Tok}(h:Q (.bool (decide ((if a=true then(1:Int) else 0)<=b))) s):wpAny (model prog w) A (compareOp .LtE (.bool a) (.int b u)) Q E s:=by
 show wpAny _ _ (richCompare .LtE (.bool a) (.int b u)) Q E s
 exact SeqAt.rc_left_or (Ta:="bool") rfl (typeIs_int s b u) (by decide) F.sub_int_bool F.slot_bool_le
  (call_gives F.slot_bool_le rfl F.entry_int_le (F.args_int_le_2 _ _) (j0 a b u) ⟨nofun,h⟩) (.inl rfl)
theorem lB{a:Int}{t:Tok}{b:Bool}(h:Q (.bool (decide (a<=(if b=true then(1:Int) else 0)))) s):wpAny (model prog w) A (compareOp .LtE (.int a t) (.bool b)) Q E s:=by
 show wpAny _ _ (richCompare .LtE (.int a t) (.bool b)) Q E s
 exact SeqAt.rc_sub_first_or (typeIs_int s a t) rfl (by decide) F.sub_bool_int F.slot_bool_ge
  (call_gives F.slot_bool_ge rfl F.entry_int_ge (F.args_int_ge_2 _ _) (j1 b a t) ⟨nofun,h⟩) (.inl rfl)
theorem eQ{x:Int}(h:x.natAbs < 2 ^ 64):Builtin.Int.intBits x<=64:=intBits_le_iff.mpr h
theorem gX{x y:Int}(h:y.natAbs < 2 ^ 64):¬ Builtin.divisionGoesByPylong x y=true:=by
 unfold Builtin.divisionGoesByPylong
 have:y.natAbs.log2<=64:=by
  by_cases z:y.natAbs=0
  . rw [z]; decide
  . exact Nat.le_of_lt (Nat.log2_lt z |>.mpr h)
 have h2:¬ ((if (y==0)=true then 0 else y.natAbs.log2 / 30+1) > 300):=by split <;> lia
 simp only [Bool.and_eq_true,decide_eq_true_eq]
 exact λz=>h2 z.1
theorem tH{x y:Int}{t u:Tok}(hy:∃ k:Nat,k<=4/\y+1=2 ^ k)(h:Q (.int (x % (y+1)) s.toks) { s with toks:=s.toks+1 }):wpAny (model prog w) A (binaryOp .BitAnd (.int x t) (.int y u)) Q E s:=by
 obtain⟨k,_,e⟩:=hy
 refine and_int ?_
 rw [show y=2 ^ k-1 by lia,kbt_mask,show(2:Int) ^ k=y+1 by lia]
 exact h
theorem rj{x y:Int}{t u:Tok}(hy:∃ k:Nat,k<=4/\y+1=2 ^ k)(h:Q (.int (x % (y+1)) s.toks) { s with toks:=s.toks+1 }):wpAny (model prog w) A (inplaceOp .BitAnd (.int x t) (.int y u)) Q E s:=by
 obtain⟨k,_,e⟩:=hy
 refine iand_int ?_
 rw [show y=2 ^ k-1 by lia,kbt_mask,show(2:Int) ^ k=y+1 by lia]
 exact h
end
end
section
open PySem PySem.W PyProof.Rows PySem.Calls
section
variable {prog:Program}{w:World}{A:Around}{E:Value->Shared->Prop}{s:Shared}{Q:Value->Shared->Prop}
noncomputable abbrev listO(vs:List Value):Obj:={ cls:=.type "list",data:=.seq vs.toArray }
noncomputable abbrev lC(vs:List Value):Obj:={ cls:=.type "tuple",data:=.seq vs.toArray }
theorem rk{l b:Addr}{vs ws:List Value}(hl:s.heap.IsList l vs.toArray)(hb:s.heap.IsList b ws.toArray)(hsz:vs.length+ws.length<=sizeLine)
 (h:Q (.ref s.heap.objs.size) { s with heap:=s.heap.push (listO (vs++ws)) }):wpAny (model prog w) A (binaryOp .Add (.ref l) (.ref b)) Q E s:=by
 obtain⟨⟨cls,dd,data,sl⟩,ho,hc,n,hd⟩:=id hl
 obtain⟨⟨cls2,dd2,data2,sl2⟩,ho2,hc2,n2,hd2⟩:=id hb
 simp only at hc hd hc2 hd2
 subst hc hd hc2 hd2
 have e:vs.toArray++ws.toArray=(vs++ws).toArray:=by simp
 refine concat_meets ⟨_,ho,rfl⟩ ⟨_,ho2,rfl⟩ noFill_list_add seq_list_add PySem.F.slot_list_add PySem.F.entry_list_add (PySem.F.args_list_add_2 _ _) (list_addW l b vs.toArray ws.toArray n n2 dd dd2 sl sl2 (by simpa using hsz)) ⟨ho,ho2,?_⟩
 rw [e]
 exact h
theorem lE{l:Addr}{vs:List Value}{x:Int}{u:Tok}(hl:s.heap.IsList l vs.toArray)(hlo:-(2 ^ 63:Int)<=x)(hhi:x < 2 ^ 63)(hsz:vs.length*x.toNat<=2 ^ 24)
 (h:Q (.ref s.heap.objs.size) { s with heap:=s.heap.push (listO (List.replicate x.toNat vs).flatten) }):wpAny (model prog w) A (binaryOp .Mult (.ref l) (.int x u)) Q E s:=by
 obtain⟨⟨cls,d,data,sl⟩,ho,hcl,k,hd⟩:=id hl
 simp only at hcl hd
 subst hcl hd
 have hsz':vs.toArray.size*x.toNat<=2 ^ 24:=by simpa using hsz
 refine wpAny_binaryOp_repeat_ref (T:="list") (U:="int") (by decide) ⟨_,ho,rfl⟩ (λs'=>typeIs_int s' x u) noFill_list_mul F.fills_int_mul F.slot_int_rmul repeat_list F.slot_int_index.lookup
  (call_meets F.slot_int_rmul (typeIs_int s x u) F.entry_int_rmul (F.args_int_rmul_2 _ _) (lm_int_rmul_list_any x u l vs.toArray k d sl)
   ⟨ho,rfl,⟨_,ho,rfl⟩,call_meets F.slot_list_mul ⟨_,ho,rfl⟩ F.entry_list_mul (F.args_list_mul_2 _ _)
    (lm_list_mul_any l vs.toArray k d sl x u (by simp [Builtin.List.listFitsIndex]; lia) (by lia) (by simp [Builtin.List.listTooLong,sizeLine]; omega))
    ⟨ho,?_⟩⟩)
 have e:=listMul_foldl_if vs.toArray x.toNat
 dsimp only at e
 simp only [e]
 exact h
end
end
section
open PySem PySem.W PyProof.Rows PySem.Calls
open PySem.Builtin PySem.Builtin.Bytes
noncomputable abbrev baO(b:List UInt8):Obj:={ cls:=.type "bytearray",data:=.bytearray b.toArray 0 }
namespace BA
theorem slot_len:Slot "bytearray" "__len__" "bytearray.__len__" :=
 .of (owner:="bytearray") (n:="__len__") (by rw [typeLookup_type,builtinLookup_eq_fast]; kernel_rfl) (by decide +kernel) (by decide +kernel) (by decide +kernel)
  (by first | exact .inl (by decide +kernel) | exact .inr (by decide +kernel)) (by rw [isSubtype_type]; kernel_rfl)
theorem entry_len:entryFor table "bytearray.__len__"=some Builtin.«bytearray.__len__»:=entryFor_of_tree (by kernel_rfl)
theorem args_len(a:Value):argsOk "bytearray.__len__" ⟨[a],[]⟩:=by unfold argsOk; kernel_rfl
theorem slot_set:Slot "bytearray" "__setitem__" "bytearray.__setitem__" :=
 .of (owner:="bytearray") (n:="__setitem__") (by rw [typeLookup_type,builtinLookup_eq_fast]; kernel_rfl) (by decide +kernel) (by decide +kernel) (by decide +kernel)
  (by first | exact .inl (by decide +kernel) | exact .inr (by decide +kernel)) (by rw [isSubtype_type]; kernel_rfl)
theorem entry_set:entryFor table "bytearray.__setitem__"=some Builtin.«bytearray.__setitem__»:=entryFor_of_tree (by kernel_rfl)
theorem args_set(a b c:Value):argsOk "bytearray.__setitem__" ⟨[a,b,c],[]⟩:=by unfold argsOk; kernel_rfl
theorem slot_get:Slot "bytearray" "__getitem__" "bytearray.__getitem__" :=
 .of (owner:="bytearray") (n:="__getitem__") (by rw [typeLookup_type,builtinLookup_eq_fast]; kernel_rfl) (by decide +kernel) (by decide +kernel) (by decide +kernel)
  (by first | exact .inl (by decide +kernel) | exact .inr (by decide +kernel)) (by rw [isSubtype_type]; kernel_rfl)
theorem entry_get:entryFor table "bytearray.__getitem__"=some Builtin.«bytearray.__getitem__»:=entryFor_of_tree (by kernel_rfl)
theorem args_get(a b:Value):argsOk "bytearray.__getitem__" ⟨[a,b],[]⟩:=by unfold argsOk; kernel_rfl
theorem sub_ba:isSubtype (.type "bytearray") (.type "bytearray")=pure true:=by rw [isSubtype_type]; kernel_rfl
end BA
section
variable {prog:Program}{w:World}{A:Around}{E:Value->Shared->Prop}{s:Shared}{a:Addr}{b:List UInt8}
theorem bE{Q:Array UInt8->Shared->Prop}{M:Model}(h:s.heap.get? a=some (baO b))(q:Q b.toArray s):wpAny M A (payload (.ref a)) Q E s:=by
 unfold payload payload?
 refine wpAny_bind (wpAny_bind (wpAny_load h ?_))
 try extract_lets
 exact wpAny_pure (wpAny_pure q)
theorem Ac{Q:Value->Shared->Prop}(h:s.heap.get? a=some (baO b))(hz:b.length<=1099511627776)(q:Q (.int b.length (s.toks+1)) { s with toks:=s.toks+1+1 }) :
 wpAny (model prog w) A (call (.builtin "len") [.ref a]) Q E s:=by
 have hT:s.TypeIs (.ref a) "bytearray":=⟨_,h,rfl⟩
 refine Calls.call_function_entry kind_len plain_len PySem.entry_len (args_len1 _) ?_
 unfold Builtin.«len»
 refine wpAny_bind (m:=oneArg "len" _) (wpAny_pure ?_)
 try extract_lets
 refine wpAny_bind (m:=callSpecial? (.ref a) (Str.ofString "__len__")) (wpAny_callSpecial?_slot (name:=Str.ofString "__len__") hT BA.slot_len
  (wpAny_call_entry BA.slot_len hT BA.entry_len ?_ (BA.args_len _)))
 show wpAny _ _ (payload (.ref a) >>= λb=>retInt b.size) _ _ s
 refine wpAny_bind (bE h (wpAny_bind (wpAny_mkInt (wpAny_pure ⟨_,rfl,?_⟩))))
 try extract_lets
 refine wpAny_bind (wpAny_holding (wpAny_pure ?_))
 try extract_lets
 refine wpAny_bind (wpAny_letGo ?_)
 try extract_lets
 have e:((b.toArray.size:Nat):Int)=b.length:=by simp
 rw [e]
 show wpAny _ _ (if ((b.length:Nat):Int) < 0 then _ else _) _ _ _
 rw [if_neg (by lia)]
 show wpAny _ _ (if ((b.length:Nat):Int) ≥ 2 ^ 63 then _ else _) _ _ _
 rw [if_neg (by lia)]
 exact wpAny_bind (wpAny_mkInt (wpAny_pure ⟨_,rfl,q⟩))
open KBy in
theorem fD{M:Model}{l u:Value}{lo hi:Option Int}{sl:Addr}{Q:Value×Value×Value->Shared->Prop}(hs:s.heap.IsSliceOf sl l u .none)(hl:IsPart l lo)(hu:IsPart u hi)(q:Q (rawPart lo,rawPart hi,.none) s) :
 wpAny M A (Bytes.sliceParts (.ref sl)) Q E s:=by
 refine x13 hs λo ho hc hd=>?_
 unfold Bytes.sliceParts
 refine wpAny_bind (wpAny_field (x:=.none) ho hd rfl ?_)
 try extract_lets
 kby_none
 refine wpAny_ite (ite_no (show ¬ ((Value.none==rawInt 0)=true) from Bool.false_ne_true) ?_)
 try extract_lets
 refine wpAny_bind (wpAny_field (x:=l) ho hd rfl ?_)
 try extract_lets
 cases hl <;> cases hu <;> (first
  | (kby_none; (refine wpAny_bind (wpAny_field (x:=.none) ho hd rfl ?_)); kby_none)
  | (kby_none; (refine wpAny_bind (wpAny_field (x:=.int _ _) ho hd rfl ?_)); kby_int)
  | (kby_int; (refine wpAny_bind (wpAny_field (x:=.none) ho hd rfl ?_)); kby_none)
  | (kby_int; (refine wpAny_bind (wpAny_field (x:=.int _ _) ho hd rfl ?_)); kby_int)) <;> exact wpAny_pure q
theorem rn{lo hi:Int}{n:Nat}(h0:0<=lo)(h1:lo<=hi)(h2:hi<=n):sliceBounds (some lo) (some hi) none n=(lo,hi,1):=by
 unfold sliceBounds
 simp only [Option.getD_none,show(1:Int) > 0 by decide,if_true]
 rw [if_neg (by lia),if_neg (by lia)]
 congr 1
 . lia
 . congr 1; lia
theorem gh{lo:Int}{n:Nat}(h0:0<=lo)(h1:lo<=n):sliceBounds (some lo) none none n=(lo,(n:Int),1):=by
 unfold sliceBounds
 simp only [Option.getD_none,show(1:Int) > 0 by decide,if_true]
 rw [if_neg (by lia)]
 congr 1
 lia
theorem cH{M:Model}{f:Array UInt8->Array UInt8}{Q:Unit->Shared->Prop}(h:s.heap.get? a=some (baO b))(hz:(f b.toArray).size<=16777216)
 (q:Q () { s with heap:=s.heap.update a (Obj.mapBytearray f) }):wpAny M A (Bytes.write (.ref a) f) Q E s:=by
 unfold Bytes.write updateBytearray
 refine wpAny_bind (wpAny_load h ?_)
 try extract_lets
 refine wpAny_bind (wpAny_update h ?_)
 try extract_lets
 refine wpAny_lookBehind (o:=Obj.mapBytearray f (baO b)) (Heap.get?_update_self _ h rfl) ?_ q
 show(if (f b.toArray).size > sizeLine then _ else none)=none
 rw [if_neg (by rw [sizeLine_eq]; lia)]
theorem Ad{l u:Value}{lo hi:Option Int}{x y:Int}{d:List UInt8}{c sl:Addr}{Q:Unit->Shared->Prop}(h:s.heap.get? a=some (baO b))(hs:s.heap.IsSliceOf sl l u .none)(hl:IsPart l lo)(hu:IsPart u hi)
 (hv:s.heap.get? c=some (baO d)) (hne:c≠a) (hb:sliceBounds lo hi none b.length=(x,y,1)) (h0:0<=x) (h1:x<=y) (h2:y<=b.length) (hz:b.length<=16777216) (hd:(d.length:Int)=y-x)
 (q:∀ h',Heap.SameBut a s.heap h'->h'.get? a=some (baO (b.take x.toNat++d++b.drop y.toNat))->Q () { s with heap:=h' }) :
 wpAny (model prog w) A (setItem (.ref a) (.ref sl) (.ref c)) Q E s:=by
 have hT:s.TypeIs (.ref a) "bytearray":=⟨_,h,rfl⟩
 have hTc:s.TypeIs (.ref c) "bytearray":=⟨_,hv,rfl⟩
 have hTs:s.TypeIs (.ref sl) "slice":=let⟨o,e,c,_⟩:=hs; ⟨o,e,c⟩
 unfold setItem
 try with_reducible refine wpAny_holding ?_
 refine wpAny_bind (wpAny_sequenceKey hT (by decide) ?_)
 try extract_lets
 refine wpAny_bind (wpAny_callSpecial?_slot (name:=Str.ofString "__setitem__") hT BA.slot_set
  (wpAny_call_entry BA.slot_set hT BA.entry_set ?_ (BA.args_set _ _ _)))
 show wpAny _ _ (Bytes.subscript? (.ref sl) >>= λr=>_) _ _ s
 refine wpAny_bind ?_
 try extract_lets
 unfold Bytes.subscript?
 refine wpAny_bind (wpAny_specialOf hTs slice_no_index (wpAny_pure ?_))
 try extract_lets
 refine wpAny_bind (wpAny_typeOf hTs ?_)
 try extract_lets
 show wpAny _ _ (Bytes.sliceParts (.ref sl) >>= λr=>_) _ _ s
 refine wpAny_bind (fD hs hl hu ?_)
 try extract_lets
 have ne:Bytes.sameRef (.ref a) (.ref c)=false:=beq_eq_false_iff_ne.mpr λe=>hne e.symm
 dsimp -zeta only
 rw [if_neg (by rw [ne]; exact Bool.false_ne_true)]
 refine wpAny_bind (wpAny_isInstance hTc BA.sub_ba ?_)
 try extract_lets
 refine bm_if_false rfl ?_
 refine wpAny_bind (bE hv (wpAny_bind (bE h ?_)))
 try extract_lets
 have go:wpAny (model prog w) A.in1 (sliceIndices (rawPart lo) (rawPart hi) .none b.toArray.size) (λr s'=>r=(x,y,1)/\s'=s) (λ_1 _2=>False) s :=
  wpAny_of_eq (sliceIndices_raw lo hi none b.toArray.size (λe=>nomatch e)) ⟨by rw [List.size_toArray]; exact hb,rfl⟩
 refine wpAny_bind (wpAny_mono go (λr s' hr=>?_) λ_1 _2 e=>e.elim)
 try extract_lets
 refine x02 hr λe116_0 e116_1=>?_
 try extract_lets
 clear hr
 subst e116_0
 subst e116_1
 dsimp -zeta only
 rw [if_pos (by decide)]
 refine wpAny_bind (wpAny_rule ?_)
 try extract_lets
 have mx:max x y=y:=by lia
 rw [mx]
 have sz:(((d.toArray.size:Nat):Int) != y-x)=false:=by simp [hd]
 rw [if_neg (by rw [sz]; exact Bool.false_ne_true)]
 have val:(b.toArray.extract 0 x.toNat++d.toArray++b.toArray.extract (max x y).toNat b.toArray.size)=(b.take x.toNat++d++b.drop y.toNat).toArray:=by
  rw [mx]
  simp
  exact List.take_of_length_le (by simp)
 refine wpAny_bind (cH h ?_ (wpAny_pure ⟨_,rfl,?_⟩))
 . rw [val]; simp; omega
 . refine wpAny_pure ?_
   try extract_lets
   refine q _ (Heap.SameBut.update ..) ?_
   rw [Heap.get?_update_self _ h rfl]
   exact congrArg (λz=>some (⟨.type "bytearray",none,.bytearray z 0,#[]⟩:Obj)) val
end
end
section
open PySem PySem.W PyProof.Rows PySem.Calls
section
variable {prog:Program}{w:World}{A:Around}{E:Value->Shared->Prop}{s:Shared}
open PySem.AutoSeq1 in
theorem je(l:Addr)(items:Array Value)(n:Nat)(dd:Option Addr)(sl:Array (Option Value))(b:Addr)(items2:Array Value)(n2:Nat)(dd2:Option Addr)(sl2:Array (Option Value))(hc0:¬(!items.isEmpty&&Builtin.List.listTooLong (items.size+items2.size))=true)(hc1:items.size<=sizeLine)(hs2:items.size+items2.size<=sizeLine+1) :
 Meets (Builtin.«list.extend» ⟨[.ref l,.ref b],[]⟩) (λ_1 R s=>s.heap.get? l=some { cls:=.type "list",dict:=dd,data:=.seq items n,slots:=sl }/\s.heap.get? b=some { cls:=.type "list",dict:=dd2,data:=.seq items2 n2,slots:=sl2 }/\R (.ok (.ret Value.none)) { s with heap:=s.heap.update l (Obj.mapSeq λx=>x++items2),toks:=s.toks }) :=
 .of_wp λprog w A R s h=>by
  obtain⟨hp,g,d,tk,os⟩:=s; obtain⟨hl,hb,h⟩:=h; have f1:=idx_int; have f2:=AutoSeq1.sub_tuple_tuple; have f3:=AutoSeq1.sub_list_list; have f4:=AutoSeq1.sub_tuple_list; have f5:=AutoSeq1.sub_list_tuple;
  have hz':(items++items2).size<=sizeLine+1:=by rw [Array.size_append]; exact hs2
  wp_walk using (wpAny_updateSeq hl rfl (hz:=hc1) (_hz':=hz')),wpAny_loadPart' hl,wpAny_loadPart' hb; exact⟨_,rfl,h⟩
theorem j2{l:Addr}{o:Obj}{its:Array Value}{n:Nat}{f:Array Value->Array Value}{h:Heap}(ho:h.get? l=some o)(hd:o.data=.seq its n) :
 ∃ o',(h.update l (Obj.mapSeq f)).get? l=some o'/\o'.cls=o.cls/\o'.dict=o.dict/\∃ n',o'.data=.seq (f its) n':=by
 refine(Obj.data_mapSeq hd f).elim λn' hd'=>?_
 refine⟨_,Heap.get?_update_self _ ho (Obj.isFreed_of_seq hd'),Obj.cls_mapSeq ..,?_,n',hd'⟩
 obtain⟨c,d,dt,sl⟩:=o
 simp only at hd; subst hd; rfl
theorem dm{l:Addr}{o:Obj}{its:Array Value}{n:Nat}{x:Value}{Q:Value->Shared->Prop}(ho:s.heap.get? l=some o)(hc:o.cls=.type "list")(hd:o.data=.seq its n)(hz:its.size<=16777215)
 (h:∀ h',Heap.SameBut l s.heap h'->(∃ o',h'.get? l=some o'/\o'.cls=o.cls/\o'.dict=o.dict/\∃ n',o'.data=.seq (its.push x) n')->Q .none { s with heap:=h' }) :
 wpAny (model prog w) A (call (.builtin "list.append") [.ref l,x]) Q E s:=by
 refine wpAny_call_entry slot_list_append ⟨_,ho,hc⟩ entry_list_append ?_ (args_list_append _ _)
 show wpAny _ _ (updateSeq l (·.push x) >>= λ_1=>ret .none) _ _ s
 refine wpAny_bind ?_
 refine wpAny_updateSeq ho hd (hz:=by rw [sizeLine_eq]; lia) (_hz':=by rw [sizeLine_eq]; simp; lia) (wpAny_pure ⟨.none,rfl,h _ (Heap.SameBut.update ..) (j2 ho hd)⟩)
theorem nS{l b:Addr}{its:Array Value}{its2:Array Value}{o:Obj}{n:Nat}{Q:Value->Shared->Prop}(ho:s.heap.get? l=some o)(hc:o.cls=.type "list")(hd:o.data=.seq its n)(hb:s.heap.IsList b its2)(hz:its.size+its2.size<=16777216)
 (h:∀ h',Heap.SameBut l s.heap h'->(∃ o',h'.get? l=some o'/\o'.cls=o.cls/\o'.dict=o.dict/\∃ n',o'.data=.seq (its++its2) n')->Q .none { s with heap:=h' }) :
 wpAny (model prog w) A (call (.builtin "list.extend") [.ref l,.ref b]) Q E s:=by
 have U:=j2 (f:=λx=>x++its2) ho hd
 obtain⟨c,dd,dt,sl⟩:=o
 obtain⟨⟨c2,dd2,dt2,sl2⟩,hb1,hb2,n2,hb3⟩:=hb
 simp only at hc hd hb2 hb3
 subst hc hd hb2 hb3
 have hz':its.size+its2.size<=sizeLine:=by rw [sizeLine_eq]; exact hz
 refine call_meets PySem.F.slot_list_extend ⟨_,ho,rfl⟩ PySem.F.entry_list_extend (PySem.F.args_list_extend_2 _ _) (je l its n dd sl b its2 n2 dd2 sl2 (extend_door hz') (Nat.le_trans (Nat.le_add_right _ _) hz') (Nat.le_succ_of_le hz')) ⟨ho,hb1,?_⟩
 exact h _ (Heap.SameBut.update ..) U
theorem gi{l:Addr}{o:Obj}{its:Array Value}{n:Nat}{k:Int}{t:Tok}{v:Value}{Q:Unit->Shared->Prop}(ho:s.heap.get? l=some o)(hc:o.cls=.type "list")(hd:o.data=.seq its n)
 (h0:0<=k) (hfit:k < 2 ^ 63) (hn:k < its.size)
 (hQ:∀ h',Heap.SameBut l s.heap h'->(∃ o',h'.get? l=some o'/\o'.cls=o.cls/\o'.dict=o.dict/\∃ n',o'.data=.seq (its.setIfInBounds k.toNat v) n')->Q () { s with heap:=h' }) :
 wpAny (model prog w) A (setItem (.ref l) (.int k t) v) Q E s:=by
 have hT:s.TypeIs (.ref l) "list":=⟨_,ho,hc⟩
 unfold setItem
 try with_reducible refine wpAny_holding ?_
 refine wpAny_bind (wpAny_sequenceKey hT (by decide) ?_)
 refine wpAny_bind (wpAny_callSpecial?_slot (name:=Str.ofString "__setitem__") hT slot_list_setitem
  (wpAny_call_entry slot_list_setitem hT entry_list_setitem ?_ (args_list_setitem _ _ _)))
 show wpAny _ _ (Builtin.List.listSubscript? (.int k t) >>= _) _ _ s
 refine wpAny_bind (wpAny_listSubscript_int (fitsIndex_of h0 hfit) ?_)
 clear hfit
 refine(Int.eq_ofNat_of_zero_le h0).elim λj e54_1=>?_
 subst e54_1
 have hj:j < its.size:=by lia
 have hx':its[j]?=some its[j]:=Array.getElem?_eq_getElem hj
 show wpAny _ _ ((seqItemAt l j >>= λr=>pure (r.map (j,·))) >>= _) _ _ s
 refine wpAny_bind (wpAny_bind (wpAny_seqItemAt ho hd (wpAny_pure ?_)))
 rw [hx']
 show wpAny _ _ (setSeqItemAt l j v >>= _) _ _ s
 have U:=j2 (f:=(·.setIfInBounds j v)) ho hd
 refine wpAny_bind (wpAny_setSeqItemAt ho hd ?_)
 first
  | exact wpAny_bind (wpAny_pure (wpAny_pure ⟨.none,rfl,wpAny_pure (hQ _ (Heap.SameBut.update ..) U)⟩))
  | exact wpAny_pure ⟨.none,rfl,wpAny_pure (hQ _ (Heap.SameBut.update ..) U)⟩
theorem rp{l:Addr}{its:Array Value}{x:Value}{e:Value->Bool}{Q:Value->Shared->Prop}(hl:s.heap.IsList l its)(he:∀ y,y∈its->SeqAt.EqAt A.in1 s y x (e y))(hy:its.toList.any e=true)(hz:its.size<=16777216)
 (h:Q (.int (its.toList.findIdx e:Nat) s.toks) { s with toks:=s.toks+1 }) :
 wpAny (model prog w) A (call (.builtin "list.index") [.ref l,x]) Q E s:=by
 obtain⟨⟨c2,dd2,dt2,sl2⟩,hb1,hb2,n2,hb3⟩:=hl
 simp only at hb2 hb3
 subst hb2 hb3
 have hj:its.toList.findIdx e < its.size:=by
  rw [<- Array.length_toList]
  exact List.findIdx_lt_length_of_exists (List.any_eq_true.mp hy)
 refine call_meets PySem.F.slot_list_index ⟨_,hb1,rfl⟩ PySem.F.entry_list_index (PySem.F.args_list_index_2 _ _)
  (SeqAt.list_indexAt l its n2 dd2 sl2 x e (its.toList.findIdx e) hj (by lia) ?_ ?_) ⟨hb1,λy hy=>he y hy,h⟩
 . have:=List.findIdx_getElem (p:=e) (xs:=its.toList) (w:=by simpa using hj)
   simpa using this
 . intro m hm hlt
   have:=List.not_of_lt_findIdx (p:=e) (xs:=its.toList) hlt
   simpa using this
end
end
section
open PySem PySem.W PyProof.Rows PySem.Calls
open PySem.Builtin PySem.Builtin.Bytes PySem.Builtin.Struct
noncomputable def jf:List (Nat×Char×UInt8):=[(1,'B',66),(2,'H',72),(4,'I',73),(8,'Q',81),(1,'b',98),(2,'h',104),(4,'i',105),(8,'q',113)]
noncomputable def fmtF(w:Nat)(c:Char):Format:={ bigEndian:=false,native:=false,codes:=[⟨c,1,0,w⟩],size:=w,items:=1 }
theorem rq:∀ x∈jf,parse #[60,x.2.2]=pure (fmtF x.1 x.2.1):=by
 intro x hx
 simp only [jf,List.mem_cons,List.not_mem_nil,or_false] at hx
 rcases hx with rfl | rfl | rfl | rfl | rfl | rfl | rfl | rfl <;> kernel_rfl
theorem nT:parse #[63]=pure { bigEndian:=false,native:=true,codes:=[⟨'?',1,0,1⟩],size:=1,items:=1 }:=by kernel_rfl
namespace ST
theorem plain:PlainAttrs "_struct.Struct" :=
 ⟨⟨"_struct.Struct.__getattribute__",by rw [typeLookup_type,builtinLookup_eq_fast]; kernel_rfl,by decide +kernel⟩,by rw [typeLookup_type,builtinLookup_eq_fast]; kernel_rfl⟩
theorem slot_pack:Slot "_struct.Struct" "pack_into" "_struct.Struct.pack_into" :=
 .of (owner:="_struct.Struct") (n:="pack_into") (by rw [typeLookup_type,builtinLookup_eq_fast]; kernel_rfl) (by decide +kernel) (by decide +kernel) (by decide +kernel)
  (by first | exact .inl (by decide +kernel) | exact .inr (by decide +kernel)) (by rw [isSubtype_type]; kernel_rfl)
theorem entry_pack:entryFor table "_struct.Struct.pack_into"=some Builtin.«_struct.Struct.pack_into»:=entryFor_of_tree (by kernel_rfl)
theorem args_pack(a b c d:Value):argsOk "_struct.Struct.pack_into" ⟨[a,b,c,d],[]⟩:=by unfold argsOk; kernel_rfl
theorem type_pack:typeOf (.builtin "_struct.Struct.pack_into")=pure (.type "method_descriptor"):=by show builtinType _=_; rw [builtinType_eq_fast]; kernel_rfl
theorem entry_held:entryFor table "_struct.pack_into.held"=some Builtin.«_struct.pack_into.held»:=entryFor_of_tree (by kernel_rfl)
theorem look_buffer:typeLookup (.type "bytearray") "__buffer__"=pure (some (.builtin "bytearray.__buffer__")):=by rw [typeLookup_type,builtinLookup_eq_fast]; kernel_rfl
end ST
noncomputable def bN(b:List UInt8)(t:Tok):Obj:=⟨.type "_struct.Struct",none,.fields #[.bytes b.toArray t],#[]⟩
section
variable {prog:Program}{w:World}{A:Around}{E:Value->Shared->Prop}{s:Shared}{a ba:Addr}{b:List UInt8}
theorem gw{M:Model}{fb:List UInt8}{ft:Format}{t:Tok}{Q:Array UInt8×Format->Shared->Prop}(ho:s.heap.get? a=some (bN fb t))(hp:parse fb.toArray=pure ft)(q:Q (fb.toArray,ft) s):wpAny M A (structFormat (.ref a)) Q E s:=by
 unfold structFormat
 refine wpAny_bind (wpAny_field (x:=.bytes fb.toArray t) ho rfl rfl ?_)
 rw [if_neg (by exact Bool.false_ne_true)]
 refine wpAny_bind (m:=payload (.bytes fb.toArray t)) ?_
 unfold payload payload?
 refine wpAny_bind (wpAny_pure ?_)
 refine wpAny_pure ?_
 rw [hp]
 exact wpAny_bind (wpAny_pure (wpAny_pure q))
theorem lF:∀ (raw b:List UInt8) (p k:Nat),p+k+raw.length<=b.length ->
 ((raw.zipIdx k).foldl (λ(out:Array UInt8) (x:UInt8×Nat)=>out.setIfInBounds (p+x.2) x.1) b.toArray)=(b.take (p+k)++raw++b.drop (p+k+raw.length)).toArray
 | [],b,p,k,h=>by simp
 | c::r,b,p,k,h=>by
  rw [List.zipIdx_cons,List.foldl_cons]
  have e:b.toArray.setIfInBounds (p+k) c=(b.set (p+k) c).toArray:=by simp
  rw [e,lF r (b.set (p+k) c) p (k+1) (by simp at h ⊢; lia)]
  congr 1
  have h':p+k < b.length:=by simp at h; lia
  rw [List.take_set,List.drop_set,if_pos (by lia)]
  have e1:p+(k+1)+r.length=p+k+(c::r).length:=by simp; lia
  rw [e1]
  congr 1
  have e2:(b.take (p+(k+1))).set (p+k) c=b.take (p+k)++[c]:=by
   rw [show p+(k+1)=(p+k)+1 by lia,List.take_succ_eq_append_getElem h',List.set_append_right _ _ (by simp; lia)]
   rw [show p+k-(b.take (p+k)).length=0 by simp; lia]
   rfl
  rw [e2]; simp
noncomputable def bF(b raw:List UInt8)(p:Nat):List UInt8:=b.take p++raw++b.drop (p+raw.length)
theorem cX{b raw:List UInt8}{p:Nat}(h:p+raw.length<=b.length):(bF b raw p).length=b.length:=by simp [bF]; lia
theorem j3{b r1 r2:List UInt8}{p:Nat}(h:p+r1.length<=b.length)(e:r1.length=r2.length):bF (bF b r1 p) r2 p=bF b r2 p:=by
 unfold bF
 have hp:(b.take p).length=p:=by simp; lia
 rw [<- e]
 congr 1
 . congr 1
   rw [List.append_assoc,List.take_left' hp]
 . rw [List.append_assoc,<- List.append_assoc,List.drop_left' (by simp; lia)]
theorem lG{f:Array UInt8->Array UInt8}{raw:Array UInt8}{p:Nat}{M:Model}{Q:Unit->Shared->Prop}(hb:s.heap.get? ba=some (baO b))(hp:p+raw.size<=b.length)(hz:b.length<=16777216)
 (hf:f=λout=>raw.toList.zipIdx.foldl (λ(out:Array UInt8) (x:UInt8×Nat)=>out.setIfInBounds (p+x.2) x.1) out)
 (q:∀ h',Heap.SameBut ba s.heap h'->h'.get? ba=some (baO (bF b raw.toList p))->Q () { s with heap:=h' }):wpAny M A (Bytes.write (.ref ba) f) Q E s:=by
 have e:f b.toArray=(bF b raw.toList p).toArray:=by
  rw [hf]; exact lF raw.toList b p 0 (by simpa using hp)
 refine cH hb (by rw [e]; simp; rw [cX (by simpa using hp)]; exact hz) ?_
 refine q _ (Heap.SameBut.update ..) ?_
 rw [Heap.get?_update_self _ hb rfl]
 exact congrArg (λz=>some (⟨.type "bytearray",none,.bytearray z 0,#[]⟩:Obj)) e
noncomputable def gY(w:Nat)(c:Char)(i:Int):Prop:=match c.isLower with
 | true=>-(2 ^ (8*w-1))<=i/\i < 2 ^ (8*w-1)
 | false=>0<=i/\i < 2 ^ (8*w)
noncomputable def nU(na:Bool)(w:Nat)(c:Char):Format:={ bigEndian:=false,native:=na,codes:=[⟨c,1,0,w⟩],size:=w,items:=1 }
theorem yN{fb:List UInt8}{na:Bool}{w0:Nat}{c:Char}{t th:Tok}{h:Int}{v:Value}{raw:Array UInt8}(hp:parse fb.toArray=pure (nU na w0 c))(hr:raw.size=w0)
 (pk:∀{id:String}{M:Model}{A:Around}{Q:Unit->Shared->Prop}{E:Value->Shared->Prop}{s:Shared}{put:Unit->Nat->Array UInt8->Sem Unit}{src:Value->Nat->Nat->Sem Unit},wpAny M A (put () 0 raw) Q E s->wpAny M A (packEach id (nU na w0 c) [v] () put src) Q E s) (h0:0<=h) (h1:h+w0<=b.length) (hz:b.length<=16777216) :
 Meets (Builtin.«_struct.Struct.pack_into» ⟨[.ref a,.ref ba,.int h th,v],[]⟩) (λ_1 R s=>s.heap.get? a=some (bN fb t)/\s.heap.get? ba=some (baO b) /\
  ∀ h' tk,Heap.SameBut ba s.heap h'->h'.get? ba=some (baO (bF b raw.toList h.toNat))->R (.ok (.ret .none)) { s with heap:=h',toks:=tk }):=by
 intro prog w A R s ⟨ho,hb,q⟩
 have hT:s.TypeIs (.ref a) "_struct.Struct":=⟨_,ho,rfl⟩
 have hTb:s.TypeIs (.ref ba) "bytearray":=⟨_,hb,rfl⟩
 unfold Builtin.«_struct.Struct.pack_into»
 refine wpAny_bind (m:=noKeywords "Struct.pack_into" _) (wpAny_pure ?_)
 refine wpAny_bind (gw ho hp ?_)
 refine wpAny_bind (wpAny_field (x:=.bytes fb.toArray t) ho rfl rfl ?_)
 unfold packInto
 refine jc Bool.false_ne_true ?_
 try dsimp -zeta only
 try extract_lets
 refine wpAny_bind (wpAny_specialOf hTb ST.look_buffer ?_)
 refine wpAny_bind (bE hb ?_)
 refine wpAny_bind (wpAny_pure ?_)
 refine wpAny_pure ⟨Code.quiet_builtin _ (by decide +kernel),codeAny_builtin ST.entry_held ?_⟩
 unfold Builtin.«_struct.pack_into.held»
 dsimp only [rawInt]
 refine wpAny_bind (m:=payload (.bytes _ t)) ?_
 unfold payload payload?
 refine wpAny_bind (wpAny_pure (wpAny_pure ?_))
 rw [hp]
 refine wpAny_bind (wpAny_pure ?_)
 unfold packHeld
 try extract_lets
 refine wpAny_bind (wpAny_of_eq (rfl:asIndex (.int h th)=pure h) ?_)
 have hf:fitsIndex h=true:=fitsIndex_of h0 (by lia)
 try dsimp -zeta only
 try extract_lets
 refine jc (by rw [hf]; exact Bool.false_ne_true) ?_
 try extract_lets
 have hpl:∀{M:Model}{A:Around}{Q:Nat->Shared->Prop}{E:Value->Shared->Prop}{s:Shared},Q h.toNat s->wpAny M A (placeIn "pack_into" "packing" "no space to pack" (nU na w0 c) ((b.toArray.size:Nat):Int).toNat h) Q E s:=by
  intro M A Q E s q
  unfold placeIn
  rw [if_neg (by lia)]
  dsimp only
  have hs:(nU na w0 c).size=w0:=rfl
  rw [if_neg (Int.not_lt.mpr h0),if_neg (by simp [hs]; lia)]
  exact wpAny_pure q
 refine wpAny_bind (hpl ?_)
 have hl:h.toNat+w0<=b.length:=by lia
 refine wpAny_bind (lG (raw:=Array.replicate w0 0) (p:=h.toNat) hb (by rw [Array.size_replicate]; exact hl) hz (by funext out; simp [nU]; rfl) λh' sb hb'=>?_)
 refine wpAny_bind (pk (lG (raw:=raw) (p:=h.toNat) hb' (by rw [cX (by simpa using hl),hr]; exact hl) (by rw [cX (by simpa using hl)]; exact hz) (by funext out; simp; rfl) λh'' sb' hb''=>?_))
 refine wpAny_pure (q h'' s.toks ⟨sb'.1.trans sb.1,λb e=>(sb'.2 b e).trans (sb.2 b e)⟩ ?_)
 rw [hb'',j3 (by simpa using hl) (by simpa using hr.symm)]
theorem xd{w:Nat}{c:Char}{i:Int}(h:gY w c i):¬ ((decide (i < (if c.isLower=true then -(2 ^ (8*w-1)) else 0)) || decide (i > (if c.isLower=true then 2 ^ (8*w-1) else 2 ^ (8*w))-1))=true):=by
 unfold gY at h
 cases e:c.isLower <;> rw [e] at h <;> (simp; exact⟨h.1,Int.le_sub_one_of_lt h.2⟩)
theorem Ae{x:Nat×Char×UInt8}(hx:x∈jf){i:Int}{ti:Tok}(hr:gY x.1 x.2.1 i){id:String}{M:Model}{A:Around}{Q:Unit->Shared->Prop}{E:Value->Shared->Prop}{s:Shared}{put:Unit->Nat->Array UInt8->Sem Unit}{src:Value->Nat->Nat->Sem Unit}(q:wpAny M A (put () 0 (intBytes false x.1 i)) Q E s):wpAny M A (packEach id (nU false x.1 x.2.1) [.int i ti] () put src) Q E s:=by
 have hc:(x.2.1=='x')=false/\(x.2.1=='s' || x.2.1=='p')=false:=(by decide:∀ x∈jf,(x.2.1=='x')=false/\(x.2.1=='s' || x.2.1=='p')=false) x hx
 unfold packEach
 extract_lets p1 p2
 refine wpAny_bind (tD ?_)
 extract_lets p3 p4 p5
 refine jc (by show ¬ (x.2.1=='x')=true; rw [hc.1]; exact Bool.false_ne_true) (jc (by show ¬ (x.2.1=='s' || x.2.1=='p')=true; rw [hc.2]; exact Bool.false_ne_true) (wpAny_bind (nR ?_)))
 refine wpAny_bind ?_
 refine(λ(k:∀{R:Array UInt8->Shared->Prop},R (intBytes false x.1 i) s->wpAny M A _ R E s)=>k ?_) ?_
 . refine wpAny_bind (wpAny_mono (Q:=Q) (by show wpAny M A (put () (0+0*x.1) _) _ _ _; rw [Nat.zero_mul]; exact q) (λ_1 _2 h=>?_) λ_1 _2 h=>h)
   exact wpAny_pure (wpAny_pure (wpAny_pure h))
 . clear p5 p4 p3 p2 p1 q hc
   intro R q
   simp only [jf,List.mem_cons,List.not_mem_nil,or_false] at hx
   rcases hx with rfl | rfl | rfl | rfl | rfl | rfl | rfl | rfl <;> (wp_walk; rw [if_neg (by exact xd hr)]; exact wpAny_pure q)
theorem xf{bb:Bool}{id:String}{M:Model}{A:Around}{Q:Unit->Shared->Prop}{E:Value->Shared->Prop}{s:Shared}{put:Unit->Nat->Array UInt8->Sem Unit}{src:Value->Nat->Nat->Sem Unit}(q:wpAny M A (put () 0 #[if bb then 1 else 0]) Q E s):wpAny M A (packEach id (nU true 1 '?') [.bool bb] () put src) Q E s:=by
 unfold packEach
 extract_lets
 refine wpAny_bind (tD ?_)
 extract_lets
 refine jc (by decide) (jc (by decide) (wpAny_bind (nR ?_)))
 wp_walk
 refine wpAny_mono q (λ_1 _2 h=>?_) λ_1 _2 h=>h
 wp_walk
 exact h
theorem nV{x:Nat×Char×UInt8}{t th ti:Tok}{h i:Int}(hx:x∈jf)(hr:gY x.1 x.2.1 i)(h0:0<=h)(h1:h+x.1<=b.length)(hz:b.length<=16777216) :
 Meets (Builtin.«_struct.Struct.pack_into» ⟨[.ref a,.ref ba,.int h th,.int i ti],[]⟩) (λ_1 R s=>s.heap.get? a=some (bN [60,x.2.2] t)/\s.heap.get? ba=some (baO b) /\
  ∀ h' tk,Heap.SameBut ba s.heap h'->h'.get? ba=some (baO (bF b (intBytes false x.1 i).toList h.toNat))->R (.ok (.ret .none)) { s with heap:=h',toks:=tk }) :=
 yN (rq x hx) (by simp [intBytes,PySem.Builtin.Memoryview.toLittleEndian]) (Ae hx hr) h0 h1 hz
theorem lH{t th:Tok}{h:Int}{bb:Bool}(h0:0<=h)(h1:h+1<=b.length)(hz:b.length<=16777216) :
 Meets (Builtin.«_struct.Struct.pack_into» ⟨[.ref a,.ref ba,.int h th,.bool bb],[]⟩) (λ_1 R s=>s.heap.get? a=some (bN [63] t)/\s.heap.get? ba=some (baO b) /\
  ∀ h' tk,Heap.SameBut ba s.heap h'->h'.get? ba=some (baO (bF b [if bb then 1 else 0] h.toNat))->R (.ok (.ret .none)) { s with heap:=h',toks:=tk }) :=
 yN (raw:=#[if bb then 1 else 0]) nT rfl xf h0 h1 hz
end
end
section
open PySem PySem.W PyProof.Rows PySem.Calls
open PySem.Builtin PySem.Builtin.Bytes PySem.Builtin.Struct
section
variable {prog:Program}{w:World}{A:Around}{E:Value->Shared->Prop}{s:Shared}{a ba:Addr}{b:List UInt8}
theorem tJ{x:Nat×Char×UInt8}{t th ti:Tok}{h i:Int}{Q:Value->Shared->Prop}(hx:x∈jf)(hr:gY x.1 x.2.1 i)(ho:s.heap.get? a=some (bN [60,x.2.2] t))(hb:s.heap.get? ba=some (baO b))
 (h0:0<=h) (h1:h+x.1<=b.length) (hz:b.length<=16777216)
 (q:∀ h' tk,Heap.SameBut ba s.heap h'->h'.get? ba=some (baO (bF b (intBytes false x.1 i).toList h.toNat))->Q .none { s with heap:=h',toks:=tk }) :
 wpAny (model prog w) A (call (.builtin "_struct.Struct.pack_into") [.ref a,.ref ba,.int h th,.int i ti]) Q E s :=
 call_meets ST.slot_pack ⟨_,ho,rfl⟩ ST.entry_pack (ST.args_pack _ _ _ _) (nV hx hr h0 h1 hz) ⟨ho,hb,q⟩
theorem tK{t th:Tok}{h:Int}{bb:Bool}{Q:Value->Shared->Prop}(ho:s.heap.get? a=some (bN [63] t))(hb:s.heap.get? ba=some (baO b))
 (h0:0<=h) (h1:h+1<=b.length) (hz:b.length<=16777216)
 (q:∀ h' tk,Heap.SameBut ba s.heap h'->h'.get? ba=some (baO (bF b [if bb then 1 else 0] h.toNat))->Q .none { s with heap:=h',toks:=tk }) :
 wpAny (model prog w) A (call (.builtin "_struct.Struct.pack_into") [.ref a,.ref ba,.int h th,.bool bb]) Q E s :=
 call_meets ST.slot_pack ⟨_,ho,rfl⟩ ST.entry_pack (ST.args_pack _ _ _ _) (lH h0 h1 hz) ⟨ho,hb,q⟩
end
end
section
open PySem PySem.W PyProof.Rows PySem.Calls
open Sem (wp)
set_option backward.match.sparseCases false in
noncomputable def bO:Code->Bool
 | .builtin id _1=>!PySem.Builtin.Bytes.decodersThatHold.contains id
 | _1=>true
noncomputable def gZ(l:List (Code×Pos)):Prop:=∀ x∈l,bO x.1=true
noncomputable def tL(Γ:Ctx):Prop:=bO Γ.code=true/\gZ Γ.below
structure wpC{α:Type}(M:Model)(A:Around)(t:Sem α)(Q:α->Shared->Prop)(E:Value->Shared->Prop)(s:Shared):Prop where
 run:∀ Γ p,Γ.In A->tL Γ->wp M Γ t (λa _1 s'=>Q a s') (λe _1 s'=>E e s') p s
noncomputable def aT(M:Model)(A:Around)(c:Code)(R:Result->Shared->Prop)(s:Shared):Prop :=
 ∀ Γ p,Γ.code=c->Γ.Below A->gZ Γ.below->wpCode M Γ R p s
theorem dO{c:Code}{p:Pos}{l:List (Code×Pos)}(h:bO c=true)(hl:gZ l):gZ ((c,p)::l):=by
 intro x hx
 rcases List.mem_cons.mp hx with rfl | hx
 . exact h
 . exact hl x hx
section
variable {α β:Type}{M:Model}{A:Around}{E E':Value->Shared->Prop}{s:Shared}
theorem wpC.of{t:Sem α}{Q:α->Shared->Prop}(h:wpAny M A t Q E s):wpC M A t Q E s:=⟨λΓ p hΓ _1=>h Γ p hΓ⟩
theorem aT.of{c:Code}{R:Result->Shared->Prop}(h:codeAny M A c R s):aT M A c R s:=λΓ p hc hΓ _1=>h Γ p hc hΓ
theorem ae{a:α}{Q:α->Shared->Prop}(h:Q a s):wpC M A (pure a) Q E s:=.of (wpAny_pure h)
theorem ai{t:Sem α}{Q Q':α->Shared->Prop}(h:wpC M A t Q E s)(hQ:∀ a s,Q a s->Q' a s)(hE:∀ e s,E e s->E' e s):wpC M A t Q' E' s :=
 ⟨λΓ p hΓ hc=>Sem.wp_mono M Γ t (λa _1 s=>hQ a s) (λe _1 s=>hE e s) p s (h.run Γ p hΓ hc)⟩
theorem ad{m:Sem α}{f:α->Sem β}{Q:β->Shared->Prop}(h:wpC M A m (λa s'=>wpC M A (f a) Q E s') E s):wpC M A (m >>= f) Q E s :=
 ⟨λΓ p hΓ hc=>by
  rw [Sem.wp_bind']
  exact Sem.wp_mono M Γ m (λa p' s' h'=>h'.run Γ p' hΓ hc) (λ_1 _2 _3 h'=>h') p s (h.run Γ p hΓ hc)⟩
theorem bv{p:Prop}[Decidable p]{t e:Sem α}{Q:α->Shared->Prop}(h:¬ p)(q:wpC M A e Q E s):wpC M A (if p then t else e) Q E s:=by rw [if_neg h]; exact q
theorem j4{p:Prop}[Decidable p]{t e:Sem α}{Q:α->Shared->Prop}(h:p)(q:wpC M A t Q E s):wpC M A (if p then t else e) Q E s:=by rw [if_pos h]; exact q
theorem ag{vs:List Value}{m:Sem α}{Q:α->Shared->Prop}(h:wpC M A m Q E s):wpC M A (holding vs m) Q E s :=
 ⟨λΓ p hΓ hc=>by rw [Sem.wp_holding]; exact h.run Γ p hΓ hc⟩
theorem lI{vs:List Value}{m:Sem α}{Q:α->Shared->Prop}(h:wpC M A m Q E s):wpC M A (m.keep vs) Q E s :=
 ⟨λΓ p hΓ hc=>by rw [Sem.wp_keep]; exact h.run Γ p hΓ hc⟩
theorem dP{vs:List Value}{m:Sem Value}{Q:Value->Shared->Prop}(h:wpC M A m Q E s):wpC M A (operate vs m) Q E s :=
 ⟨λΓ p hΓ hc=>by rw [Sem.wp_operate]; exact h.run Γ p hΓ hc⟩
theorem bh{m:Sem α}{k:Value->Sem Unit}{Q:α->Shared->Prop}(h:wpC M A m Q (λ_1 _2=>False) s):wpC M A (m.onRaise k) Q E s:=⟨λΓ p hΓ hc=>by
 rw [Sem.wp_onRaise]
 exact Sem.wp_mono M Γ m (λ_1 _2 _3 h'=>h') (λ_1 _2 _3 h'=>h'.elim) p s (h.run Γ p hΓ hc)⟩
theorem lM{m:Sem α}{Q:Except Value α->Shared->Prop}(h:wpC M A m (λa=>Q (.ok a)) (λ_1 _2=>False) s):wpC M A m.attempt Q E s :=
 ⟨λΓ p hΓ hc=>by
  rw [Sem.wp_attempt]
  exact Sem.wp_mono M Γ m (λ_1 _2 _3 h'=>h') (λ_1 _2 _3 h'=>h'.elim) p s (h.run Γ p hΓ hc)⟩
theorem aq{pos:Pos}{Q:Unit->Shared->Prop}(h:Q () s):wpC M A (standAt pos) Q E s:=.of (wpAny_standAt h)
theorem cn{a b:List Value}{Q:Unit->Shared->Prop}(h:Q () s):wpC M A (release a b) Q E s:=.of (wpAny_release h)
theorem aP{t:Sem α}{a:α}{Q:α->Shared->Prop}(e:t=pure a)(h:Q a s):wpC M A t Q E s:=.of (wpAny_of_eq e h)
theorem Looks.hereC{a:α}{t:Sem α}{Q:α->Shared->Prop}(L:Looks M s.heap t a)(h:Q a s):wpC M A t Q E s:=.of (L.here h)
theorem g5{c:Code}{R R':Result->Shared->Prop}(h:aT M A c R s)(hR:∀ r s,R r s->R' r s):aT M A c R' s :=
 λΓ p hc hΓ hb=>wpCode_mono hR (h Γ p hc hΓ hb)
noncomputable abbrev pK(M:Model)(A:Around)(R:Result->Shared->Prop)(fin:Fin)(s':Shared):Prop :=
 match fin with | .done f=>R (.ok f) s' | .again c'=>c'.quiet=true/\aT M A c' R s'
theorem aH{c:Code}{R:Result->Shared->Prop}(hcl:bO c=true)(h:wpC M (A.under c) (M.den c) (pK M A R) (λe s'=>R (.error e) s') s):aT M A c R s:=λΓ p hc hΓ hb=>by
 rw [wpCode_iff_wp,hc]
 refine Sem.wp_mono M Γ _ (λfin p' s' h'=>?_) (λ_1 _2 _3 h'=>h') p s (h.run Γ p (hc▸hΓ.in) ⟨hc▸hcl,hb⟩)
 cases fin with
 | done f=>exact h'
 | again c'=>exact⟨h'.1,h'.2 (Γ.goto c') p' rfl (hΓ.goto c') hb⟩
theorem pM{c:Code}{h:Option Value}{Q:Flow->Shared->Prop}
 (hc:aT M (A.mark h) c (λr s'=>match r with | .ok f=>Q f s' | .error e=>E e s') s) (hnb:h≠some byPass):wpC M A (run c h) Q E s :=
 ⟨λΓ p hΓ hcl=>by rw [Sem.wp_run]; exact hc _ p rfl (hΓ.enter c h p hnb) (dO hcl.1 hcl.2)⟩
theorem j5{c:Code}{Q:Value->Shared->Prop}(hc:aT M A c (λr s'=>match r with | .ok (.ret v)=>Q v s' | .ok _1=>False | .error e=>E e s') s):wpC M A (runValue c) Q E s :=
 ⟨λΓ p hΓ hcl=>by rw [Sem.wp_runValue]; exact hc _ p rfl (hΓ.enter c none p (by intro x; cases x)) (dO hcl.1 hcl.2)⟩
theorem cq{f:Value}{pos:List Value}{kw:List (Str×Value)}{Q:Value->Shared->Prop}
 (hc:aT M A (.call f ⟨pos,kw⟩) (λr s'=>match r with | .ok (.ret v)=>Q v s' | .ok _1=>False | .error e=>E e s') s):wpC M A (call f pos kw) Q E s:=j5 hc
theorem eY{c:Code}{env:Env}{Q:Flow->Shared->Prop}(hc:aT M (A.mark none) c (λr s'=>match r with | .ok f=>Q f s' | .error _1=>False) s):wpC M A (runOwn c env none) Q E s:=by
 unfold runOwn
 exact bh (pM hc nofun)
theorem eZ{c:Code}{R:Result->Shared->Prop}(hcl:bO c=true)(hq:c.quiet=true)(I:Nat->Shared->Prop)
 (turn:∀ n s,I n s->wpC M (A.under c) (M.den c) (λfin s'=>(fin=.again c/\∃ m,m < n/\I m s')\/pK M A R fin s') (λ_1 _2=>False) s) (n:Nat) (h:I n s):aT M A c R s:=by
 induction n using Nat.strongRecOn generalizing s with
 | ind n ih =>
  refine aH hcl (ai (turn n s h) (λfin s' hf=>?_) λ_1 _2 h'=>h'.elim)
  rcases hf with ⟨rfl,m,hm,hI⟩ | hf
  . exact⟨hq,ih m hm hI⟩
  . exact hf
end
section
variable {prog:Program}{w:World}{A:Around}{E:Value->Shared->Prop}{s:Shared}{R:Result->Shared->Prop}
theorem tM{α:Type}{M:Model}{A:Around}{E:Value->Shared->Prop}{s:Shared}{p q:Sem α}{Q:α->Shared->Prop}(h:p=q)(k:wpC M A q Q E s):wpC M A p Q E s:=h▸k
theorem cA{a:Addr}{args:Args}{o:Obj}{fd:FuncData}{body:List Stmt}(hroom:A.depth < recursionLimit)
 (ho:s.heap.get? a=some o) (hd':o.data=.func fd) (hco:fd.scope.isCoroutine=false) (hgen:fd.scope.isGenerator=false) (hbody:fd.body=.stmts body) (hcd:s.heap.CodeRec fd.code fd.qualname)
 (h:wpC (model prog w) A.in1 (bindArgs fd args) (λbinds s₁ =>
  wpC (model prog w) A.in1 (newFunctionEnv fd.scope fd.globals fd.closure binds (fd.qualname++".<locals>.") (some a) fd.code none fd.builtins)
   (λenv s₂=>s₂.heap.NoLimit/\aT (model prog w) A (.func body env) R s₂) (λe s'=>R (.error e) s') s₁) (λe s'=>R (.error e) s') s) :
 aT (model prog w) A (.call (.ref a) args) R s:=by
 obtain⟨c0,d0,odt,sl0⟩:=o
 have hd':odt=.func fd:=hd'
 subst hd'
 refine aH rfl ?_
 show wpC _ A.in1 (load a >>= λo=>_) _ _ s
 refine ad (.of (wpAny_load ho ?_))
 show wpC _ A.in1 (callFunction a fd args) _ _ s
 unfold callFunction
 refine x44 hcd λc oc vs tq hc hoc hdc hq=>?_
 extract_lets j
 refine tM (q:=field (.ref c) 1 >>= λr=>match r with | .str q _1=>pure q >>= j | _1=>pure fd.qualname >>= j) ?_ ?_
 . rw [hc]; rfl
 refine ad (.of (wpAny_field hoc hdc hq ?_))
 refine ad (ae ?_)
 refine ad (ai h (λbinds s₁ h₁=>?_) λ_1 _2 h'=>h')
 refine ad (ai h₁ (λenv s₂ h₂=>?_) λ_1 _2 h'=>h')
 refine ad (.of (wpAny_enterFrame h₂.1 hroom ?_))
 extract_lets code
 refine tM (q:=pure (Fin.again (.func body env))) ?_ (wpC.of (wpAny_pure (And.intro rfl h₂.2)))
 show(match fd.scope.isGenerator,fd.scope.isCoroutine with
  | false,false=>again code
  | true,false=>_
  | false,true=>_
  | true,true=>_)=_
 rw [hgen,hco]
 show again (match fd.body with | .stmts b=>.func b env | .expr e=>.expr e env)=_
 rw [hbody]; rfl
theorem hA{body:List Stmt}{env:Env}(h:wpC (model prog w) (A.deeper env) (execs body env) (λf s'=>R (.ok (.ret (match f with | .ret v=>v | _1=>.none))) s') (λ_1 _2=>False) s):aT (model prog w) A (.func body env) R s:=by
 refine aH rfl ?_
 show wpC _ (A.deeper env) (do point; match <- (execs body env).onRaise (leaving env) with | .ret v=>ret v | _1=>ret .none) _ _ s
 refine ad (.of (wpAny_point ?_))
 refine ad (bh (ai h (λf s' h'=>?_) λ_1 _2 h'=>h'))
 cases f <;> exact ae h'
theorem lN{stmts:List Stmt}{env:Env}(h:wpC (model prog w) A (execs stmts env) (λf s'=>R (.ok f) s') (λ_1 _2=>False) s):aT (model prog w) A (.block stmts env) R s:=by
 refine aH rfl ?_
 show wpC _ _ (do return Fin.done (<- (execs stmts env).onRaise (λx=>do noteFrame x env; theTreesLotGoes x))) _ _ s
 exact ad (bh (ai h (λf s' h'=>ae h') λ_1 _2 h'=>h'))
theorem jg{target:Expr}{it:Value}{body orelse:List Stmt}{env:Env}(I:Nat->Shared->Prop)
 (turn:∀ n s,I n s->wpC (model prog w) A (pyNext it) (λr s₁=>match r with
  | none=>wpC (model prog w) A (execs orelse env) (λf s₃=>R (.ok f) s₃) (λ_1 _2=>False) s₁
  | some v=>wpC (model prog w) A (assign target env v) (λ_1 s₂=>wpC (model prog w) A (execs body env) (λf s₃=>match f with
   | .next | .cont=>∃ m,m < n/\I m s₃
   | .brk=>R (.ok .next) s₃
   | .ret v=>R (.ok (.ret v)) s₃) (λ_1 _2=>False) s₂) (λ_1 _2=>False) s₁) (λ_1 _2=>False) s)
 (n:Nat) (h:I n s) (ht:∀ v,letOwnedTupleGo target it v=pure ()):aT (model prog w) A (.forLoop target it body orelse env) R s:=by
 refine eZ rfl rfl I (λn s hI=>?_) n h
 show wpC _ _ ((forTurn target it body orelse env).onRaise (λx=>do noteFrame x env; theTreesLotGoes x)) _ _ s
 refine bh ?_
 unfold forTurn
 refine ad (aq (ad (bh (ai (turn n s hI) (λr s₁ h₁=>?_) λ_1 _2 h'=>h'))))
 cases r with
 | none=>exact ae (.inr ⟨rfl,lN h₁⟩)
 | some v =>
  refine ad (aP (ht v) ?_)
  refine ad (ai h₁ (λ_1 s₂ h₂=>ad (ai h₂ (λf s₃ h₃=>?_) λ_1 _2 h'=>h')) λ_1 _2 h'=>h')
  cases f with
  | next=>exact ae (.inl ⟨rfl,h₃⟩)
  | cont=>exact ae (.inl ⟨rfl,h₃⟩)
  | brk=>exact ae (.inr h₃)
  | ret v=>exact ae (.inr h₃)
theorem ifF{a b:Prop}(h:if false=true then a else b):b:=h
theorem ifT{a b:Prop}(h:if true=true then a else b):a:=h
theorem gx{test:Expr}{body orelse:List Stmt}{env:Env}(I:Nat->Shared->Prop)
 (turn:∀ n s,I n s->wpC (model prog w) A (isTrue test env (eval test env)) (λb s₂ =>
  if b then wpC (model prog w) A (execs body env) (λf s₃=>match f with
   | .next | .cont=>∃ m,m < n/\I m s₃
   | .brk=>R (.ok .next) s₃
   | .ret v=>R (.ok (.ret v)) s₃) (λ_1 _2=>False) s₂
  else wpC (model prog w) A (execs orelse env) (λf s₃=>R (.ok f) s₃) (λ_1 _2=>False) s₂) (λ_1 _2=>False) s)
 (n:Nat) (h:I n s):aT (model prog w) A (.whileLoop test body orelse env) R s:=by
 refine eZ rfl rfl I (λn s hI=>?_) n h
 show wpC _ A ((whileTurn test body orelse env).onRaise (λx=>do noteFrame x env; theTreesLotGoes x)) _ _ s
 refine bh ?_
 unfold whileTurn
 refine ad (ai (turn n s hI) (λb s₂ h₂=>?_) λ_1 _2 h'=>h')
 cases b with
 | false =>
  refine bv Bool.false_ne_true ?_
  exact ad (ai (ifF h₂) (λf s₃ h₃=>ae (.inr h₃)) λ_1 _2 h'=>h')
 | true =>
  refine j4 rfl ?_
  refine ad (ai (ifT h₂) (λf s₃ h₃=>?_) λ_1 _2 h'=>h')
  cases f with
  | next=>exact ae (.inl ⟨rfl,h₃⟩)
  | cont=>exact ae (.inl ⟨rfl,h₃⟩)
  | brk=>exact ae (.inr h₃)
  | ret v=>exact ae (.inr h₃)
end
section
variable {prog:Program}{w:World}{M:Model}{A:Around}{E:Value->Shared->Prop}{s:Shared}{pos:Pos}{f:Value}{first:List Value}{Q:Value->Shared->Prop}
theorem rz{as:List (Bool×Sem Value)}{Q:Args->Shared->Prop}(hp:as.any (·.1)=false)(h:wpC M A (spliced as) (λvs s'=>Q ⟨vs,[]⟩ s') E s):wpC M A (evalArgs f true as []) Q E s:=by
 unfold evalArgs
 cases as with
 | nil =>
  refine ad (m:=spliced []) (ai h (λvs s' h'=>?_) λ_1 _2 x=>x)
  refine ag ?_
  exact ad (ae (ad (ae (ae h'))))
 | cons a r =>
  obtain⟨b,x⟩:=a
  obtain rfl:b=false:=by simp at hp; exact hp.1
  show wpC M A (spliced ((false,x)::r) >>= _) Q E s
  refine ad (ai h (λvs s' h'=>?_) λ_1 _2 x=>x)
  refine ag ?_
  exact ad (ae (ad (ae (ae h'))))
theorem jp{P:Heap->Prop}{args:List (Bool×Sem Value)}(hplain:args.any (·.1)=false)
 (hk:∀ h,P h->∃ k,(k=Keeper.frame\/k=Keeper.machine\/k=Keeper.boundFrame)/\Looks M h (keeperOf f) k)
 (h:wpC M A (spliced args) (λvs s₁=>P s₁.heap/\wpC M A (call f (first++vs)) Q E s₁) E s):wpC M A (callWith pos f first args []) Q E s:=by
 unfold callWith
 refine ad (ag (rz hplain (ai h (λvs s₁ h₁=>ad (aq ?_)) λ_1 _2 x=>x)))
 refine x12 (hk _ h₁.1) λk hk' L=>?_
 extract_lets st ps
 have hs:st=false:=by show(args.any (·.1) || false)=false; rw [hplain]; rfl
 refine ad (Looks.hereC L ?_)
 have tail:∀{t:Sem Value},wpC M A t Q E s₁->wpC M A (t >>= λr=>holding [r] point >>= λ_1=>pure r) Q E s₁ :=
  λht=>ad (ai ht (λr s₂ hr=>ad (ag (.of (wpAny_point (ae hr))))) λ_1 _2 x=>x)
 have marked (mk:Value):wpC M A (callMarked mk f (first++vs) []) Q E s₁:=by unfold callMarked; exact lI h₁.2
 rw [hs]
 rcases hk' with rfl | rfl | rfl <;> first | exact tail h₁.2 | (by_cases hl:args.length+2*0 > 30 <;> first | exact j4 hl (tail h₁.2) | exact bv hl (tail (marked _)))
theorem e7{id:String}{args:Args}{b:Builtin}{R:Result->Shared->Prop}(hq:plainId id=true)(hcl:bO (.builtin id args)=true)(hb:entryFor table id=some b)
 (h:wpC (model prog w) A.in1 (checkBuiltinCall id args) (λ_1 s₁=>wpC (model prog w) A.in1 (b args) (pK (model prog w) A R) (λe s'=>R (.error e) s') s₁) (λe s'=>R (.error e) s') s) :
 aT (model prog w) A (.call (.builtin id) args) R s:=by
 refine aH rfl ?_
 show wpC _ A.in1 (do checkBuiltinCall id args; again (.builtin id args)) _ _ s
 refine ad (ai h (λ_1 s₁ h₁=>ae ⟨plainId_quiet hq args,aH hcl ?_⟩) λ_1 _2 h'=>h')
 rw [Around.under_plainId hq args]
 show wpC _ _ (match entryFor table id with | some b=>b args | none=>unsupported ((withoutEnding? id "#data").getD id)) _ _ s₁
 rw [hb]; exact h₁
theorem eR{id:String}{args:Args}{b:Builtin}{R:Result->Shared->Prop}(hcl:bO (.builtin id args)=true)(hb:entryFor table id=some b)
 (h:wpC (model prog w) (A.under (.builtin id args)) (b args) (pK (model prog w) A R) (λe s'=>R (.error e) s') s):aT (model prog w) A (.builtin id args) R s:=by
 refine aH hcl ?_
 show wpC _ _ (match entryFor table id with | some b=>b args | none=>unsupported ((withoutEnding? id "#data").getD id)) _ _ s
 rw [hb]; exact h
theorem dQ{T:String}{name:Str}{id:String}{b:Builtin}{self:Value}{rest:List Value}{Q:Value->Shared->Prop}(h:Slot T name id)(hT:s.TypeIs self T)(hcl:bO (.builtin id ⟨self::rest,[]⟩)=true)
 (hb:entryFor table id=some b) (ha:argsOk id ⟨self::rest,[]⟩)
 (hc:wpC (model prog w) A.in1 (b ⟨self::rest,[]⟩) (λfin s'=>∃ v,fin=.done (.ret v)/\Q v s') E s):wpC (model prog w) A (call (.builtin id) (self::rest)) Q E s:=by
 refine cq (e7 h.plain hcl hb (.of (h.check _ _ _ _ _ _ _ _ hT ha (ai hc (λfin s' h'=>?_) λ_1 _2 h'=>h'))))
 obtain⟨v,rfl,hv⟩:=h'; exact hv
theorem dH{self:Value}{T:String}{name:Str}{id:String}{args:List Value}{Q:Option Value->Shared->Prop}(hT:s.TypeIs self T)(h:Slot T name id)
 (hc:wpC M A (call (.builtin id) (self::args)) (λv=>Q (some v)) E s):wpC M A (callSpecial? self name args) Q E s:=by
 simp only [callSpecial?]
 refine ad (.of (wpAny_specialOf hT h.lookup ?_))
 simp only [h.bind]
 exact ag (ad (ae (ad (ai hc (λv s' h'=>ae h') λ_1 _2 h'=>h'))))
end
end
section
open PySem PySem.W PyProof.Rows PySem.Calls
open PySem.Builtin PySem.Builtin.Bytes
open Sem (wp)
section
variable {prog:Program}{w:World}{M:Model}{A:Around}{E:Value->Shared->Prop}{s:Shared}{a:Addr}{b:List UInt8}
theorem jq{f:Code×Pos->Bool}(hf:∀ c p,c.isGuard=false->bO c=true->f (c,p)=false):∀{l:List (Code×Pos)},guardsOf l=[]->gZ l->l.any f=false
 | [],_1,_2=>rfl
 | (c,p)::r,hg,hc=>by
  rw [guardsOf_cons,List.append_eq_nil_iff] at hg
  have hng:c.isGuard=false:=by
   cases e:c.isGuard with
   | false=>rfl
   | true=>have:=hg.1; simp [Code.guards,e] at this
  rw [List.any_cons,jq hf hg.2 λy hy=>hc y (.tail _ hy),hf c p hng (hc _ (.head _))]; rfl
noncomputable def ExP(f:Code×Pos->Bool)(q:Pos)(c:Code):Prop:=c.isGuard=false->bO c=true->f (c,q)=false
theorem ExP.of{f:Code×Pos->Bool}{q:Pos}{c:Code}(h:f (c,q)=false):ExP f q c:=λ_1 _2=>h
theorem hF{self:Value}{Q:Bool->Shared->Prop}(hg:A.guards=some [])(h:Q false s):wpC M A (exported self) Q E s:=⟨λΓ p hΓ hc=>by
 have hgu:guardsOf ((Γ.code,p)::Γ.below)=[]:=by rw [guardsOf_cons]; exact hΓ.2.2.2.1 [] hg
 unfold exported
 show Q (List.any ((Γ.code,p)::Γ.below) _) s
 rw [jq (λc q=>(?_:ExP _ q c)) hgu (dO hc.1 hc.2)]
 . exact h
 . cases c with
   | builtin id args =>
    intro hng hcl
    obtain⟨pos,kw⟩:=args
    have n:∀ g,(Code.builtin g ⟨pos,kw⟩).isGuard=true->id≠g:=λg hg e=>by rw [<- e,hng] at hg; cases hg
    delta exported.match_1 exported._sparseCasesOn_1
    dsimp only
    refine(dif_neg (n _ (by rfl))).trans <| (dif_neg (n _ (by rfl))).trans <| (dif_neg (n _ (by rfl))).trans <| (dif_neg (n _ (by rfl))).trans <| (dif_neg (n _ (by rfl))).trans ?_
    cases pos with
    | nil=>rfl
    | cons v t =>
     have hcl:(!decodersThatHold.contains id)=true:=hcl
     show(_&&decodersThatHold.contains id)=false
     cases e:decodersThatHold.contains id
     . exact Bool.and_false _
     . rw [e] at hcl; cases hcl
   | _=>exact .of rfl⟩
end
namespace BA
theorem mro:mroOf (.type "bytearray")=pure [.type "bytearray",.type "object"]:=by rw [mroOf_type]; kernel_rfl
theorem nW:typeLookup (.type "bytearray") "__new__"=pure (some (.builtin "bytearray.__new__")):=by rw [typeLookup_type,builtinLookup_eq_fast]; kernel_rfl
theorem rA:Slot "bytearray" "__init__" "bytearray.__init__" :=
 .of (owner:="bytearray") (n:="__init__") (by rw [typeLookup_type,builtinLookup_eq_fast]; kernel_rfl) (by decide +kernel) (by decide +kernel) (by decide +kernel)
  (by first | exact .inl (by decide +kernel) | exact .inr (by decide +kernel)) (by rw [isSubtype_type]; kernel_rfl)
theorem called:TypeCalled "bytearray" "bytearray.__new__" "bytearray.__init__" :=
 ⟨by decide +kernel,by decide +kernel,⟨_,_,mro⟩,madeBy_type mro nW (by decide +kernel),by decide +kernel,by rw [isSubtype_type]; kernel_rfl,rA⟩
theorem typeCall(a:Value):checkTypeCall "bytearray" ⟨[a],[]⟩=pure ():=by kernel_rfl
theorem newCall(a:Value):checkBuiltinCall "bytearray.__new__" ⟨[.type "bytearray",a],[]⟩=pure ():=by kernel_rfl
theorem entry_new:entryFor table "bytearray.__new__"=some Builtin.«list.__new__» :=
 entryFor_alias (id':="list.__new__") (by rw [fastTable_eq_tree]; kernel_rfl) (by decide +kernel) (by decide +kernel) (by rw [fastTable_eq_tree]; kernel_rfl)
theorem plain_new:plainId "bytearray.__new__"=true:=by decide +kernel
theorem entry_init:entryFor table "bytearray.__init__"=some Builtin.«bytearray.__init__»:=entryFor_of_tree (by kernel_rfl)
theorem args_init(a b:Value):argsOk "bytearray.__init__" ⟨[a,b],[]⟩:=by unfold argsOk; kernel_rfl
theorem bindO(v:Value):Builtin.Bytes.bindOptional "bytearray.__init__" "bytearray" ["source","encoding","errors"] [v] []=pure [some v,none,none]:=by kernel_rfl
set_option maxRecDepth 1000000 in
theorem owner_new:("bytearray.__new__".splitOn ".__new__").headD ""="bytearray":=by simp +decide [String.splitOn,String.splitOnAux]
theorem clean_init(a:Args):bO (.builtin "bytearray.__init__" a)=true:=by
 have h:PySem.Builtin.Bytes.decodersThatHold.contains "bytearray.__init__"=false:=by decide +kernel
 exact congrArg not h
theorem clean_call(a:Args):bO (.builtin "type.__call__" a)=true:=by
 have h:PySem.Builtin.Bytes.decodersThatHold.contains "type.__call__"=false:=by decide +kernel
 exact congrArg not h
theorem clean_set(a:Args):bO (.builtin "bytearray.__setitem__" a)=true:=by
 have h:PySem.Builtin.Bytes.decodersThatHold.contains "bytearray.__setitem__"=false:=by decide +kernel
 exact congrArg not h
end BA
section
variable {prog:Program}{w:World}{M:Model}{A:Around}{E:Value->Shared->Prop}{s:Shared}{a:Addr}{b:List UInt8}
theorem gj(a:Value){Q₁:Value->Shared->Prop}(h:Q₁ (.ref s.heap.objs.size) { s with heap:=s.heap.push (baO []) }) :
 codeAny (model prog w) A (.call (.builtin "bytearray.__new__") ⟨[.type "bytearray",a],[]⟩) (wants Q₁ E) s:=by
 refine codeAny_of_tree ?_
 show wpAny _ A.in1 (do checkBuiltinCall "bytearray.__new__" ⟨[.type "bytearray",a],[]⟩; again (.builtin "bytearray.__new__" ⟨[.type "bytearray",a],[]⟩)) _ _ s
 refine wpAny_bind (wpAny_of_eq (BA.newCall a) (wpAny_pure ⟨plainId_quiet BA.plain_new _,codeAny_builtin_stack BA.entry_new rfl λp st=>?_⟩))
 rw [Around.under_plainId BA.plain_new _]
 dsimp only
 rw [BA.owner_new]
 refine wpAny_bind (wpAny_pure ?_)
 refine jc Bool.false_ne_true (wpAny_bind (wpAny_of_eq BA.sub_ba (jc Bool.false_ne_true (wpAny_bind (wpAny_pure ?_)))))
 exact wIfp rfl (wpAny_bind (wpAny_newObj_type (wpAny_pure h) (by size_fits)))
theorem jr{T newId initId:String}{Bi:Builtin}{args:List Value}{Q Q₁:Value->Shared->Prop}(ft:TypeCalled T newId initId)(hct:checkTypeCall T ⟨args,[]⟩=pure ())(entryI:entryFor table initId=some Bi)
 (hcl:∀ a,bO (.builtin initId a)=true) (hnew:codeAny (model prog w) A.in1 (.call (.builtin newId) ⟨.type T::args,[]⟩) (wants Q₁ E) s)
 (hnext:∀ obj s₁,Q₁ obj s₁->s₁.TypeIs obj T/\argsOk initId ⟨obj::args,[]⟩/\wpC (model prog w) A.in1.in1 (Bi ⟨obj::args,[]⟩) (λfin s'=>fin=.done (.ret .none)/\Q obj s') E s₁) :
 wpC (model prog w) A (call (.type T) args) Q E s:=by
 refine x21 ft.mro λc tl hmro=>?_
 refine cq (aH rfl ?_)
 show wpC _ _ (callAny (.type T) ⟨args,[]⟩) _ _ _
 refine ae ⟨Code.quiet_builtin _ (by decide +kernel),eR (BA.clean_call _) PySem.F.entry_type_call ?_⟩
 rw [Around.under_plain (weight_type_call_type T args []) (units_type_call_type T args [])]
 unfold Builtin.«type.__call__»
 dsimp -zeta only
 try extract_lets
 refine bv (by rw [ft.notType]; exact Bool.false_ne_true) ?_
 try extract_lets
 refine bv (by rw [ft.canCreate]; exact Bool.false_ne_true) ?_
 try extract_lets
 refine ad (aP hct ?_)
 refine ad (aP hmro ?_)
 try extract_lets
 refine bv Bool.false_ne_true ?_
 try extract_lets
 refine ad (aP ft.made ?_)
 refine ad (ae ?_)
 refine ad (ag (cq (.of (codeAny_mono hnew λr s₁ hr=>?_))))
 cases r with
 | error e=>exact hr
 | ok fl =>
  cases fl with
  | ret obj =>
   refine x03 (hnext _ _ hr) λhT hok hi=>?_
   refine ad (.of (wpAny_isInstance hT ft.sub ?_))
   try extract_lets
   refine bv Bool.false_ne_true ?_
   refine ad (ag (dH hT ft.init ?_))
   refine dQ ft.init hT (hcl _) entryI hok (ai hi (λfin s' h'=>?_) λ_1 _2 h'=>h')
   refine x02 h' λe115_0 hq=>?_
   clear h'
   subst e115_0
   refine⟨_,rfl,?_⟩
   exact bv Bool.false_ne_true (ae hq)
  | _=>exact hr.elim
end
end
section
open PySem PySem.W PyProof.Rows PySem.Calls
open PySem.Builtin PySem.Builtin.Bytes
open Sem (wp)
namespace BA
theorem look_release:typeLookup (.type "bytearray") "__release_buffer__"=pure (some (.builtin "bytearray.__release_buffer__")):=by rw [typeLookup_type,builtinLookup_eq_fast]; kernel_rfl
theorem drop_release:("bytearray.__release_buffer__":String).dropRight ("__release_buffer__".length+1)="bytearray":=by decide +kernel
theorem ends_release:("bytearray.__release_buffer__":String).endsWith ("."++"__release_buffer__")=true:=by decide +kernel
end BA
section
variable {prog:Program}{w:World}{M:Model}{A:Around}{E:Value->Shared->Prop}{s:Shared}{a:Addr}{b:List UInt8}
theorem eS{Q:Bool->Shared->Prop}(h:s.heap.get? a=some (baO b))(q:Q false s):wpAny M A (ownRelease (.ref a)) Q E s:=by
 have hT:s.TypeIs (.ref a) "bytearray":=⟨_,h,rfl⟩
 unfold ownRelease slotIsOwn
 refine wpAny_bind (wpAny_bind (wpAny_specialOf hT BA.look_release ?_))
 dsimp only
 rw [if_neg (by rw [BA.ends_release]; exact Bool.false_ne_true),BA.drop_release]
 exact wpAny_isInstance hT BA.sub_ba (wpAny_pure q)
theorem fE{Q:Nat->Shared->Prop}(h:s.heap.get? a=some (baO b))(q:Q 0 s):wpAny M A (exportsOf (.ref a)) Q E s:=by
 unfold exportsOf
 exact wpAny_bind (wpAny_load h (wpAny_pure q))
theorem Af{n:Int}{t:Tok}{Q:Value->Shared->Prop}(hg:A.guards=some [])(h0:0<=n)(h1:n<=16777216)
 (q:∀ h' tk,(∀ b o,s.heap.get? b=some o->h'.get? b=some o)->h'.get? s.heap.objs.size=some (baO (List.replicate n.toNat 0))->Q (.ref s.heap.objs.size) { s with heap:=h',toks:=tk }) :
 wpC (model prog w) A (call (.type "bytearray") [.int n t]) Q E s:=by
 refine jr (Q₁:=λobj s₁=>obj=.ref s.heap.objs.size/\s₁={ s with heap:=s.heap.push (baO []) }) BA.called (BA.typeCall _) BA.entry_init BA.clean_init (gj _ ⟨rfl,rfl⟩) ?_
 rintro obj s₁ ⟨rfl,rfl⟩
 have hb:(s.heap.push (baO [])).get? s.heap.objs.size=some (baO []):=Heap.get?_push_size _ rfl
 refine⟨⟨_,hb,rfl⟩,BA.args_init _ _,?_⟩
 unfold Builtin.«bytearray.__init__»
 dsimp -zeta only
 refine ad (.of (eS hb ?_))
 try extract_lets
 refine bv (by exact Bool.false_ne_true) ?_
 try extract_lets
 refine ad (aP (BA.bindO _) ?_)
 try extract_lets
 dsimp -zeta only
 refine ad (aP (a:=()) rfl ?_)
 try extract_lets
 refine ad (aP (a:=()) rfl ?_)
 try extract_lets
 refine ad ?_
 try extract_lets
 refine ad (hF (by exact hg) ?_)
 try extract_lets
 show wpC _ _ (exportsOf (.ref s.heap.objs.size) >>= λx=>pure (decide (x > 0))) _ _ _
 refine ad (.of (fE hb (ae ?_)))
 try extract_lets
 refine bv (by decide) ?_
 try extract_lets
 refine .of ?_
 try extract_lets
 refine wpAny_bind (cH hb (by simp) ?_)
 try extract_lets
 have hb1:((s.heap.push (baO [])).update s.heap.objs.size (Obj.mapBytearray λ_1=>#[])).get? s.heap.objs.size=some (baO []):=by rw [Heap.get?_update_self _ hb rfl]; rfl
 refine wpAny_bind (wpAny_of_eq (rfl:asStr? (.int n t)=pure none) ?_)
 try extract_lets
 refine bm_if_false rfl ?_
 try extract_lets
 refine wpAny_bind (bm_if_false rfl (bm_if_false rfl (wpAny_pure ?_)))
 try extract_lets
 refine wpAny_bind (wpAny_specialOf (typeIs_int _ _ _) AutoSeq1.idx_int ?_)
 try extract_lets
 refine bm_if_true rfl ?_
 try extract_lets
 refine wpAny_bind (wpAny_attempt (wpAny_of_eq (rfl:asIndex (.int n t)=pure n) ?_))
 try extract_lets
 dsimp -zeta only
 have hf:fitsIndex n=true:=fitsIndex_of h0 (by lia)
 refine bm_if_false (by rw [hf]; rfl) ?_
 try extract_lets
 rw [if_neg (by lia)]
 refine bm_if_false (beq_eq_false_iff_ne.mpr (by lia)) ?_
 try extract_lets
 refine bm_if_false (by unfold tooLong; rw [sizeLine_eq]; simp; omega) ?_
 try extract_lets
 refine wpAny_bind (wpAny_rule ?_)
 try extract_lets
 have keep:∀ (h':Heap),Heap.SameBut s.heap.objs.size (s.heap.push (baO [])) h'->∀ b o,s.heap.get? b=some o->h'.get? b=some o:=λh' hs b o e=>by
  have:b≠s.heap.objs.size:=Nat.ne_of_lt (Heap.lt_size e)
  exact(hs.2 b this).trans (Heap.get?_push_of_some _ e)
 have k1:Heap.SameBut s.heap.objs.size (s.heap.push (baO [])) ((s.heap.push (baO [])).update s.heap.objs.size (Obj.mapBytearray λ_1=>#[])):=Heap.SameBut.update ..
 by_cases hn:n > 0
 . rw [if_pos hn]
   refine wpAny_bind (cH hb1 (by simp; omega) ?_)
   try extract_lets
   refine wpAny_pure ⟨rfl,?_⟩
   try extract_lets
   refine q _ s.toks (keep _ (k1.trans (Heap.SameBut.update ..))) ?_
   rw [Heap.get?_update_self _ hb1 rfl]
   have e:(List.replicate n.toNat (0:UInt8)).toArray=Array.replicate n.toNat 0:=by simp
   show some (⟨.type "bytearray",none,.bytearray (Array.replicate n.toNat 0) 0,#[]⟩:Obj)=some ⟨.type "bytearray",none,.bytearray (List.replicate n.toNat 0).toArray 0,#[]⟩
   rw [e]
 . rw [if_neg hn]
   refine wpAny_pure ⟨rfl,?_⟩
   try extract_lets
   refine q _ s.toks (keep _ k1) ?_
   have:n=0:=by lia
   subst this
   exact hb1
theorem j6{id:String}{d:Array UInt8}{t:Tok}:buffer? id (.bytes d t) true=pure (some d):=by
 unfold buffer?
 rw [KBy.special_eq KBy.look_buffer,KBy.own_buffer,KBy.own_release]
 kernel_rfl
theorem dR:typeLookup (.type "bytes") "__index__"=pure none:=by rw [typeLookup_type,builtinLookup_eq_fast]; kernel_rfl
theorem j7:typeLookup (.type "bytes") "__int__"=pure none:=by rw [typeLookup_type,builtinLookup_eq_fast]; kernel_rfl
theorem hG:typeLookup (.type "bytes") "__float__"=pure none:=by rw [typeLookup_type,builtinLookup_eq_fast]; kernel_rfl
theorem fF:isSubtype (.type "bytes") (.type "complex")=pure false:=by rw [isSubtype_type]; kernel_rfl
theorem j8:isSubtype (.type "bytes") (.type "bytearray")=pure false:=by rw [isSubtype_type]; kernel_rfl
theorem tN{d:Array UInt8}{t:Tok}{Q:Value->Shared->Prop}(hg:A.guards=some [])(h1:d.size<=16777216)
 (q:∀ h' tk,(∀ b o,s.heap.get? b=some o->h'.get? b=some o)->h'.get? s.heap.objs.size=some (baO d.toList)->Q (.ref s.heap.objs.size) { s with heap:=h',toks:=tk }) :
 wpC (model prog w) A (call (.type "bytearray") [.bytes d t]) Q E s:=by
 refine jr (Q₁:=λobj s₁=>obj=.ref s.heap.objs.size/\s₁={ s with heap:=s.heap.push (baO []) }) BA.called (BA.typeCall _) BA.entry_init BA.clean_init (gj _ ⟨rfl,rfl⟩) ?_
 rintro obj s₁ ⟨rfl,rfl⟩
 have hb:(s.heap.push (baO [])).get? s.heap.objs.size=some (baO []):=Heap.get?_push_size _ rfl
 refine⟨⟨_,hb,rfl⟩,BA.args_init _ _,?_⟩
 unfold Builtin.«bytearray.__init__»
 dsimp -zeta only
 refine ad (.of (eS hb ?_))
 try extract_lets
 refine bv (by exact Bool.false_ne_true) ?_
 try extract_lets
 refine ad (aP (BA.bindO _) ?_)
 try extract_lets
 dsimp -zeta only
 refine ad (aP (a:=()) rfl ?_)
 try extract_lets
 refine ad (aP (a:=()) rfl ?_)
 try extract_lets
 refine ad ?_
 try extract_lets
 refine ad (hF (by exact hg) ?_)
 try extract_lets
 show wpC _ _ (exportsOf (.ref s.heap.objs.size) >>= λx=>pure (decide (x > 0))) _ _ _
 refine ad (.of (fE hb (ae ?_)))
 try extract_lets
 refine bv (by decide) ?_
 try extract_lets
 refine .of ?_
 try extract_lets
 refine wpAny_bind (cH hb (by simp) ?_)
 try extract_lets
 have hb1:((s.heap.push (baO [])).update s.heap.objs.size (Obj.mapBytearray λ_1=>#[])).get? s.heap.objs.size=some (baO []):=by rw [Heap.get?_update_self _ hb rfl]; rfl
 refine wpAny_bind (wpAny_of_eq (rfl:asStr? (.bytes d t)=pure none) ?_)
 try extract_lets
 refine bm_if_false rfl ?_
 try extract_lets
 refine wpAny_bind (bm_if_false rfl (bm_if_false rfl (wpAny_pure ?_)))
 try extract_lets
 refine wpAny_bind (wpAny_of_eq (KBy.special_eq dR) ?_)
 try extract_lets
 refine bm_if_false rfl ?_
 try extract_lets
 refine wpAny_bind (wpAny_of_eq j6 ?_)
 try extract_lets
 dsimp -zeta only
 refine wpAny_bind (wpAny_rule ?_)
 try extract_lets
 have keep:∀ (h':Heap),Heap.SameBut s.heap.objs.size (s.heap.push (baO [])) h'->∀ b o,s.heap.get? b=some o->h'.get? b=some o:=λh' hs b o e=>by
  have:b≠s.heap.objs.size:=Nat.ne_of_lt (Heap.lt_size e)
  exact(hs.2 b this).trans (Heap.get?_push_of_some _ e)
 have k1:Heap.SameBut s.heap.objs.size (s.heap.push (baO [])) ((s.heap.push (baO [])).update s.heap.objs.size (Obj.mapBytearray λ_1=>#[])):=Heap.SameBut.update ..
 refine wpAny_bind (cH hb1 h1 ?_)
 try extract_lets
 refine wpAny_pure ⟨rfl,?_⟩
 try extract_lets
 refine q _ s.toks (keep _ (k1.trans (Heap.SameBut.update ..))) ?_
 rw [Heap.get?_update_self _ hb1 rfl]
 show some (⟨.type "bytearray",none,.bytearray d 0,#[]⟩:Obj)=some ⟨.type "bytearray",none,.bytearray d.toList.toArray 0,#[]⟩
 rw [Array.toArray_toList]
theorem rD{l u:Value}{lo hi:Option Int}{x y:Int}{d:Array UInt8}{td:Tok}{sl:Addr}{Q:Unit->Shared->Prop}(hg:A.guards=some [])(h:s.heap.get? a=some (baO b))(hs:s.heap.IsSliceOf sl l u .none)(hl:IsPart l lo)(hu:IsPart u hi)
 (hb:sliceBounds lo hi none b.length=(x,y,1)) (h0:0<=x) (h1:x<=y) (h2:y<=b.length) (hz:b.length<=16777216) (hd:(d.size:Int)=y-x)
 (q:∀ h' tk,(∀ c o,c≠a->s.heap.get? c=some o->h'.get? c=some o)->h'.get? a=some (baO (b.take x.toNat++d.toList++b.drop y.toNat))->Q () { s with heap:=h',toks:=tk }) :
 wpC (model prog w) A (setItem (.ref a) (.ref sl) (.bytes d td)) Q E s:=by
 have hT:s.TypeIs (.ref a) "bytearray":=⟨_,h,rfl⟩
 have hTs:s.TypeIs (.ref sl) "slice":=let⟨o,e,c,_⟩:=hs; ⟨o,e,c⟩
 unfold setItem
 try with_reducible refine ag ?_
 refine ad (.of (wpAny_sequenceKey hT (by decide) ?_))
 try extract_lets
 refine ad (dH (name:=Str.ofString "__setitem__") hT BA.slot_set
  (dQ BA.slot_set hT (BA.clean_set _) BA.entry_set (BA.args_set _ _ _) ?_))
 show wpC _ _ (Bytes.subscript? (.ref sl) >>= λr=>_) _ _ s
 refine ad ?_
 try extract_lets
 unfold Bytes.subscript?
 refine ad (.of (wpAny_specialOf hTs slice_no_index ?_))
 try extract_lets
 refine ae ?_
 try extract_lets
 refine ad (.of (wpAny_typeOf hTs ?_))
 try extract_lets
 show wpC _ _ (Bytes.sliceParts (.ref sl) >>= λr=>_) _ _ s
 refine ad (.of (fD hs hl hu ?_))
 try extract_lets
 dsimp -zeta only
 refine bv (by exact Bool.false_ne_true) ?_
 try extract_lets
 refine ad (.of (wpAny_isInstance (T:="bytes") rfl j8 ?_))
 try extract_lets
 refine j4 (by rfl) ?_
 try extract_lets
 refine ad (aP (a:=false) ?_ ?_)
 . have e:isInstance (.bytes d td) (.type "complex")=isSubtype (.type "bytes") (.type "complex"):=rfl
   dsimp +zetaDelta only
   rw [KBy.special_eq dR,KBy.special_eq j7,KBy.special_eq hG,e,fF]
   rfl
 refine ad (aP (rfl:asStr? (.bytes d td)=pure none) ?_)
 try extract_lets
 refine bv (by exact Bool.false_ne_true) ?_
 try extract_lets
 refine ad (.of (wpAny_rule ?_))
 try extract_lets
 refine ad (tN hg (by lia) λh' tk keep hc=>?_)
 try extract_lets
 have hs':h'.IsSliceOf sl l u .none:=let⟨o,e,r⟩:=hs; ⟨o,keep _ _ e,r⟩
 have h':h'.get? a=some (baO b):=keep _ _ h
 refine .of ?_
 try extract_lets
 refine wpAny_bind (wpAny_holding (fD hs' hl hu ?_))
 try extract_lets
 refine wpAny_bind (bE hc (wpAny_bind (bE h' ?_)))
 try extract_lets
 have go:∀ s:Shared,wpAny (model prog w) A.in1 (sliceIndices (rawPart lo) (rawPart hi) .none b.toArray.size) (λr s'=>r=(x,y,1)/\s'=s) (λ_1 _2=>False) s:=λs =>
  wpAny_of_eq (sliceIndices_raw lo hi none b.toArray.size (λe=>nomatch e)) ⟨by rw [List.size_toArray]; exact hb,rfl⟩
 refine wpAny_bind (wpAny_mono (go _) (λr s' hr=>?_) λ_1 _2 e=>e.elim)
 try extract_lets
 refine x02 hr λe172_0 e172_1=>?_
 try extract_lets
 clear hr
 subst e172_0
 subst e172_1
 dsimp -zeta only
 refine bm_if_true (by decide) ?_
 try extract_lets
 refine wpAny_bind (wpAny_rule ?_)
 try extract_lets
 have mx:max x y=y:=by lia
 rw [mx]
 have sz:(((d.toList.toArray.size:Nat):Int) != y-x)=false:=by simp [hd]
 refine bm_if_false sz ?_
 try extract_lets
 have val:(b.toArray.extract 0 x.toNat++d.toList.toArray++b.toArray.extract (max x y).toNat b.toArray.size)=(b.take x.toNat++d.toList++b.drop y.toNat).toArray:=by
  rw [mx]
  simp
  exact List.take_of_length_le (by simp)
 refine wpAny_bind (cH h' ?_ (wpAny_pure ⟨_,rfl,?_⟩))
 . rw [val]; simp; omega
 . refine ae ?_
   try extract_lets
   refine q _ _ (λc o hne e=>?_) ?_
   . exact((Heap.SameBut.update ..).2 c hne).trans (keep _ _ e)
   . rw [Heap.get?_update_self _ h' rfl]
     exact congrArg (λz=>some (⟨.type "bytearray",none,.bytearray z 0,#[]⟩:Obj)) val
end
end
section
open PySem PySem.W PyProof.Rows PySem.Calls
open PySem.Builtin PySem.Builtin._codecs
open Sem (wp)
theorem hK(f:Nat->List UInt8):∀ (l:List Nat) (acc:Array UInt8),l.foldl (λacc y=>acc++(f y).toArray) acc=acc++(l.flatMap f).toArray
 | [],acc=>by simp
 | a::r,acc=>by rw [List.foldl_cons,hK f r]; simp
section
variable {prog:Program}{w:World}{M:Model}{A:Around}{E:Value->Shared->Prop}{s:Shared}
theorem rE{id:String}{x:Str}{self:Value}{e:Option Str}{Q:Array UInt8->Shared->Prop}(hx:∀ c∈x.cps.toList,Str.isSurrogate c=false)(hz:(x.cps.toList.flatMap Str.utf8Of).length<=16777216)
 (q:Q (x.cps.toList.flatMap Str.utf8Of).toArray s):wpAny M A (encodeNarrow id utf8Codec e self x) Q E s:=by
 unfold encodeNarrow
 extract_lets
 have hnone:∀ a:Array Nat,(∀ c∈a.toList,Str.isSurrogate c=false)->a.findIdx? utf8Codec.bad=none:=by
  intro a ha
  rw [Array.findIdx?_eq_none_iff]
  intro c hc
  exact ha c (by simpa using hc)
 refine wpAny_bind (wEq (Std.Legacy.Range.forIn_eq_forIn_range' ..) (wpAny_mono (wpAny_forIn_list (E:=E) _ (λrest st s'=>s'=s/\((st=(0,#[],{})/\rest.length=x.cps.size)\/(st.1=x.cps.size/\st.2.1=(x.cps.toList.flatMap Str.utf8Of).toArray))) (λst s'=>s'=s/\st.2.1=(x.cps.toList.flatMap Str.utf8Of).toArray) ?_ ?_ _ _ ⟨rfl,.inl ⟨rfl,?_⟩⟩) ?_ λ_1 _2 z=>z))
 . rintro k rest st s' ⟨rfl,h⟩
   extract_lets
   rcases h with ⟨rfl,hr⟩ | ⟨h1,h2⟩
   . have hpos:0 < x.cps.size:=by rw [<- hr]; simp
     refine jc (by show ¬ (#[]:Array UInt8).size > sizeLine; simp) ?_
     have h0:x.cps[0]?=some x.cps[0]:=Array.getElem?_eq_getElem hpos
     refine wEq (congrArg (λo=>encodeNarrow.match_10 _ o _ _) h0) ?_
     have hb:utf8Codec.bad x.cps[0]=false:=hx _ (by simp)
     have he:x.cps.extract 0=x.cps:=by simp
     refine wIfp (by rw [hb]; rfl) ?_
     refine wpAny_pure ⟨rfl,.inr ⟨?_,?_⟩⟩
     . show 0+((x.cps.extract 0).findIdx? utf8Codec.bad).getD (x.cps.extract 0).size=_
       rw [he,hnone x.cps hx]
       simp
     show Array.foldl (λacc y=>acc++(Str.utf8Of y).toArray) #[] ((x.cps.extract 0).extract 0 (((x.cps.extract 0).findIdx? utf8Codec.bad).getD (x.cps.extract 0).size))=_
     rw [he,hnone x.cps hx,Option.getD_none,he,<- Array.foldl_toList,hK]
     simp
   . refine jc (by show ¬ st.2.1.size > sizeLine; rw [h2,sizeLine_eq]; simp; simpa using hz) ?_
     have:x.cps[st.1]?=none:=by rw [h1]; simp
     refine wEq (congrArg (λo=>encodeNarrow.match_10 _ o _ _) this) ?_
     exact wpAny_pure ⟨rfl,h2⟩
 . rintro st s' ⟨rfl,h⟩
   rcases h with ⟨rfl,hr⟩ | ⟨h1,h2⟩
   . refine⟨rfl,?_⟩
     have:x.cps.toList=[]:=by
      have:x.cps.size=0:=by rw [<- hr]; rfl
      simpa using this
     rw [this]; rfl
   . exact⟨rfl,h2⟩
 . simp [Std.Legacy.Range.size,Str.length]
 . rintro st s' ⟨rfl,h⟩
   refine wpAny_pure ?_
   rw [h]; exact q
theorem rF{x:PySem.Str}{t u:Tok}{Q:Value->Shared->Prop}(hx:∀ c∈x.cps.toList,Str.isSurrogate c=false)(hz:(x.cps.toList.flatMap Str.utf8Of).length<=16777216)
 (q:Q (.bytes (x.cps.toList.flatMap Str.utf8Of).toArray s.toks) { s with toks:=s.toks+1 }):wpAny (model prog w) A (call (.builtin "str.encode") [.str x t,.str (Str.ofString "utf-8") u]) Q E s:=by
 refine wpAny_call_entry PySem.F.slot_str_encode rfl PySem.F.entry_str_encode ?_ (PySem.F.args_str_encode_2 _ _)
 unfold Builtin.«str.encode»
 refine wpAny_bind (wpAny_of_eq (a:=(.str x t,x,[.str (Str.ofString "utf-8") u])) rfl ?_)
 refine wpAny_bind (wpAny_of_eq (a:=[some (.str (Str.ofString "utf-8") u),none]) (by kernel_rfl) ?_)
 dsimp only
 refine wpAny_bind (wpAny_of_eq (a:=some (Str.ofString "utf-8")) (by kernel_rfl) ?_)
 refine wpAny_bind (wpAny_of_eq (a:=none) rfl ?_)
 rw [Option.getD_some,encodeRoad_utf8]
 refine wpAny_bind (wpAny_bind (rE hx hz ?_))
 exact wpAny_mkBytes (wpAny_pure ⟨_,rfl,q⟩) (by rw [sizeLine_eq]; simpa using hz)
namespace UP
theorem kind:builtinKind "_struct.unpack"=none:=by decide +kernel
theorem plain:plainId "_struct.unpack"=true:=by decide +kernel
theorem entry:entryFor table "_struct.unpack"=some Builtin.«_struct.unpack»:=entryFor_of_tree (by kernel_rfl)
theorem args(a b:Value):argsOk "_struct.unpack" ⟨[a,b],[]⟩:=by unfold argsOk; kernel_rfl
open PySem.Builtin.Struct in
noncomputable def fmt:Format:={ bigEndian:=true,native:=false,codes:=[⟨'B',1,0,1⟩,⟨'B',1,1,1⟩,⟨'B',1,2,1⟩,⟨'B',1,3,1⟩],size:=4,items:=4 }
theorem parse4:PySem.Builtin.Struct.parse #[62,66,66,66,66]=pure fmt:=by kernel_rfl
end UP
open PySem.Builtin.Struct in
theorem four{d:Array UInt8}{Q:Value->Shared->Prop}{F:PySem.Builtin.Struct.Code->Array Value->Sem (ForInStep (Array Value))}{G:Array Value->Sem Value}(hd:d.size=4)
 (step:∀ (k:Nat) (out:Array Value) (R:ForInStep (Array Value)->Shared->Prop) (s:Shared),k < d.size->R (.yield (out.push (.int (d.getD k 0).toNat s.toks))) { s with toks:=s.toks+1 }->wpAny M A (F ⟨'B',1,k,1⟩ out) R E s)
 (q:∀ t1 t2 t3 t4 tk,wpAny M A (G #[.int (d.getD 0 0).toNat t1,.int (d.getD 1 0).toNat t2,.int (d.getD 2 0).toNat t3,.int (d.getD 3 0).toNat t4]) Q E { s with toks:=tk }):wpAny M A (forIn UP.fmt.codes #[] F >>= G) Q E s:=by
 show wpAny M A (forIn (⟨'B',1,0,1⟩::⟨'B',1,1,1⟩::⟨'B',1,2,1⟩::⟨'B',1,3,1⟩::[]) #[] F >>= G) Q E s
 rw [List.forIn_cons]
 refine wpAny_bind (wpAny_bind (step 0 _ _ _ (by lia) ?_))
 dsimp only
 rw [List.forIn_cons]
 refine wpAny_bind (step 1 _ _ _ (by lia) ?_)
 dsimp only
 rw [List.forIn_cons]
 refine wpAny_bind (step 2 _ _ _ (by lia) ?_)
 dsimp only
 rw [List.forIn_cons]
 refine wpAny_bind (step 3 _ _ _ (by lia) ?_)
 dsimp only
 rw [List.forIn_nil]
 exact wpAny_pure (q _ _ _ _ _)
theorem rG{d:Array UInt8}{t u:Tok}{Q:Value->Shared->Prop}(hd:d.size=4)
 (q:∀ t1 t2 t3 t4 tk,Q (.ref s.heap.objs.size) { s with heap:=s.heap.push (lC [.int (d.getD 0 0).toNat t1,.int (d.getD 1 0).toNat t2,.int (d.getD 2 0).toNat t3,.int (d.getD 3 0).toNat t4]),toks:=tk }) :
 wpAny (model prog w) A (call (.builtin "_struct.unpack") [.str (Str.ofString ">BBBB") t,.bytes d u]) Q E s:=by
 refine Calls.call_function_entry UP.kind UP.plain UP.entry (UP.args _ _) ?_
 unfold Builtin.«_struct.unpack»
 refine wpAny_bind (wpAny_of_eq (a:=()) rfl ?_)
 refine wpAny_bind (wpAny_of_eq (a:=()) rfl ?_)
 refine wpAny_bind (wpAny_of_eq (a:=UP.fmt) (by kernel_rfl) ?_)
 unfold PySem.Builtin.Struct.unpackExact
 have hb:PySem.Builtin.Bytes.bytesLike "_struct.unpack" (.bytes d u)=pure d:=by
  unfold PySem.Builtin.Bytes.bytesLike
  rw [KBy.buffer_eq]
  rfl
 refine wpAny_bind (wpAny_of_eq hb ?_)
 refine wpAny_bind (wpAny_pure ?_)
 dsimp only
 refine bm_if_false (by rw [hd]; rfl) ?_
 unfold PySem.Builtin.Struct.unpacked
 refine wpAny_bind (four hd (λk out R s hk hR=>?_) λt1 t2 t3 t4 tk=>?_)
 . refine wpAny_bind (nR ?_)
   have e:PySem.Builtin.Struct.natOf true (d.extract (0+k+0*1) (0+k+(0+1)*1))=(d.getD k 0).toNat:=by
    have e1:d.extract (0+k+0*1) (0+k+(0+1)*1)=#[d[k]]:=by
     apply Array.ext
     . simp; lia
     . intro i h1 h2; simp at h2; subst h2; simp
    rw [e1]
    simp [PySem.Builtin.Struct.natOf,PySem.Builtin.Memoryview.littleEndian,hk]
   have hl:Char.isLower 'B'=false:=rfl
   wp_walk
   simp only [UP.fmt,e,hl,Bool.false_and,Bool.false_eq_true,if_false]
   exact hR
 . wp_walk
   exact⟨_,rfl,q t1 t2 t3 t4 _⟩
end
end
section
open PySem PySem.W PyProof.Rows PySem.Calls
open PySem.Builtin PySem.Builtin.Bytes
open Sem (wp)
section
variable {prog:Program}{w:World}{M:Model}{A:Around}{E:Value->Shared->Prop}{s:Shared}{a:Addr}{b:List UInt8}
theorem xg{l:Value}{x:Int}{sl:Addr}{Q:Value->Shared->Prop}(h:s.heap.get? a=some (baO b))(hs:s.heap.IsSliceOf sl l .none .none)(hl:IsPart l (some x))(h0:0<=x)(h1:x<=b.length)(hz:b.length<=16777216)
 (q:Q (.ref s.heap.objs.size) { s with heap:=s.heap.push (baO (b.drop x.toNat)) }):wpAny (model prog w) A (getItem (.ref a) (.ref sl)) Q E s:=by
 have hT:s.TypeIs (.ref a) "bytearray":=⟨_,h,rfl⟩
 have hTs:s.TypeIs (.ref sl) "slice":=let⟨o,e,c,_⟩:=hs; ⟨o,e,c⟩
 unfold getItem
 try with_reducible refine wpAny_holding ?_
 refine wpAny_bind (wpAny_sequenceKey hT (by decide) ?_)
 refine wpAny_bind (wpAny_callSpecial?_slot (name:=Str.ofString "__getitem__") hT BA.slot_get
  (wpAny_call_entry BA.slot_get hT BA.entry_get ?_ (BA.args_get _ _)))
 unfold Builtin.«bytearray.__getitem__»
 refine wpAny_bind (wpAny_of_eq (a:=(.ref a,[.ref sl])) rfl ?_)
 dsimp only
 refine wpAny_bind ?_
 unfold Bytes.subscript?
 refine wpAny_bind (wpAny_specialOf hTs slice_no_index (wpAny_pure ?_))
 refine wpAny_bind (wpAny_typeOf hTs ?_)
 refine bm_if_false (by decide) ?_
 refine wpAny_bind (fD hs hl .none ?_)
 dsimp only
 refine wpAny_bind (bE h ?_)
 have go:∀ s:Shared,wpAny (model prog w) A.in1 (sliceIndices (rawPart (some x)) (rawPart none) .none b.toArray.size) (λr s'=>r=(x,(b.length:Int),1)/\s'=s) (λ_1 _2=>False) s:=λs =>
  wpAny_of_eq (sliceIndices_raw (some x) none none b.toArray.size (λe=>nomatch e)) ⟨by rw [List.size_toArray]; exact gh h0 h1,rfl⟩
 refine wpAny_bind (wpAny_mono (go _) (λr s' hr=>?_) λ_1 _2 e=>e.elim)
 refine x02 hr λe34_0 e34_1=>?_
 clear hr
 subst e34_0
 subst e34_1
 dsimp only
 have es:sliced b.toArray x (b.length:Int) 1=(b.drop x.toNat).toArray:=by
  unfold sliced
  refine(Int.eq_ofNat_of_zero_le h0).elim λj e38_1=>?_
  subst e38_1
  rw [sliceRange_one,pick_run,List.take_of_length_le (by simp)]
  rfl
 rw [es]
 unfold newBytearray
 refine wpAny_bind (wpAny_newObj_type ?_ (by show(b.drop x.toNat).toArray.size<=sizeLine; rw [sizeLine_eq]; simp; lia))
 exact wpAny_pure ⟨_,rfl,wpAny_pure q⟩
end
end
section
open PySem PySem.W PyProof.Rows PySem.Calls
open PySem.Builtin PySem.Builtin.Bytes
open Sem (wp)
namespace BAI
theorem js:Slot "bytearray" "__iter__" "bytearray.__iter__" :=
 .of (owner:="bytearray") (n:="__iter__") (by rw [typeLookup_type,builtinLookup_eq_fast]; kernel_rfl) (by decide +kernel) (by decide +kernel) (by decide +kernel)
  (by first | exact .inl (by decide +kernel) | exact .inr (by decide +kernel)) (by rw [isSubtype_type]; kernel_rfl)
theorem nX:entryFor table "bytearray.__iter__"=some Builtin.«bytearray.__iter__»:=entryFor_of_tree (by kernel_rfl)
theorem rH(a:Value):argsOk "bytearray.__iter__" ⟨[a],[]⟩:=by unfold argsOk; kernel_rfl
theorem cF:Slot "bytearray_iterator" "__next__" "bytearray_iterator.__next__" :=
 .of (owner:="bytearray_iterator") (n:="__next__") (by rw [typeLookup_type,builtinLookup_eq_fast]; kernel_rfl) (by decide +kernel) (by decide +kernel) (by decide +kernel)
  (by first | exact .inl (by decide +kernel) | exact .inr (by decide +kernel)) (by rw [isSubtype_type]; kernel_rfl)
theorem jt:Slot "bytearray_iterator" "__iter__" "bytearray_iterator.__iter__" :=
 .of (owner:="bytearray_iterator") (n:="__iter__") (by rw [typeLookup_type,builtinLookup_eq_fast]; kernel_rfl) (by decide +kernel) (by decide +kernel) (by decide +kernel)
  (by first | exact .inl (by decide +kernel) | exact .inr (by decide +kernel)) (by rw [isSubtype_type]; kernel_rfl)
theorem hU:entryFor table "bytearray_iterator.__next__"=some Builtin.«bytearray_iterator.__next__»:=entryFor_of_tree (by kernel_rfl)
theorem nY:entryFor table "bytearray_iterator.__iter__"=some Builtin.«dict_keyiterator.__iter__»:=entryFor_alias (id':="dict_keyiterator.__iter__") (by rw [fastTable_eq_tree]; kernel_rfl) (by decide +kernel) (by decide +kernel) (by rw [fastTable_eq_tree]; kernel_rfl)
theorem ju(a:Value):argsOk "bytearray_iterator.__next__" ⟨[a],[]⟩:=by unfold argsOk; kernel_rfl
theorem rJ(a:Value):argsOk "bytearray_iterator.__iter__" ⟨[a],[]⟩:=by unfold argsOk; kernel_rfl
noncomputable def IsIt(h:Heap)(it a:Addr)(i:Nat):Prop:=∃ o,h.get? it=some o/\o.cls=.type "bytearray_iterator"/\o.data=.fields #[.ref a,.int i 0]
theorem IsIt.typeIs{s:Shared}{it a:Addr}{i:Nat}(y:IsIt s.heap it a i):s.TypeIs (.ref it) "bytearray_iterator":=let⟨o,ho,hc,_⟩:=y; ⟨o,ho,hc⟩
section
variable {prog:Program}{w:World}{A:Around}{E:Value->Shared->Prop}{s:Shared}{b:List UInt8}{a it:Addr}
theorem pyIter_ba{Q:Value->Shared->Prop}(h:s.heap.get? a=some (baO b))(hQ:Q (.ref s.heap.objs.size) { s with heap:=s.heap.push { cls:=.type "bytearray_iterator",data:=.fields #[.ref a,.int 0 0] } }):wpAny (model prog w) A (pyIter (.ref a)) Q E s:=by
 have hT:s.TypeIs (.ref a) "bytearray":=⟨_,h,rfl⟩
 refine wpAny_pyIter_slot hT js (wpAny_call_entry js hT nX ?_ (rH _))
 show wpAny _ _ (do ret (<- newFields "bytearray_iterator" [.ref a,rawInt 0])) _ _ s
 exact wpAny_bind (wpAny_newObj_type (wpAny_pure ⟨_,rfl,"bytearray_iterator",_,⟨_,Heap.get?_push_size _ rfl,rfl⟩,cF.lookup,hQ⟩))
theorem lO{i:Nat}{Q:Value->Shared->Prop}(hit:IsIt s.heap it a i)(h:Q (.ref it) s):wpAny (model prog w) A (pyIter (.ref it)) Q E s:=by
 refine wpAny_pyIter_slot hit.typeIs jt (wpAny_call_entry jt hit.typeIs nY ?_ (rJ _))
 show wpAny _ _ (ret (.ref it)) _ _ s
 exact wpAny_pure ⟨_,rfl,"bytearray_iterator",_,hit.typeIs,cF.lookup,h⟩
theorem rK{i:Nat}{c:UInt8}{Q:Option Value->Shared->Prop}(h:s.heap.get? a=some (baO b))(hit:IsIt s.heap it a i)(hx:b[i]?=some c)
 (hQ:∀ h',IsIt h' it a (i+1)->Heap.SameBut it s.heap h'->Q (some (.int (c.toNat:Int) s.toks)) { s with heap:=h',toks:=s.toks+1 }):wpAny (model prog w) A (pyNext (.ref it)) Q E s:=by
 refine x13 (id hit) λo ho hc hd=>?_
 unfold pyNext
 refine wpAny_bind (wpAny_attempt (wpAny_callSpecial?_slot (name:=PySem.Str.ofString "__next__") hit.typeIs cF
  (wpAny_call_entry cF hit.typeIs hU ?_ (ju _))))
 show wpAny _ _ (field (.ref it) 0 >>= _) _ _ s
 refine wpAny_bind (wpAny_field ho hd (x:=.ref a) rfl ?_)
 refine wpAny_bind (wpAny_load h ?_)
 refine wpAny_bind (wpAny_field ho hd (x:=.int i 0) rfl ?_)
 have hx':b.toArray[((i:Nat):Int).toNat]?=some c:=by simpa using hx
 dsimp only
 rw [hx']
 refine wpAny_bind (wpAny_setField ho hd (by simp) (wpAny_bind (wpAny_mkInt (wpAny_pure ⟨_,rfl,wpAny_pure (hQ _ ?_ (Heap.SameBut.update ..))⟩))))
 exact⟨_,Heap.get?_update_self _ ho (Obj.isFreed_of_fields (Obj.data_mapFields hd _)),(Obj.cls_mapFields ..).trans hc,by
  rw [Obj.data_mapFields hd]; simp [rawInt]⟩
theorem tO{i:Nat}{Q:Option Value->Shared->Prop}(hh:A.handled=none)(h:s.heap.get? a=some (baO b))(hit:IsIt s.heap it a i)(hx:b[i]?=none)
 (hQ:∀ h',Heap.ExtBut it s.heap h'->Q none { s with heap:=h' }):wpAny (model prog w) A (pyNext (.ref it)) Q E s:=by
 refine x13 (id hit) λo ho hc hd=>?_
 unfold pyNext
 refine wpAny_bind (wpAny_attempt (wpAny_callSpecial?_slot (name:=PySem.Str.ofString "__next__") hit.typeIs cF
  (wpAny_call_entry cF hit.typeIs hU ?_ (ju _))))
 show wpAny _ _ (field (.ref it) 0 >>= _) _ _ s
 refine wpAny_bind (wpAny_field ho hd (x:=.ref a) rfl ?_)
 refine wpAny_bind (wpAny_load h ?_)
 refine wpAny_bind (wpAny_field ho hd (x:=.int i 0) rfl ?_)
 have hx':b.toArray[((i:Nat):Int).toNat]?=none:=by simpa using hx
 dsimp only
 rw [hx']
 refine wpAny_bind (wpAny_rule (wpAny_bind (wpAny_setField ho hd (by simp) ?_)))
 refine wpAny_bind (wpAny_letGo ?_)
 show wpAny _ _ (newExc (.type "StopIteration") [] >>= _) _ _ _
 refine wpAny_bind ?_
 simp only [newExc,newTuple]
 refine wpAny_bind (wpAny_newObj_type ?_ (by size_fits))
 refine wpAny_bind (m:=firstArgMember _ _) (wpAny_of_eq (a:=Value.none) (by first | rfl | (simp only [firstArgMember]; rfl)) ?_)
 refine wpAny_newObj_type ?_ (by size_fits)
 refine wpAny_raiseNew_none (A:=A.in1) hh ?_
 refine wpAny_bind (wpAny_isInstance (T:="StopIteration") (b:=true) ⟨_,Heap.get?_push_size _ rfl,rfl⟩ isSubtype_stop ?_)
 exact wpAny_pure (hQ _ (((Heap.SameBut.update ..).extBut.push _).push _))
end
theorem walks{prog:Program}{w:World}{A:Around}(hh:A.handled=none)(I a:Addr)(b:List UInt8)(hne:a≠I) :
 Walks prog w A I [I,a] [I] b.length (λi v=>∃ c u,b[i]?=some c/\v=.int (c.toNat:Int) u) (λi h=>IsIt h I a i/\h.get? a=some (baO b)) where
 sub:=λ_1 hb=>by simp at hb; simp [hb]
 frame:=λ_1 _2 _3 ⟨st,h⟩ hk=>⟨let⟨o,ho,r⟩:=st; ⟨o,hk I (by simp) o ho,r⟩,hk a (by simp) _ h⟩
 item:=λi s Q E hi ⟨st,h⟩ hQ=>by
  refine rK h st (c:=b[i]) (by simp [hi]) λh' hit' hs'=>?_
  exact hQ _ h' (s.toks+1) ⟨_,_,by simp [hi],rfl⟩ ⟨hit',(hs'.2 a hne).trans h⟩ λb o hb e=>hs'.extBut b o (λh=>hb (by simp [h])) e
 done:=λs Q E ⟨st,h⟩ hQ=>tO hh h st (by simp) λh' he'=>hQ h' s.toks λb o hb e=>he' b o (λh=>hb (by simp [h])) e
 self:=λ_1 _2 _3 _4 ⟨st,_5⟩ hQ=>lO st hQ
end BAI
end
section
open PySem PySem.W PyProof.Rows PySem.Calls
open PySem.Builtin PySem.Builtin.Bytes
open Sem (wp)
noncomputable def octI(b:List UInt8):List Int:=b.map λc=>(c.toNat:Int)
theorem hW{b:List UInt8}{acc:Array Value}(h:ItemsOf (λi v=>∃ (c:UInt8) (u:Tok),b[i]?=some c/\v=Value.int (c.toNat:Int) u) acc b.length):IntsAre acc.toList (octI b):=by
 refine x02 h λhz hi=>?_
 obtain⟨l⟩:=acc
 simp only [List.size_toArray] at hz
 have:∀ (b:List UInt8) (l:List Value),l.length=b.length->(∀ (j:Nat) (v:Value),l[j]?=some v->∃ (c:UInt8) (u:Tok),b[j]?=some c/\v=Value.int (c.toNat:Int) u)->IntsAre l (octI b):=by
  intro b
  induction b with
  | nil=>intro l hl _; cases l with
   | nil=>exact .nil
   | cons a r=>simp at hl
  | cons c r ih =>
   intro l hl hj
   cases l with
   | nil=>simp at hl
   | cons v q =>
    refine x22 (hj 0 v rfl) λc' u e e26_3=>?_
    subst e26_3
    simp at e; subst e
    exact .cons _ u (ih q (by simpa using hl) λj v e=>hj (j+1) v (by simpa using e))
 exact this b l hz λj v e=>hi j v (by simpa using e)
section
variable {prog:Program}{w:World}{A:Around}{E:Value->Shared->Prop}{s:Shared}{b:List UInt8}{a it:Addr}
theorem nZ{d:Array UInt8}{t:Tok}{Q:Value->Shared->Prop}(hh:A.handled=none)(hz:d.size<=16777216)
 (q:∀ h' tk vs,(∀ b o,s.heap.get? b=some o->h'.get? b=some o)->h'.IsList s.heap.objs.size vs.toArray->IntsAre vs (octI d.toList)->Q (.ref s.heap.objs.size) { s with heap:=h',toks:=tk }) :
 wpAny (model prog w) A (call (.type "list") [.bytes d t]) Q E s:=by
 refine callType_codes (Q₁:=λobj s₁=>obj=.ref s.heap.objs.size/\s₁={ s with heap:=s.heap.push { cls:=.type "list",data:=.seq #[] } }) F.called_list (F.typeCall_list_1 _) F.entry_list_init
  (code_list_new _ ⟨rfl,rfl⟩) λobj s₁ h₁=>?_
 refine x02 h₁ λe37_0 e37_1=>?_
 clear h₁
 subst e37_0
 subst e37_1
 have hS:(s.heap.push { cls:=.type "list",data:=.seq #[] }).get? s.heap.objs.size=some { cls:=.type "list",data:=.seq #[] }:=Heap.get?_push_size _ rfl
 refine⟨⟨_,hS,rfl⟩,F.args_list_init_2 _ _,?_⟩
 show wpAny _ _ (do let old <- Builtin.List.listItems (.ref s.heap.objs.size); Builtin.List.listUpdate (.ref s.heap.objs.size) (λ_1=>#[]); letGo old.toList.reverse; Builtin.List.listExtendWith (.ref s.heap.objs.size) (.bytes d t) .none) _ _ _
 refine wpAny_bind ?_
 unfold Builtin.List.listItems
 refine wpAny_bind (wpAny_seqItems hS rfl (wpAny_pure ?_))
 refine wpAny_bind (m:=Builtin.List.listUpdate _ _) (wpAny_updateSeq hS rfl (hz:=by simp) (_hz':=by simp) ?_)
 have hS₂:=Heap.get?_update_self (Obj.mapSeq (λ_1=>(#[]:Array Value))) hS rfl
 refine wpAny_bind (wpAny_letGo ?_)
 unfold Builtin.List.listExtendWith
 refine wpAny_bind (wpAny_typeOf (T:="bytes") (v:=.bytes d t) rfl ?_)
 refine bm_if_false rfl ?_
 refine wpAny_bind (KBw.pyIter_bytes ?_)
 refine wpAny_bind (wpAny_holding ?_)
 unfold Builtin.List.listLengthHint
 refine wpAny_bind (wpAny_specialOf (T:="bytes") (v:=.bytes d t) rfl FB.slot_bytes_len.lookup ?_)
 wp_delta
 refine wpAny_bind (wpAny_isInstance (T:="bytes") (v:=.bytes d t) (b:=true) rfl (by rw [isSubtype_type]; kernel_rfl) ?_)
 show wpAny _ _ (typeOf (Value.bytes d t) >>= _) _ _ _
 refine wpAny_bind (wpAny_typeOf (T:="bytes") (v:=.bytes d t) rfl ?_)
 refine wpAny_pure ?_
 refine bm_if_false rfl ?_
 have oth:∀ b o,b≠s.heap.objs.size->(s.heap.push { cls:=.type "list",data:=.seq #[] }).get? b=some o->((s.heap.push { cls:=.type "list",data:=.seq #[] }).update s.heap.objs.size (Obj.mapSeq (λ_1=>(#[]:Array Value)))).get? b=some o :=
  λb o hb e=>(Heap.get?_update_other _ _ (Ne.symm hb)).trans e
 generalize hH:(s.heap.push { cls:=.type "list",data:=.seq #[] }).update s.heap.objs.size (Obj.mapSeq (λ_1=>(#[]:Array Value)))=H at hS₂ oth ⊢
 have hSI:s.heap.objs.size≠H.objs.size:=Nat.ne_of_lt (Heap.lt_size hS₂)
 have hSf:s.heap.objs.size ∉ [H.objs.size]:=λhm=>hSI (List.mem_singleton.mp hm)
 have st0:KBw.IsBytesIter (H.push { cls:=.type "bytes_iterator",data:=.fields #[.bytes d t,.int 0 0] }) H.objs.size d t 0:=⟨_,Heap.get?_push_size _ rfl,rfl,rfl⟩
 have hd:d.size=d.toList.length:=by simp
 refine wpAny_pure ⟨plainId_quiet F.plain_extend_loop _,codeAny_extend_loopS (KBw.walks (A:=A.in1.in1) hh H.objs.size d t).toS (by rw [sizeLine_eq]; exact hz) _ hSf _ d.size 0 _ _ _ rfl (Nat.zero_le _) st0 (Heap.get?_push_of_some _ hS₂) (ItemsOf.nil _) λs' acc' c' hm hS' hacc=>?_⟩
 rw [Moved.eq_with hm]
 refine⟨rfl,q s'.heap s'.toks acc'.toList (λb ob e=>?_) ⟨_,hS',rfl,_,rfl⟩ (hW ?_)⟩
 . refine hm.heap b ob (λhmem=>?_) ?_
   . rcases List.mem_cons.mp hmem with e' | hmem
     . rw [e'] at e; exact absurd (Heap.lt_size e) (Nat.lt_irrefl _)
     . rw [List.mem_singleton.mp hmem] at e
       have h1:=Heap.lt_size e
       have h2:=Heap.lt_size hS₂
       exact absurd (Nat.lt_trans h1 h2) (Nat.lt_irrefl _)
   . exact Heap.get?_push_of_some _ (oth b ob (Nat.ne_of_lt (Heap.lt_size e)) (Heap.get?_push_of_some _ e))
 . rw [<- hd]
   refine⟨hacc.1,λj v e=>?_⟩
   refine x22 (hacc.2 j v e) λc u e1 e2=>?_
   exact⟨c,u,by simpa using e1,e2⟩
theorem xh{Q:Value->Shared->Prop}(hh:A.handled=none)(h:s.heap.get? a=some (baO b))(hz:b.length<=16777216)
 (q:∀ h' tk vs,(∀ b o,s.heap.get? b=some o->h'.get? b=some o)->h'.IsList s.heap.objs.size vs.toArray->IntsAre vs (octI b)->Q (.ref s.heap.objs.size) { s with heap:=h',toks:=tk }) :
 wpAny (model prog w) A (call (.type "list") [.ref a]) Q E s:=by
 refine callType_codes (Q₁:=λobj s₁=>obj=.ref s.heap.objs.size/\s₁={ s with heap:=s.heap.push { cls:=.type "list",data:=.seq #[] } }) F.called_list (F.typeCall_list_1 _) F.entry_list_init
  (code_list_new _ ⟨rfl,rfl⟩) λobj s₁ h₁=>?_
 refine x02 h₁ λe87_0 e87_1=>?_
 clear h₁
 subst e87_0
 subst e87_1
 have hS:(s.heap.push { cls:=.type "list",data:=.seq #[] }).get? s.heap.objs.size=some { cls:=.type "list",data:=.seq #[] }:=Heap.get?_push_size _ rfl
 refine⟨⟨_,hS,rfl⟩,F.args_list_init_2 _ _,?_⟩
 show wpAny _ _ (do let old <- Builtin.List.listItems (.ref s.heap.objs.size); Builtin.List.listUpdate (.ref s.heap.objs.size) (λ_1=>#[]); letGo old.toList.reverse; Builtin.List.listExtendWith (.ref s.heap.objs.size) (.ref a) .none) _ _ _
 refine wpAny_bind ?_
 unfold Builtin.List.listItems
 refine wpAny_bind (wpAny_seqItems hS rfl (wpAny_pure ?_))
 refine wpAny_bind (m:=Builtin.List.listUpdate _ _) (wpAny_updateSeq hS rfl (hz:=by simp) (_hz':=by simp) ?_)
 have hS₂:=Heap.get?_update_self (Obj.mapSeq (λ_1=>(#[]:Array Value))) hS rfl
 refine wpAny_bind (wpAny_letGo ?_)
 have oth:∀ b o,b≠s.heap.objs.size->(s.heap.push { cls:=.type "list",data:=.seq #[] }).get? b=some o->((s.heap.push { cls:=.type "list",data:=.seq #[] }).update s.heap.objs.size (Obj.mapSeq (λ_1=>(#[]:Array Value)))).get? b=some o :=
  λb o hb e=>(Heap.get?_update_other _ _ (Ne.symm hb)).trans e
 generalize hH:(s.heap.push { cls:=.type "list",data:=.seq #[] }).update s.heap.objs.size (Obj.mapSeq (λ_1=>(#[]:Array Value)))=H at hS₂ oth ⊢
 have keep:∀ b o,s.heap.get? b=some o->H.get? b=some o:=λb o e=>oth b o (Nat.ne_of_lt (Heap.lt_size e)) (Heap.get?_push_of_some _ e)
 have ha:H.get? a=some (baO b):=keep _ _ h
 have hSI:s.heap.objs.size≠H.objs.size:=Nat.ne_of_lt (Heap.lt_size hS₂)
 have haI:a≠H.objs.size:=Nat.ne_of_lt (Heap.lt_size ha)
 have haS:s.heap.objs.size≠a:=λe=>absurd (Heap.lt_size h) (by rw [e]; exact Nat.lt_irrefl _)
 unfold Builtin.List.listExtendWith
 have hT:∀ {g d tk os},(⟨H,g,d,tk,os⟩:Shared).TypeIs (.ref a) "bytearray":=⟨_,ha,rfl⟩
 have h1:Builtin.List.listSameRef (.ref s.heap.objs.size) (.ref a)=false:=by simp [Builtin.List.listSameRef,haS]
 refine wpAny_bind (wpAny_typeOf hT ?_)
 refine bm_if_false (by rw [h1]; rfl) ?_
 refine wpAny_bind (BAI.pyIter_ba ha ?_)
 have ha2:(H.push { cls:=.type "bytearray_iterator",data:=.fields #[.ref a,.int 0 0] }).get? a=some (baO b):=Heap.get?_push_of_some _ ha
 have hT2:∀ {g d tk os},(⟨H.push { cls:=.type "bytearray_iterator",data:=.fields #[.ref a,.int 0 0] },g,d,tk,os⟩:Shared).TypeIs (.ref a) "bytearray":=⟨_,ha2,rfl⟩
 refine wpAny_bind (wpAny_holding ?_)
 unfold Builtin.List.listLengthHint
 refine wpAny_bind (wpAny_specialOf hT2 BA.slot_len.lookup ?_)
 wp_delta
 refine wpAny_bind (wpAny_isInstance (b:=true) hT2 (by rw [isSubtype_type]; kernel_rfl) ?_)
 show wpAny _ _ (typeOf (Value.ref a) >>= _) _ _ _
 refine wpAny_bind (wpAny_typeOf hT2 ?_)
 refine wpAny_pure ?_
 refine bm_if_false rfl ?_
 have hSf:s.heap.objs.size ∉ [H.objs.size,a]:=λhm=>by
  rcases List.mem_cons.mp hm with e | hm
  . exact hSI e
  . exact haS (List.mem_singleton.mp hm)
 have st0:BAI.IsIt (H.push { cls:=.type "bytearray_iterator",data:=.fields #[.ref a,.int 0 0] }) H.objs.size a 0:=⟨_,Heap.get?_push_size _ rfl,rfl,rfl⟩
 refine wpAny_pure ⟨plainId_quiet F.plain_extend_loop _,codeAny_extend_loopS (BAI.walks (A:=A.in1.in1) hh H.objs.size a b haI).toS (by rw [sizeLine_eq]; exact hz) _ hSf _ b.length 0 _ _ _ rfl (Nat.zero_le _) ⟨st0,ha2⟩ (Heap.get?_push_of_some _ hS₂) (ItemsOf.nil _) λs' acc' c' hm hS' hacc=>?_⟩
 rw [Moved.eq_with hm]
 refine⟨rfl,q s'.heap s'.toks acc'.toList (λb ob e=>?_) ⟨_,hS',rfl,_,rfl⟩ (hW hacc)⟩
 refine hm.heap b ob (λhmem=>?_) ?_
 . rcases List.mem_cons.mp hmem with e' | hmem
   . rw [e'] at e; exact absurd (Heap.lt_size e) (Nat.lt_irrefl _)
   . rw [List.mem_singleton.mp hmem] at e
     have h1:=Heap.lt_size e
     have h2:=Heap.lt_size hS₂
     exact absurd (Nat.lt_trans h1 h2) (Nat.lt_irrefl _)
 . exact Heap.get?_push_of_some _ (keep b ob e)
end
end
section
open PySem PySem.W PyProof.Rows
set_option backward.match.sparseCases false
section
inductive Cp where
 | bytes | cv | vt | ss | rear | rows | stand | shr | made
set_option genInjectivity true in
inductive Key where
 | bld (r:Nat) | comp (r:Nat) (c:Cp) | mine | box (r:Nat)
inductive AV where
 | none | bool (b:Bool) | int (i:Int) | str (s:Str) | bytes (b:List UInt8) | barr (b:List UInt8)
 | ty (n:String) | bi (n:String) | top (a:Nat) | key (k:Key) | lref (x:Str)
 | ints (xs:List Int) | itup (xs:List Int) | list (vs:List AV) | tup (vs:List AV) | rng (a c:Int) (n:Nat)
inductive LV where
 | v (a:AV) | own (xs:List Int) | ownB (b:List UInt8)
structure Loc where
 v:List (Str×LV)
 sc:List (Str×NameKind)
structure BS where
 bytes:List UInt8
 cv:Option (List Int)
 head:Int
 minalign:Int
 objectEnd:Option Int
 vt:List (List Int×Int)
 nested:Bool
 force:Bool
 fin:Bool
 vecN:Option (Option Int)
 ss:Option (List (Str×Int))
structure Bx where
 items:List Int
 pos:Int
structure Mn where
 rear:List Int
 align:Int
 rows:List (List Int)
 stand:List Int
 shr:List (Str×Int)
 made:List Int
 forced:Bool
structure W where
 bs:List BS
 mn:Option Mn
 bx:List Bx
structure G where
 w:W
 wr:Bool
noncomputable abbrev EM(α:Type):=G->(α->G->Prop)->Prop
inductive Fl where
 | nx | ct | bk | rt (v:AV)
section
variable {α β:Type}
noncomputable def ok(a:α):EM α:=λg k=>k a g
noncomputable def bd(m:EM α)(f:α->EM β):EM β:=λg k=>m g λa g'=>f a g' k
noncomputable def no:EM α:=λ_1 _2=>False
noncomputable def opt(x:Option α):EM α:=λg k=>match x with
 | some a=>k a g
 | none=>False
noncomputable def dem(P:Prop):EM Unit:=λg k=>P/\k () g
noncomputable def cnd(c:Bool)(P Q:Prop):Prop:=match c with
 | true=>P
 | false=>Q
noncomputable def demD(P:Prop)[Decidable P]:EM Unit:=λg k=>cnd (decide P) (k () g) False
noncomputable def br(c:Bool):EM Bool:=λg k=>cnd c (k true g) (k false g)
noncomputable def turns:EM Nat:=λg k=>∃ n,k n g
noncomputable def pN(i:Int)(k:α->Prop):Nat->List α->Prop
 | _1,[]=>False
 | j,v::r=>cnd (decide (i=j)) (k v) (pN i k (j+1) r)
noncomputable def pick(vs:List α)(i:Int):EM α:=λg k=>pN i (λv=>k v g) 0 vs
noncomputable def setW(w:W):EM Unit:=λ_1 k=>k () ⟨w,true⟩
noncomputable def still(m:EM α):EM α:=λg k=>m ⟨g.w,false⟩ λa g'=>match g'.wr with
 | false=>k a ⟨g'.w,g.wr⟩
 | true=>False
noncomputable def wh(c:Bool)(m:EM α):EM α:=match c with
 | true=>m
 | false=>no
noncomputable def ei(c:Bool)(m m':EM α):EM α:=match c with
 | true=>m
 | false=>m'
noncomputable def vw(o:Option β)(m:β->EM α)(m':EM α):EM α:=match o with
 | some b=>m b
 | none=>m'
end
noncomputable def lq:List Nat->List Nat->Bool
 | [],[]=>true
 | a::x,b::y=>match Nat.beq a b with
  | true=>lq x y
  | false=>false
 | _1,_2=>false
noncomputable def sq(a b:Str):Bool:=lq a.cps.toList b.cps.toList
noncomputable def sl(a:Str)(b:String):Bool:=sq a (Str.ofString b)
theorem pO{α β:Type}{p:α->Bool}{f:α->β}{l:List α}{v:β}(h:(l.find? p).map f=some v):∃ a,a∈l/\p a=true/\f a=v :=
 (Option.map_eq_some_iff.mp h).elim λa h=>⟨a,List.mem_of_find?_eq_some h.1,List.find?_some (p:=p) h.1,h.2⟩
theorem tP{α β:Type}{p:α->Bool}{f:α->β}{a:α}{r:List α}:((a::r).find? p).map f=cond (p a) (some (f a)) ((r.find? p).map f):=by
 rw [List.find?_cons]
 cases p a <;> rfl
noncomputable def ah{α:Type}(x:Str)(l:List (Str×α)):Option α:=(l.find? λp=>sq x p.1).map (·.2)
noncomputable def bA{α:Type}(a:Nat)(l:List (Nat×α)):Option α:=(l.find? λp=>Nat.beq a p.1).map (·.2)
noncomputable def pP(a:Nat)(x:Str)(l:List (Nat×Str×AV)):Option AV:=(l.find? λp=>Nat.beq a p.1&&sq x p.2.1).map (·.2.2)
theorem bn{α:Type}{x:Str}{p:Str×α}{r:List (Str×α)}:ah x (p::r)=cond (sq x p.1) (some p.2) (ah x r):=tP
noncomputable def signs:List AV:=[.tup [.str (S "a"),.ints [97]],.tup [.str (S "é"),.ints [195,169]],.tup [.str (S "€"),.ints [226,130,172]],.tup [.str (S "😀"),.ints [240,159,152,128]]]
noncomputable def pQ:List (Str×AV):=[(S "unpack",.bi "_struct.unpack"),(S "string_types",.top 50),(S "binary_types",.top 51),(S "boolean",.top 52),(S "uint8",.top 53),(S "uint16",.top 54),(S "uint32",.top 55),(S "uint64",.top 56),(S "int8",.top 57),(S "int16",.top 58),(S "int32",.top 59),(S "int64",.top 60),(S "uoffset",.top 55),(S "soffset",.top 59),(S "BoolFlags",.top 70),(S "Uint8Flags",.top 84),(S "Uint16Flags",.top 98),(S "Uint32Flags",.top 112),(S "Uint64Flags",.top 126),(S "Int8Flags",.top 140),(S "Int16Flags",.top 154),(S "Int32Flags",.top 168),(S "Int64Flags",.top 182),(S "SOffsetTFlags",.top 196),(S "UOffsetTFlags",.top 208),(S "VOffsetTFlags",.top 220),(S "enforce_number",.top 229),(S "FILE_IDENTIFIER_LENGTH",.int (4)),(S "Write",.top 236),(S "OffsetArithmeticError",.top 246),(S "IsNotNestedError",.top 259),(S "IsNestedError",.top 272),(S "StructIsNotInlineError",.top 285),(S "BuilderSizeError",.top 298),(S "BuilderNotFinishedError",.top 311),(S "EndVectorLengthMismatched",.top 324),(S "VtableMetadataFields",.int (2)),(S "Builder",.top 729),(S "_law_signs",.list signs),(S "_law_kinds",.top 758),(S "_law_take",.top 765),(S "_law_value",.top 772),(S "_law_text",.top 779),(S "_law_put",.top 786),(S "_law_slot",.top 793),(S "_law_align",.top 800),(S "_law_write",.top 807),(S "_law_octets",.top 814),(S "_law_numbers",.top 819),(S "_law_offset",.top 826),(S "_law_offsets",.top 831),(S "_law_field",.top 838),(S "_law_table",.top 843),(S "_law_thing",.top 850),(S "_law_finish",.top 855),(S "law",.top 862),(S "len",.bi "len"),(S "min",.bi "min"),(S "isinstance",.bi "isinstance"),(S "range",.ty "range"),(S "int",.ty "int"),(S "bytes",.ty "bytes"),(S "list",.ty "list"),(S "tuple",.ty "tuple"),(S "str",.ty "str"),(S "bytearray",.ty "bytearray"),(S "bool",.ty "bool"),(S "reversed",.ty "reversed")]
noncomputable def clsL:List (Nat×Str×AV):=[(70,S "bytewidth",.int (1)),(70,S "min_val",.bool false),(70,S "max_val",.bool true),(70,S "packer_type",.top 52),(84,S "bytewidth",.int (1)),(84,S "min_val",.int (0)),(84,S "max_val",.int (255)),(84,S "py_type",.ty "int"),(84,S "packer_type",.top 53),(98,S "bytewidth",.int (2)),(98,S "min_val",.int (0)),(98,S "max_val",.int (65535)),(98,S "py_type",.ty "int"),(98,S "packer_type",.top 54),(112,S "bytewidth",.int (4)),(112,S "min_val",.int (0)),(112,S "max_val",.int (4294967295)),(112,S "py_type",.ty "int"),(112,S "packer_type",.top 55),(126,S "bytewidth",.int (8)),(126,S "min_val",.int (0)),(126,S "max_val",.int (18446744073709551615)),(126,S "py_type",.ty "int"),(126,S "packer_type",.top 56),(140,S "bytewidth",.int (1)),(140,S "min_val",.int (-128)),(140,S "max_val",.int (127)),(140,S "py_type",.ty "int"),(140,S "packer_type",.top 57),(154,S "bytewidth",.int (2)),(154,S "min_val",.int (-32768)),(154,S "max_val",.int (32767)),(154,S "py_type",.ty "int"),(154,S "packer_type",.top 58),(168,S "bytewidth",.int (4)),(168,S "min_val",.int (-2147483648)),(168,S "max_val",.int (2147483647)),(168,S "py_type",.ty "int"),(168,S "packer_type",.top 59),(182,S "bytewidth",.int (8)),(182,S "min_val",.int (-9223372036854775808)),(182,S "max_val",.int (9223372036854775807)),(182,S "py_type",.ty "int"),(182,S "packer_type",.top 60),(196,S "bytewidth",.int (4)),(196,S "min_val",.int (-2147483648)),(196,S "max_val",.int (2147483647)),(196,S "py_type",.ty "int"),(196,S "packer_type",.top 59),(208,S "bytewidth",.int (4)),(208,S "min_val",.int (0)),(208,S "max_val",.int (4294967295)),(208,S "py_type",.ty "int"),(208,S "packer_type",.top 55),(220,S "bytewidth",.int (2)),(220,S "min_val",.int (0)),(220,S "max_val",.int (65535)),(220,S "py_type",.ty "int"),(220,S "packer_type",.top 54),(729,S "MAX_BUFFER_SIZE",.int (2147483648))]
noncomputable def fG:List (Str×Nat):=[(S "Clear",350),(S "Output",357),(S "StartObject",364),(S "WriteVtable",371),(S "EndObject",378),(S "GrowByteBuffer",385),(S "Head",392),(S "Offset",399),(S "Pad",406),(S "Prep",413),(S "PrependSOffsetTRelative",420),(S "PrependUOffsetTRelative",427),(S "StartVector",434),(S "EndVector",442),(S "CreateSharedString",449),(S "CreateString",456),(S "CreateByteVector",463),(S "assertNested",470),(S "assertNotNested",477),(S "assertStructIsInline",484),(S "Slot",491),(S "_Builder__Finish",499),(S "Finish",507),(S "FinishSizePrefixed",515),(S "Prepend",522),(S "PrependSlot",529),(S "PrependBoolSlot",536),(S "PrependByteSlot",543),(S "PrependUint8Slot",550),(S "PrependUint16Slot",557),(S "PrependUint32Slot",564),(S "PrependUint64Slot",571),(S "PrependInt8Slot",578),(S "PrependInt16Slot",585),(S "PrependInt32Slot",592),(S "PrependInt64Slot",599),(S "PrependUOffsetTRelativeSlot",606),(S "PrependStructSlot",613),(S "PrependBool",620),(S "PrependByte",627),(S "PrependUint8",634),(S "PrependUint16",641),(S "PrependUint32",648),(S "PrependUint64",655),(S "PrependInt8",662),(S "PrependInt16",669),(S "PrependInt32",676),(S "PrependInt64",683),(S "ForceDefaults",690),(S "PrependVOffsetT",697),(S "Place",704),(S "PlaceVOffsetT",711),(S "PlaceSOffsetT",718),(S "PlaceUOffsetT",725)]
noncomputable def tQ:List (Nat×Nat×Bool×Bool):=[(52,1,false,true),(53,1,false,false),(54,2,false,false),(55,4,false,false),(56,8,false,false),(57,1,true,false),(58,2,true,false),(59,4,true,false),(60,8,true,false)]
noncomputable def rL:List (Nat×List String):=[(50,["str"]),(51,["bytes","bytearray"])]
noncomputable def kwF:Nat:=499
noncomputable def CB:Nat:=729
noncomputable def lawA:Nat:=862
noncomputable def jh{α:Type}(x:Str)(v:α):List (Str×α)->List (Str×α)
 | []=>[(x,v)]
 | p::r=>cond (sq x p.1) ((p.1,v)::r) (p::jh x v r)
noncomputable def yP(l:List (Str×LV)):List (Str×LV)->List (Str×LV):=List.filterMap λp=>(ah p.1 l).map λv=>(p.1,v)
noncomputable def back(l₀ l:Loc):Loc:=⟨yP l.v l₀.v,l.sc⟩
noncomputable def Loc.get(ls:Loc)(x:Str):Option LV:=ah x ls.v
noncomputable def Loc.put(ls:Loc)(x:Str)(v:LV):Loc:=⟨jh x v ls.v,ls.sc⟩
noncomputable def Ag(o:Option NameKind):Bool:=decide (o=some .local\/o=some .cell)
noncomputable def Loc.may(ls:Loc)(x:Str):Bool:=Ag (ah x ls.sc)
noncomputable def asg(ls:Loc)(x:Str)(v:LV):EM Loc:=wh (ls.may x) (ok (ls.put x v))
noncomputable def W.setB(w:W)(r:Nat)(b:BS):W:=⟨w.bs.set r b,w.mn,w.bx⟩
noncomputable def W.setX(w:W)(r:Nat)(b:Bx):W:=⟨w.bs,w.mn,w.bx.set r b⟩
noncomputable def getB(r:Nat):EM BS:=λg=>opt g.w.bs[r]? g
noncomputable def putB(r:Nat)(b:BS):EM Unit:=λg=>setW (g.w.setB r b) g
noncomputable def getX(r:Nat):EM Bx:=λg=>opt g.w.bx[r]? g
noncomputable def putX(r:Nat)(b:Bx):EM Unit:=λg=>setW (g.w.setX r b) g
noncomputable def getM:EM Mn:=λg=>opt g.w.mn g
noncomputable def putM(m:Mn):EM Unit:=λg=>setW ⟨g.w.bs,some m,g.w.bx⟩ g
noncomputable def dq(m:Mn):Cp->Option (List Int)
 | .rear=>some m.rear
 | .stand=>some m.stand
 | .made=>some m.made
 | _1=>none
noncomputable def lP(m:Mn)(xs:List Int):Cp->Mn
 | .rear=>{ m with rear:=xs }
 | .stand=>{ m with stand:=xs }
 | _1=>{ m with made:=xs }
noncomputable def lQ:Cp->Bool
 | .cv=>true
 | _1=>false
noncomputable def be(r:Nat)(c:Cp):EM (List Int):=ei (lQ c) (bd (getB r) λb=>opt b.cv) (bd getM λm=>opt (dq m c))
noncomputable def gE(r:Nat)(c:Cp)(xs:List Int):EM Unit:=ei (lQ c) (bd (getB r) λb=>bd (opt b.cv) λ_1=>putB r { b with cv:=some xs }) (bd getM λm=>bd (opt (dq m c)) λ_1=>putM (lP m xs c))
noncomputable def cI:AV->Bool
 | .key _1=>false
 | .lref _1=>false
 | _1=>true
noncomputable def bC:List AV->Bool
 | []=>true
 | a::r=>match cI a with
  | true=>bC r
  | false=>false
noncomputable def aI:Cp->Bool
 | .bytes=>true
 | .cv=>true
 | .vt=>true
 | .ss=>true
 | _1=>false
noncomputable def rM:Key->Bool
 | .comp _1 c=>aI c
 | _1=>false
noncomputable def vol:AV->Bool
 | .key q=>rM q
 | _1=>false
noncomputable def eN(p:LV->Bool):List (Str×LV)->Bool
 | []=>true
 | (_1,v)::r=>match p v with
  | true=>eN p r
  | false=>false
noncomputable def yQ:LV->Bool
 | .v a=>!vol a
 | _1=>true
noncomputable def ao(l:List (Str×LV)):Bool:=eN yQ l
noncomputable def vw1{α:Type}{P:α->Prop}(o:Option {x:α // P x}):Option α:=match o with
 | some y=>some y.1
 | none=>none
theorem aK{α:Type}{P:α->Prop}:∀ {o:Option {x:α // P x}}{x:α},vw1 o=some x->P x
 | some y,_1,e=>Option.some.inj e▸y.2
noncomputable def vwB{P:Prop}(o:Option {x:Unit // P}):Bool:=match o with
 | some _1=>true
 | none=>false
theorem yR{P:Prop}:∀ {o:Option {x:Unit // P}},vwB o=true->P
 | some y,_1=>y.2
noncomputable def vI1:(a:AV)->Option {x:Int // a=.int x}
 | .int i=>some ⟨i,rfl⟩
 | _1=>none
noncomputable def vI(a:AV):Option Int:=vw1 (vI1 a)
theorem gy{a:AV}{x:Int}:vI a=some x->a=.int x:=aK (o:=vI1 a)
noncomputable def vIs1:(a:AV)->Option {x:List Int // a=.ints x}
 | .ints i=>some ⟨i,rfl⟩
 | _1=>none
noncomputable def vIs(a:AV):Option (List Int):=vw1 (vIs1 a)
theorem lR{a:AV}{x:List Int}:vIs a=some x->a=.ints x:=aK (o:=vIs1 a)
noncomputable def vS1:(a:AV)->Option {x:Str // a=.str x}
 | .str i=>some ⟨i,rfl⟩
 | _1=>none
noncomputable def vS(a:AV):Option Str:=vw1 (vS1 a)
theorem vS_e{a:AV}{x:Str}:vS a=some x->a=.str x:=aK (o:=vS1 a)
noncomputable def vBy1:(a:AV)->Option {x:List UInt8 // a=.bytes x}
 | .bytes i=>some ⟨i,rfl⟩
 | _1=>none
noncomputable def vBy(a:AV):Option (List UInt8):=vw1 (vBy1 a)
theorem lS{a:AV}{x:List UInt8}:vBy a=some x->a=.bytes x:=aK (o:=vBy1 a)
noncomputable def vBa1:(a:AV)->Option {x:List UInt8 // a=.barr x}
 | .barr i=>some ⟨i,rfl⟩
 | _1=>none
noncomputable def vBa(a:AV):Option (List UInt8):=vw1 (vBa1 a)
theorem yS{a:AV}{x:List UInt8}:vBa a=some x->a=.barr x:=aK (o:=vBa1 a)
noncomputable def vBo1:(a:AV)->Option {x:Bool // a=.bool x}
 | .bool i=>some ⟨i,rfl⟩
 | _1=>none
noncomputable def vBo(a:AV):Option Bool:=vw1 (vBo1 a)
theorem hY{a:AV}{x:Bool}:vBo a=some x->a=.bool x:=aK (o:=vBo1 a)
noncomputable def vC1:(a:AV)->Option {x:Nat×Cp // a=.key (.comp x.1 x.2)}
 | .key (.comp r c)=>some ⟨(r,c),rfl⟩
 | _1=>none
noncomputable def vC(a:AV):Option (Nat×Cp):=vw1 (vC1 a)
theorem vC_e{a:AV}{x:Nat×Cp}:vC a=some x->a=.key (.comp x.1 x.2):=aK (o:=vC1 a)
noncomputable def vB1:(a:AV)->Option {x:Nat // a=.key (.bld x)}
 | .key (.bld r)=>some ⟨r,rfl⟩
 | _1=>none
noncomputable def vB(a:AV):Option Nat:=vw1 (vB1 a)
theorem vB_e{a:AV}{x:Nat}:vB a=some x->a=.key (.bld x):=aK (o:=vB1 a)
noncomputable def vX1:(a:AV)->Option {x:Nat // a=.key (.box x)}
 | .key (.box r)=>some ⟨r,rfl⟩
 | _1=>none
noncomputable def vX(a:AV):Option Nat:=vw1 (vX1 a)
theorem vX_e{a:AV}{x:Nat}:vX a=some x->a=.key (.box x):=aK (o:=vX1 a)
noncomputable def vLr1:(a:AV)->Option {x:Str // a=.lref x}
 | .lref i=>some ⟨i,rfl⟩
 | _1=>none
noncomputable def vLr(a:AV):Option Str:=vw1 (vLr1 a)
theorem hZ{a:AV}{x:Str}:vLr a=some x->a=.lref x:=aK (o:=vLr1 a)
noncomputable def vL1:(a:AV)->Option {x:List AV // a=.list x}
 | .list i=>some ⟨i,rfl⟩
 | _1=>none
noncomputable def vL(a:AV):Option (List AV):=vw1 (vL1 a)
theorem vL_e{a:AV}{x:List AV}:vL a=some x->a=.list x:=aK (o:=vL1 a)
noncomputable def vTp1:(a:AV)->Option {x:List AV // a=.tup x}
 | .tup i=>some ⟨i,rfl⟩
 | _1=>none
noncomputable def vTp(a:AV):Option (List AV):=vw1 (vTp1 a)
theorem tS{a:AV}{x:List AV}:vTp a=some x->a=.tup x:=aK (o:=vTp1 a)
noncomputable def vIt1:(a:AV)->Option {x:List Int // a=.itup x}
 | .itup i=>some ⟨i,rfl⟩
 | _1=>none
noncomputable def vIt(a:AV):Option (List Int):=vw1 (vIt1 a)
theorem yT{a:AV}{x:List Int}:vIt a=some x->a=.itup x:=aK (o:=vIt1 a)
noncomputable def yU:(a:AV)->Option {x:Nat // a=.top x}
 | .top i=>some ⟨i,rfl⟩
 | _1=>none
noncomputable def f6(a:AV):Option Nat:=vw1 (yU a)
theorem ds{a:AV}{x:Nat}:f6 a=some x->a=.top x:=aK (o:=yU a)
noncomputable def vTy1:(a:AV)->Option {x:String // a=.ty x}
 | .ty i=>some ⟨i,rfl⟩
 | _1=>none
noncomputable def vTy(a:AV):Option String:=vw1 (vTy1 a)
theorem lT{a:AV}{x:String}:vTy a=some x->a=.ty x:=aK (o:=vTy1 a)
noncomputable def vBi1:(a:AV)->Option {x:String // a=.bi x}
 | .bi i=>some ⟨i,rfl⟩
 | _1=>none
noncomputable def vBi(a:AV):Option String:=vw1 (vBi1 a)
theorem yV{a:AV}{x:String}:vBi a=some x->a=.bi x:=aK (o:=vBi1 a)
noncomputable def vRg1:(a:AV)->Option {x:Int×Int×Nat // a=.rng x.1 x.2.1 x.2.2}
 | .rng a c n=>some ⟨(a,c,n),rfl⟩
 | _1=>none
noncomputable def vRg(a:AV):Option (Int×Int×Nat):=vw1 (vRg1 a)
theorem yW{a:AV}{x:Int×Int×Nat}:vRg a=some x->a=.rng x.1 x.2.1 x.2.2:=aK (o:=vRg1 a)
noncomputable def pR:(a:AV)->Option {x:Unit // a=.key .mine}
 | .key .mine=>some ⟨(),rfl⟩
 | _1=>none
noncomputable def ig(a:AV):Bool:=vwB (pR a)
theorem ii{a:AV}:ig a=true->a=.key .mine:=yR (o:=pR a)
noncomputable def pS:(a:AV)->Option {x:Unit // a=.none}
 | .none=>some ⟨(),rfl⟩
 | _1=>none
noncomputable def isNone(a:AV):Bool:=vwB (pS a)
theorem dS{a:AV}:isNone a=true->a=.none:=yR (o:=pS a)
noncomputable def bI(u:Bool):Int:=match u with
 | true=>1
 | false=>0
noncomputable def toI(a:AV):Option Int:=match vI a with
 | some i=>some i
 | none=>(vBo a).map bI
noncomputable def yX:(a:Option LV)->Option {x:List Int // a=some (.own x)}
 | some (.own x)=>some ⟨x,rfl⟩
 | _1=>none
noncomputable def j9(a:Option LV):Option (List Int):=vw1 (yX a)
theorem n7{a:Option LV}{x:List Int}:j9 a=some x->a=some (.own x):=aK (o:=yX a)
noncomputable def tT:(a:Option LV)->Option {x:List UInt8 // a=some (.ownB x)}
 | some (.ownB x)=>some ⟨x,rfl⟩
 | _1=>none
noncomputable def tU(a:Option LV):Option (List UInt8):=vw1 (tT a)
theorem pU{a:Option LV}{x:List UInt8}:tU a=some x->a=some (.ownB x):=aK (o:=tT a)
noncomputable def cJ:List AV->Option (List Int)
 | []=>some []
 | a::r=>match vI a with
  | some i=>(cJ r).map (i::·)
  | none=>none
noncomputable def bQ(vs:List AV):AV:=match cJ vs with
 | some xs=>.ints xs
 | none=>.list vs
noncomputable def one{α:Type}:List α->Option α
 | [a]=>some a
 | _1=>none
noncomputable def two{α:Type}:List α->Option (α×α)
 | [a,b]=>some (a,b)
 | _1=>none
noncomputable def pV{α:Type}:List α->Option (α×α×α)
 | [a,b,c]=>some (a,b,c)
 | _1=>none
noncomputable def nil{α:Type}:List α->Bool
 | []=>true
 | _1=>false
noncomputable def inv(x:Int):Int:=-x-1
noncomputable def cT(x y:Int):Int:=x % (y+1)
noncomputable def i2(a b:AV)(f:Int->Int->EM AV):EM AV:=bd (opt (vI a)) λx=>bd (opt (vI b)) λy=>f x y
noncomputable def mulI(x y:Int):EM AV:=bd (demD (x.natAbs < 2 ^ 64)) λ_1=>ok (.int (x*y))
noncomputable def andI(x y:Int):EM AV:=bd (dem (∃ k:Nat,k<=4/\y+1=2 ^ k)) λ_1=>ok (.int (cT x y))
noncomputable def addV(a b:AV):EM AV:=vw (vIs a) (λx=>bd (opt (vIs b)) λy=>bd (dem (x.length+y.length<=16777216)) λ_1=>ok (.ints (x++y)))
 (bd (opt (vS a)) λx=>bd (opt (vS b)) λy=>bd (dem (x.length+y.length<=16777216)) λ_1=>ok (.str (x++y)))
noncomputable def repI(a b:AV):EM AV:=bd (opt (vI b)) λn=>vw (vIs a) (λxs=>bd (opt (one xs)) λx=>bd (dem (-16777216<=n/\n<=16777216)) λ_1=>ok (.ints (List.replicate n.toNat x)))
 (bd (opt (vBy a)) λxs=>bd (opt (one xs)) λx=>bd (dem (-1048576<=n/\n<=1048576)) λ_1=>ok (.bytes (List.replicate n.toNat x)))
noncomputable def yY(a b:AV):EM AV:=bd (opt (vI b)) λy=>bd (demD (y≠0/\y.natAbs < 2 ^ 64)) λ_1 =>
 vw (vI a) (λx=>ok (.int (x.fdiv y))) (bd (opt (vBo a)) λx=>ok (.int ((if x then(1:Int) else 0).fdiv y)))
noncomputable def tV(op:Operator)(a b:AV):EM AV:=match op with
 | .Add=>vw (vI a) (λx=>bd (opt (vI b)) λy=>ok (.int (x+y))) (addV a b)
 | .Sub=>i2 a b λx y=>ok (.int (x-y))
 | .Mult=>vw (vI a) (λx=>bd (opt (vI b)) λy=>mulI x y) (repI a b)
 | .FloorDiv=>yY a b
 | .Mod=>i2 a b λx y=>bd (demD (y≠0)) λ_1=>ok (.int (x.fmod y))
 | .Pow=>i2 a b λx y=>bd (demD (0<=y/\y<=8/\x=256)) λ_1=>ok (.int (x ^ y.toNat))
 | .BitAnd=>i2 a b andI
 | _1=>no
noncomputable def iop(op:Operator)(a b:AV):EM AV:=match op with
 | .Add=>i2 a b λx y=>ok (.int (x+y))
 | .Sub=>i2 a b λx y=>ok (.int (x-y))
 | .Mult=>i2 a b mulI
 | .BitAnd=>i2 a b andI
 | _1=>no
noncomputable def unop(op:UnaryOp)(a:AV):EM AV:=match op with
 | .USub=>bd (opt (vI a)) λx=>ok (.int (-x))
 | .Invert=>bd (opt (vI a)) λx=>ok (.int (inv x))
 | _1=>no
noncomputable def dT(l:List (List Int))(y:List Int):Bool:=l.any λx=>decide (x=y)
noncomputable def e8{K:Type}[DecidableEq K](s:K):List (K×Int)->Option Int
 | []=>none
 | p::r=>if p.1=s then some p.2 else e8 s r
noncomputable abbrev bG:Str->List (Str×Int)->Option Int:=e8
noncomputable def fH(s:Str)(v:Int):List (Str×Int)->List (Str×Int)
 | []=>[(s,v)]
 | p::r=>if p.1=s then(p.1,v)::r else p::fH s v r
noncomputable abbrev aN:List Int->List (List Int×Int)->Option Int:=e8
noncomputable def isSs:Cp->Bool
 | .ss=>true
 | _1=>false
noncomputable def tW:Cp->Bool
 | .shr=>true
 | _1=>false
noncomputable def kb:Cp->Bool
 | .rows=>true
 | _1=>false
noncomputable def kc:Cp->Bool
 | .rear=>true
 | _1=>false
noncomputable def rO:Cp->Bool
 | .bytes=>true
 | _1=>false
noncomputable def isVt:Cp->Bool
 | .vt=>true
 | _1=>false
noncomputable def kg(r:Nat)(c:Cp):EM (List (Str×Int)):=ei (isSs c) (bd (getB r) λb=>opt b.ss) (wh (tW c) (bd getM λm=>ok m.shr))
noncomputable def eqV(a b:AV):EM Bool:=ei (isNone b) (ei (isNone a) (ok true) (bd (opt (toI a)) λ_1=>ok false))
 (ei (isNone a) (bd (opt (vI b)) λ_1=>ok false) (bd (opt (toI a)) λx=>bd (opt (toI b)) λy=>ok (decide (x=y))))
noncomputable def cmp(op:CmpOp)(a b:AV):EM Bool:=match op with
 | .Is=>wh (isNone b) (ok (isNone a))
 | .IsNot=>wh (isNone b) (ok (!isNone a))
 | .Eq=>vw (vIs a) (λx=>bd (opt (vIs b)) λy=>ok (decide (x=y))) (eqV a b)
 | .NotEq=>vw (vIs a) (λx=>bd (opt (vIs b)) λy=>ok (!decide (x=y)))
  (vw (vC a) (λq=>bd (opt (vIs b)) λy=>bd (be q.1 q.2) λx=>ok (!decide (x=y))) (bd (eqV a b) λc=>ok !c))
 | .Lt=>bd (opt (vI a)) λx=>bd (opt (vI b)) λy=>ok (decide (x < y))
 | .LtE=>bd (opt (toI a)) λx=>bd (opt (toI b)) λy=>ok (decide (x<=y))
 | .Gt=>bd (opt (vI a)) λx=>bd (opt (vI b)) λy=>ok (decide (x > y))
 | .GtE=>bd (opt (vI a)) λx=>bd (opt (vI b)) λy=>ok (decide (x ≥ y))
 | .In=>bd (opt (vS a)) λs=>bd (opt (vC b)) λq=>bd (kg q.1 q.2) λl=>ok (bG s l).isSome
 | .NotIn=>bd (opt (vIs a)) λx=>bd (opt (vC b)) λq=>wh (kb q.2) (bd getM λm=>ok (!dT m.rows x))
noncomputable def lU(a:AV):EM Bool:=ei (isNone a) (ok false) (vw (vBo a) ok (vw (vI a) (λi=>ok (decide (i≠0)))
 (bd (opt (vC a)) λq=>wh (isSs q.2) (bd (getB q.1) λb=>bd (opt b.ss) λl=>bd (dem (l.length<=1000)) λ_1=>ok (!l.isEmpty)))))
noncomputable def gk:List (String×Nat):=[("head",4),("Bytes",0),("minalign",5),("objectEnd",7),("vtables",10),("nested",6),("forceDefaults",3),("finished",2),("current_vtable",1),("sharedStrings",8),("vectorNumElems",9)]
noncomputable def dI(x:Str)(l:List (String×Nat)):Option Nat:=(l.find? λp=>sl x p.1).map (·.2)
noncomputable def oI:Option Int->AV
 | some i=>.int i
 | none=>.none
noncomputable def oK{α:Type}(k:Key):Option α->AV
 | some _1=>.key k
 | none=>.none
noncomputable def getS(r:Nat)(b:BS)(i:Nat):Option AV:=(bA i [(0,some (.key (.comp r .bytes))),(1,some (oK (.comp r .cv) b.cv)),(2,some (.bool b.fin)),(3,some (.bool b.force)),(4,some (.int b.head)),(5,some (.int b.minalign)),(6,some (.bool b.nested)),(7,some (oI b.objectEnd)),(8,some (oK (.comp r .ss) b.ss)),(9,b.vecN.map oI),(10,some (.key (.comp r .vt)))]).bind id
noncomputable def yZ(r:Nat)(x:Str):EM AV:=bd (getB r) λb=>bd (opt (dI x gk)) λi=>opt (getS r b i)
noncomputable def putI(b:BS)(x:Int)(i:Nat):Option BS:=bA i [(4,{ b with head:=x }),(5,{ b with minalign:=x }),(7,{ b with objectEnd:=some x }),(9,{ b with vecN:=some (some x) })]
noncomputable def tX(b:BS)(x:Bool)(i:Nat):Option BS:=bA i [(2,{ b with fin:=x }),(3,{ b with force:=x }),(6,{ b with nested:=x })]
noncomputable def tY(b:BS)(i:Nat):Option BS:=bA i [(1,{ b with cv:=none }),(7,{ b with objectEnd:=none }),(8,{ b with ss:=none }),(9,{ b with vecN:=some none })]
noncomputable def t8(b:BS)(i:Nat)(v:AV):Option BS:=match vI v with
 | some x=>putI b x i
 | none=>match vBo v with
  | some x=>tX b x i
  | none=>match isNone v with
   | true=>tY b i
   | false=>none
noncomputable def setB(r:Nat)(x:Str)(v:AV):EM Unit:=bd (getB r) λb=>bd (opt (dI x gk)) λi=>bd (opt (t8 b i v)) λb'=>putB r b'
noncomputable abbrev Om:=Nat->List AV->W->(AV->Option W->Prop)->Prop
noncomputable def aX:AV->Bool
 | .lref _1=>false
 | _1=>true
noncomputable def aQ:List AV->Bool
 | []=>true
 | a::r=>match aX a with
  | true=>aQ r
  | false=>false
noncomputable def ask(Ω:Om)(f:Nat)(vs:List AV):EM (AV×Option W):=λg k=>Ω f vs g.w λv o=>k (v,o) g
noncomputable def gm(Ω:Om)(ls:Loc)(f:Nat)(vs:List AV):EM AV:=wh (aQ vs) (bd (ask Ω f vs) λr=>vw r.2 (λw=>wh (ao ls.v) (bd (setW w) λ_1=>ok r.1)) (ok r.1))
noncomputable def bc(xs:List Int)(i:Int):Int:=xs.getD i.toNat 0
noncomputable def lV(xs:List Int)(i:Int):EM AV:=bd (br (decide (i < 0))) λneg=>match neg with
 | true=>bd (dem (0<=i+xs.length/\xs.length<=16777216)) λ_1=>ok (.int (bc xs (i+xs.length)))
 | false=>bd (dem (i < xs.length/\xs.length<=16777216)) λ_1=>ok (.int (bc xs i))
noncomputable def y0(x:Bx):Int->Option AV
 | .ofNat 0=>some (.ints x.items)
 | .ofNat 1=>some (.int x.pos)
 | _1=>none
noncomputable def y3:List (String×Nat):=[("rear",0),("align",1),("rows",2),("stand",3),("shared",4),("made",5),("forced",6)]
noncomputable def n8(m:Mn):Nat->Option AV
 | 0=>some (.key (.comp 0 .rear))
 | 1=>some (.int m.align)
 | 2=>some (.key (.comp 0 .rows))
 | 3=>some (.key (.comp 0 .stand))
 | 4=>some (.key (.comp 0 .shr))
 | 5=>some (.key (.comp 0 .made))
 | 6=>some (.bool m.forced)
 | _1=>none
noncomputable def n9(ls:Loc)(o:AV):EM (List Int):=vw (vIs o) ok (vw (vLr o) (λx=>opt (j9 (ls.get x))) (bd (opt (vC o)) λq=>be q.1 q.2))
noncomputable def y4(o:AV)(s:Str):EM AV:=ei (ig o) (bd getM λm=>bd (opt (dI s y3)) λi=>opt (n8 m i))
 (bd (opt (vC o)) λq=>bd (kg q.1 q.2) λl=>bd (dem ((bG s l).isSome=true)) λ_1=>ok (.int ((bG s l).getD 0)))
noncomputable def item(ls:Loc)(o i:AV):EM AV:=vw (vS i) (λs=>y4 o s) (bd (opt (vI i)) λk =>
 vw (vX o) (λr=>bd (getX r) λx=>opt (y0 x k))
 (vw (vL o) (λvs=>wh (Nat.ble vs.length 1000) (pick vs k))
 (vw (vTp o) (λvs=>wh (Nat.ble vs.length 1000) (pick vs k))
 (bd (n9 ls o) λxs=>lV xs k))))
inductive Sl where
 | rev | upto (n:Int) | from_ (n:Int) | between (a b:Int)
noncomputable def kh(o:AV)(s:Sl):EM AV:=match s with
 | .rev=>vw (vL o) (λxs=>bd (dem (xs.length<=16777216)) λ_1=>ok (.list xs.reverse))
  (vw (vIs o) (λxs=>bd (dem (xs.length<=16777216)) λ_1=>ok (.ints xs.reverse))
   (bd (opt (vC o)) λq=>wh (kc q.2) (bd (be q.1 q.2) λxs=>bd (dem (xs.length<=16777216)) λ_1=>ok (.ints xs.reverse))))
 | .upto n=>bd (opt (vIs o)) λxs=>bd (br (decide (n < 0))) λneg=>match neg with
  | true=>bd (dem (n=-1/\xs.length<=16777216)) λ_1=>ok (.ints xs.dropLast)
  | false=>bd (dem (n<=1000000/\xs.length<=16777216)) λ_1=>ok (.ints (xs.take n.toNat))
 | .from_ n=>bd (opt (vC o)) λq=>wh (rO q.2) (bd (getB q.1) λb=>bd (dem (0<=n/\n<=b.bytes.length/\b.bytes.length<=16777216)) λ_1=>ok (.barr (b.bytes.drop n.toNat)))
 | _1=>no
noncomputable def az(b:List UInt8)(lo hi:Int)(x:List UInt8):List UInt8:=b.take lo.toNat++x++b.drop hi.toNat
noncomputable def og{α:Type}(xs:List α):EM AV:=bd (dem (xs.length<=16777216)) λ_1=>ok (.int xs.length)
noncomputable def y5(ls:Loc)(o:AV):EM AV:=vw (vBy o) og (vw (vL o) og (vw (vC o) (λq=>ei (rO q.2) (bd (getB q.1) λb=>og b.bytes) (bd (be q.1 q.2) λxs=>og xs)) (bd (n9 ls o) λxs=>og xs)))
noncomputable def dM(a c:Int):Nat->List Int
 | 0=>[]
 | n+1=>a::dM (a+c) c n
noncomputable def fa(x:Int):UInt8:=UInt8.ofNat x.toNat
noncomputable def tyOf(a:AV):Option String:=match vS a with
 | some _1=>some "str"
 | none=>(vBy a).map λ_1=>"bytes"
noncomputable def tn3(n:String):Bool:=n=="str" || n=="bytes" || n=="bytearray"
noncomputable def cr(s:Str):List UInt8:=s.cps.toList.flatMap Str.utf8Of
noncomputable def le(w:Nat)(i:Int):List UInt8:=(List.range w).map λk=>UInt8.ofNat ((i / 256 ^ k) % 256).toNat
noncomputable def dU(w:Nat)(sg bl:Bool)(i:Int):Prop:=match bl,sg with
 | true,_1=>i=0\/i=1
 | false,true=>-(2 ^ (8*w-1))<=i/\i < 2 ^ (8*w-1)
 | false,false=>0<=i/\i < 2 ^ (8*w)
noncomputable def tI(x:UInt8):Int:=x.toNat
noncomputable def nB(x:List UInt8)(k:Nat):AV:=.int (x.getD k 0).toNat
noncomputable def t9(ls:Loc)(n:String)(vs:List AV):EM AV:=ei (n=="len") (bd (opt (one vs)) λa=>y5 ls a) (bd (opt (two vs)) λp =>
 ei (n=="min") (i2 p.1 p.2 λx y=>ok (.int (min x y)))
 (ei (n=="isinstance") (vw (f6 p.2) (λt=>bd (opt (bA t rL)) λns=>bd (opt (tyOf p.1)) λm=>wh (ns.all tn3) (ok (.bool (ns.any λx=>x==m))))
  (bd (opt (vTy p.2)) λm=>wh (m=="bytearray") (bd (opt (vBa p.1)) λ_1=>ok (.bool true))))
 (wh (n=="_struct.unpack") (bd (opt (vS p.1)) λf=>bd (opt (vBy p.2)) λx=>bd (dem (x.length=4/\sl f ">BBBB"=true)) λ_1=>ok (.tup [nB x 0,nB x 1,nB x 2,nB x 3])))))
noncomputable def pW(ls:Loc)(n:String)(a:AV):EM AV:=ei (n=="int") (bd (opt (vI a)) λi=>ok (.int i))
 (ei (n=="range") (bd (opt (vI a)) λi=>bd (demD (-1000000<=i/\i<=1000000)) λ_1=>ok (.rng 0 1 i.toNat))
 (ei (n=="tuple") (bd (opt (vLr a)) λx=>bd (opt (j9 (ls.get x))) λxs=>bd (dem (xs.length<=16777216)) λ_1=>ok (.itup xs))
 (ei (n=="bytes") (bd (opt (vIs a)) λxs=>bd (dem ((∀ x∈xs,0<=x/\x < 256)/\xs.length<=16777216)) λ_1=>ok (.bytes (xs.map fa)))
 (wh (n=="list") (vw (vBy a) (λb=>bd (dem (b.length<=16777216)) λ_1=>ok (.ints (b.map tI))) (bd (opt (vBa a)) λb=>bd (dem (b.length<=16777216)) λ_1=>ok (.ints (b.map tI))))))))
noncomputable def y6(ls:Loc)(f:AV)(vs:List AV):EM AV:=vw (vBi f) (λn=>t9 ls n vs) (bd (opt (vTy f)) λn=>vw (one vs) (λa=>pW ls n a)
 (bd (opt (pV vs)) λp=>wh (n=="range") (bd (opt (vI p.1)) λa=>bd (opt (vI p.2.1)) λb=>bd (opt (vI p.2.2)) λc =>
  bd (demD (b=-1/\c=-1/\-1<=a/\a<=1000000)) λ_1=>ok (.rng a (-1) (a+1).toNat))))
noncomputable def cu(bl:Bool)(a:AV):Option Int:=match bl with
 | true=>(vBo a).map bI
 | false=>vI a
noncomputable def y7(r:Nat)(c:Cp)(name:Str)(a:AV):EM AV:=ei (kb c)
 (bd (opt (vIs a)) λx=>ei (sl name "append") (bd getM λm=>bd (dem (m.rows.length<=16777215)) λ_1=>bd (putM { m with rows:=m.rows++[x] }) λ_1=>ok .none)
  (wh (sl name "index") (bd getM λm=>bd (dem (dT m.rows x=true/\m.rows.length<=16777216)) λ_1=>ok (.int (m.rows.findIdx λy=>decide (y=x))))))
 (ei (isVt c) (bd (opt (vIt a)) λx=>wh (sl name "get") (bd (getB r) λb=>bd (br (aN x b.vt).isSome) λthere=>match there with
  | true=>ok (.int ((aN x b.vt).getD 0))
  | false=>ok .none))
 (vw (vI a) (λi=>wh (sl name "append"&&!lQ c) (bd (be r c) λxs=>bd (dem (xs.length<=16777215)) λ_1=>bd (gE r c (xs++[i])) λ_1=>ok .none))
 (bd (opt (vIs a)) λx=>wh (sl name "extend"&&kc c) (bd getM λm=>bd (dem (m.rear.length+x.length<=16777216)) λ_1=>bd (putM { m with rear:=m.rear++x }) λ_1=>ok .none))))
noncomputable def y8(s:Str)(name:Str)(a:AV):EM AV:=bd (opt (vS a)) λe=>wh (sl name "encode"&&sl e "utf-8")
 (bd (dem ((∀ c∈s.cps.toList,Str.isSurrogate c=false)/\(cr s).length<=16777216)) λ_1=>ok (.bytes (cr s)))
noncomputable def pX(o:Option AV):Bool:=o.any λa=>vTy a==some "int"
noncomputable def y9(a:Nat)(vs:List AV):EM AV:=bd (opt (pV vs)) λp=>bd (opt (bA a tQ)) λf=>bd (opt (vC p.1)) λq=>wh (rO q.2) (bd (opt (vI p.2.1)) λh=>bd (opt (cu f.2.2 p.2.2)) λi=>bd (getB q.1) λb =>
 bd (dem (0<=h/\h+f.1<=b.bytes.length/\b.bytes.length<=16777216/\dU f.1 f.2.1 f.2.2 i)) λ_1 =>
 bd (putB q.1 { b with bytes:=az b.bytes h (h+f.1) (le f.1 i) }) λ_1=>ok .none)
noncomputable def za(o:AV)(name:Str)(vs:List AV):EM AV:=vw (f6 o) (λa=>ei (sl name "pack_into") (y9 a vs) (wh (sl name "py_type") (wh (pX (pP a name clsL)) (bd (opt (one vs)) λv=>bd (opt (vI v)) λi=>ok (.int i)))))
 (bd (opt (one vs)) λa=>vw (vS o) (λs=>y8 s name a) (bd (opt (vC o)) λq=>y7 q.1 q.2 name a))
structure Ev where
 e:Expr->Loc->EM AV
 t:Expr->Loc->EM Bool
 s:Stmt->Loc->EM (Fl×Loc)
noncomputable def Ev.none:Ev:=⟨λ_1 _2=>no,λ_1 _2=>no,λ_1 _2=>no⟩
noncomputable def du:Expr->Bool
 | .Starred ..=>true
 | _1=>false
noncomputable def cY:Expr->Bool
 | .Set ..=>true
 | _1=>false
noncomputable def cz:Expr->Bool
 | .ListComp ..=>true
 | .SetComp ..=>true
 | .DictComp ..=>true
 | _1=>false
structure Lc where
 elt:Expr
 x:Str
 px:Pos
 it:Expr
 a:Int
 sc:Scope
 cp:Pos
noncomputable def Lc.e(c:Lc):Expr:=.ListComp c.elt [⟨.Name c.x c.px,c.it,[],c.a⟩] c.sc c.cp
inductive XK:Expr->Type where
 | name (x:Str) (p:Pos):XK (.Name x p)
 | attr (o:Expr) (n:Str) (p:Pos):XK (.Attribute o n p)
 | sub (o i:Expr) (p:Pos):XK (.Subscript o i p)
 | slice (a b c:Option Expr) (p:Pos):XK (.Slice a b c p)
 | call (f:Expr) (as:List Expr) (ks:List Keyword) (p:Pos):XK (.Call f as ks p)
 | tup (ts:List Expr) (k:Nat) (p:Pos):XK (.Tuple ts k p)
 | list (ts:List Expr) (p:Pos):XK (.List ts p)
 | dict (a:List (Option Expr)) (b:List Expr) (p:Pos):XK (.Dict a b p)
 | bin (l:Expr) (op:Operator) (r:Expr) (p:Pos):XK (.BinOp l op r p)
 | const (c:Const) (k:Nat) (p:Pos):XK (.Constant c k p)
 | star (e:Expr) (p:Pos):XK (.Starred e p)
 | comp (c:Lc):XK c.e
 | other (e:Expr):XK e
noncomputable def xk:(e:Expr)->XK e
 | .Name x p=>.name x p
 | .Attribute o n p=>.attr o n p
 | .Subscript o i p=>.sub o i p
 | .Slice a b c p=>.slice a b c p
 | .Call f as ks p=>.call f as ks p
 | .Tuple ts k p=>.tup ts k p
 | .List ts p=>.list ts p
 | .Dict a b p=>.dict a b p
 | .BinOp l op r p=>.bin l op r p
 | .Constant c k p=>.const c k p
 | .Starred e p=>.star e p
 | .ListComp e [⟨.Name x px,it,[],a⟩] sc p=>.comp ⟨e,x,px,it,a,sc,p⟩
 | e=>.other e
noncomputable def ub(e:Expr):Option {x:Str×Pos // e=.Name x.1 x.2}:=match e,xk e with
 | _,.name x p=>some ⟨(x,p),rfl⟩
 | _,_=>none
noncomputable def fJ(e:Expr):Option (Str×Pos):=vw1 (ub e)
theorem dw{e:Expr}{x:Str×Pos}:fJ e=some x->e=.Name x.1 x.2:=aK (o:=ub e)
noncomputable def uc(e:Expr):Option {x:Expr×Str×Pos // e=.Attribute x.1 x.2.1 x.2.2}:=match e,xk e with
 | _,.attr o n p=>some ⟨(o,n,p),rfl⟩
 | _,_=>none
noncomputable def jv(e:Expr):Option (Expr×Str×Pos):=vw1 (uc e)
theorem ki{e:Expr}{x:Expr×Str×Pos}:jv e=some x->e=.Attribute x.1 x.2.1 x.2.2:=aK (o:=uc e)
noncomputable def zb(e:Expr):Option {x:Expr×Expr×Pos // e=.Subscript x.1 x.2.1 x.2.2}:=match e,xk e with
 | _,.sub o n p=>some ⟨(o,n,p),rfl⟩
 | _,_=>none
noncomputable def xSub(e:Expr):Option (Expr×Expr×Pos):=vw1 (zb e)
theorem Ah{e:Expr}{x:Expr×Expr×Pos}:xSub e=some x->e=.Subscript x.1 x.2.1 x.2.2:=aK (o:=zb e)
noncomputable def pY(e:Expr):Option {x:(Option Expr×Option Expr×Option Expr)×Pos // e=.Slice x.1.1 x.1.2.1 x.1.2.2 x.2}:=match e,xk e with
 | _,.slice a b c p=>some ⟨((a,b,c),p),rfl⟩
 | _,_=>none
noncomputable def oi(e:Expr):Option ((Option Expr×Option Expr×Option Expr)×Pos):=vw1 (pY e)
theorem lW{e:Expr}{x:(Option Expr×Option Expr×Option Expr)×Pos}:oi e=some x->e=.Slice x.1.1 x.1.2.1 x.1.2.2 x.2:=aK (o:=pY e)
noncomputable def ud(e:Expr):Option {x:Expr×List Expr×List Keyword×Pos // e=.Call x.1 x.2.1 x.2.2.1 x.2.2.2}:=match e,xk e with
 | _,.call f as ks p=>some ⟨(f,as,ks,p),rfl⟩
 | _,_=>none
noncomputable def pZ(e:Expr):Option (Expr×List Expr×List Keyword×Pos):=vw1 (ud e)
theorem xCall_e{e:Expr}{x:Expr×List Expr×List Keyword×Pos}:pZ e=some x->e=.Call x.1 x.2.1 x.2.2.1 x.2.2.2:=aK (o:=ud e)
noncomputable def zc(e:Expr):Option {x:List Expr×Nat×Pos // e=.Tuple x.1 x.2.1 x.2.2}:=match e,xk e with
 | _,.tup ts k p=>some ⟨(ts,k,p),rfl⟩
 | _,_=>none
noncomputable def xTup(e:Expr):Option (List Expr×Nat×Pos):=vw1 (zc e)
theorem Ai{e:Expr}{x:List Expr×Nat×Pos}:xTup e=some x->e=.Tuple x.1 x.2.1 x.2.2:=aK (o:=zc e)
noncomputable def ue(e:Expr):Option {x:List Expr×Pos // e=.List x.1 x.2}:=match e,xk e with
 | _,.list ts p=>some ⟨(ts,p),rfl⟩
 | _,_=>none
noncomputable def jw(e:Expr):Option (List Expr×Pos):=vw1 (ue e)
theorem p9{e:Expr}{x:List Expr×Pos}:jw e=some x->e=.List x.1 x.2:=aK (o:=ue e)
noncomputable def uf(e:Expr):Option {x:List (Option Expr)×List Expr×Pos // e=.Dict x.1 x.2.1 x.2.2}:=match e,xk e with
 | _,.dict a b p=>some ⟨(a,b,p),rfl⟩
 | _,_=>none
noncomputable def qa(e:Expr):Option (List (Option Expr)×List Expr×Pos):=vw1 (uf e)
theorem xi{e:Expr}{x:List (Option Expr)×List Expr×Pos}:qa e=some x->e=.Dict x.1 x.2.1 x.2.2:=aK (o:=uf e)
noncomputable def zd(e:Expr):Option {x:Expr×Operator×Expr×Pos // e=.BinOp x.1 x.2.1 x.2.2.1 x.2.2.2}:=match e,xk e with
 | _,.bin l op r p=>some ⟨(l,op,r,p),rfl⟩
 | _,_=>none
noncomputable def xBin(e:Expr):Option (Expr×Operator×Expr×Pos):=vw1 (zd e)
theorem Aj{e:Expr}{x:Expr×Operator×Expr×Pos}:xBin e=some x->e=.BinOp x.1 x.2.1 x.2.2.1 x.2.2.2:=aK (o:=zd e)
noncomputable def ug(e:Expr):Option {x:Expr×Pos // e=.Starred x.1 x.2}:=match e,xk e with
 | _,.star f p=>some ⟨(f,p),rfl⟩
 | _,_=>none
noncomputable def ze(e:Expr):Option (Expr×Pos):=vw1 (ug e)
theorem xj{e:Expr}{x:Expr×Pos}:ze e=some x->e=.Starred x.1 x.2:=aK (o:=ug e)
noncomputable def uh(e:Expr):Option {x:Lc // e=x.e}:=match e,xk e with
 | _,.comp c=>some ⟨c,rfl⟩
 | _,_=>none
noncomputable def qb(e:Expr):Option Lc:=vw1 (uh e)
theorem qc{e:Expr}{x:Lc}:qb e=some x->e=x.e:=aK (o:=uh e)
noncomputable def zf(e:Expr):Option {x:Str×Nat×Pos // e=.Constant (.str x.1) x.2.1 x.2.2}:=match e,xk e with
 | _,.const (.str k) n p=>some ⟨(k,n,p),rfl⟩
 | _,_=>none
noncomputable def xStr(e:Expr):Option (Str×Nat×Pos):=vw1 (zf e)
theorem xStr_e{e:Expr}{x:Str×Nat×Pos}:xStr e=some x->e=.Constant (.str x.1) x.2.1 x.2.2:=aK (o:=zf e)
noncomputable def zg(e:Expr):Option {x:Int×Nat×Pos // e=.Constant (.int x.1) x.2.1 x.2.2}:=match e,xk e with
 | _,.const (.int k) n p=>some ⟨(k,n,p),rfl⟩
 | _,_=>none
noncomputable def xInt(e:Expr):Option (Int×Nat×Pos):=vw1 (zg e)
theorem xInt_e{e:Expr}{x:Int×Nat×Pos}:xInt e=some x->e=.Constant (.int x.1) x.2.1 x.2.2:=aK (o:=zg e)
section
variable (I:Ev)
noncomputable def behind{α:Type}(v:AV)(m:EM α):EM α:=match vol v with
 | true=>still m
 | false=>m
noncomputable def evL(ls:Loc):List Expr->EM (List AV)
 | []=>ok []
 | e::r=>bd (wh (!du e) (I.e e ls)) λv=>bd (behind v (evL ls r)) λvs=>ok (v::vs)
noncomputable def evS:List Stmt->Loc->EM (Fl×Loc)
 | [],ls=>ok (.nx,ls)
 | s::r,ls=>bd (I.s s ls) λx=>match x.1 with
  | .nx=>evS r x.2
  | f=>ok (f,x.2)
noncomputable def ij:BoolOp->Bool->Bool
 | .And,b=>!b
 | .Or,b=>b
noncomputable def tAll(op:BoolOp)(ls:Loc):List Expr->EM Bool
 | []=>ok (ij op false)
 | e::r=>bd (I.t e ls) λb=>ei (ij op b) (ok b) (tAll op ls r)
noncomputable def vAll(op:BoolOp)(ls:Loc):List Expr->EM AV
 | []=>no
 | [e]=>I.e e ls
 | e::r=>bd (I.e e ls) λv=>bd (lU v) λc=>bd (br c) λb=>ei (ij op b) (ok v) (vAll op ls r)
noncomputable def binds:List Expr->List AV->Loc->EM Loc
 | [],[],ls=>ok ls
 | t::r,v::q,ls=>bd (opt (fJ t)) λx=>bd (asg ls x.1 (.v v)) λls=>binds r q ls
 | _1,_2,_3=>no
noncomputable def qd(y:Fl×Loc)(rt:Bool)(next:Loc->EM (Fl×Loc)):EM (Fl×Loc):=match y.1 with
 | .nx=>next y.2
 | .ct=>next y.2
 | .bk=>no
 | .rt v=>wh rt (ok (.rt v,⟨[],y.2.sc⟩))
noncomputable def ji(x:Str)(body:List Stmt):List AV->Loc->EM (Fl×Loc)
 | [],ls=>ok (.nx,ls)
 | i::r,ls=>bd (asg ls x (.v i)) λls1=>bd (evS I body ls1) λy=>qd y true λl=>ji x body r (back ls l)
noncomputable def uj(x:Str)(body:List Stmt):List Int->Loc->EM (Fl×Loc)
 | [],ls=>ok (.nx,ls)
 | i::r,ls=>bd (asg ls x (.v (.int i))) λls1=>bd (still (evS I body ls1)) λy=>qd y false λl=>uj x body r (back ls l)
noncomputable def jx(x:Str)(e:Expr)(ls:Loc):List Int->EM (List AV)
 | []=>ok []
 | i::r=>bd (I.e e (ls.put x (.v (.int i)))) λv=>wh (cI v) (bd (jx x e ls r) λq=>ok (v::q))
noncomputable def dy(t:Expr)(body:List Stmt):Nat->Loc->EM (Fl×Loc)
 | 0,ls=>bd (I.t t ls) λb=>wh (!b) (ok (.nx,ls))
 | k+1,ls=>bd (I.t t ls) λb=>wh b (bd (evS I body ls) λy=>qd y true λl=>dy t body k (back ls l))
end
noncomputable def xm(x:Str):Bool:=sl x "vtKey" || sl x "places"
noncomputable def qe(x:Str):Bool:=sl x "box" || sl x "tries"
noncomputable def lvV:LV->Option AV
 | .v a=>some a
 | _1=>none
noncomputable def zh(ls:Loc)(p:Str×NameKind):Option (Str×LV):=if p.2=.free then((ls.get p.1).bind lvV).map λa=>(p.1,.v a) else none
noncomputable def dW(ls:Loc):List (Str×NameKind)->List (Str×LV):=List.filterMap (zh ls)
noncomputable def uk(ls:Loc)(v:AV):EM (List Int):=vw (vIs v) ok (vw (vRg v) (λp=>ok (dM p.1 p.2.1 p.2.2)) (bd (opt (vLr v)) λx=>opt (j9 (ls.get x))))
noncomputable def ul(ls:Loc)(all:List (Str×NameKind))(p:Str×NameKind):Bool:=decide (ah p.1 all=some p.2/\(p.2=.local\/p.2=.globalImplicit\/(p.2=.free/\ah p.1 ls.sc=some .cell)))
noncomputable def isFn(k:ScopeKind):Bool:=decide (k=.function)
noncomputable def um(x:Str)(l:List (Str×NameKind)):Bool:=decide (ah x l=some .local)
noncomputable def un(ls:Loc)(x:Str)(sc:Scope)(a:Int):Bool:=isFn sc.kind&&a==0&&um x sc.names&&ao (dW ls sc.names)&&ao ls.v&&sc.names.all (ul ls sc.names)
noncomputable def uq(v:AV):EM (List AV):=vw (vL v) ok (vw (vIs v) (λxs=>ok (xs.map .int)) (bd (opt (vRg v)) λp=>ok ((dM p.1 p.2.1 p.2.2).map .int)))
noncomputable def dA(I:Ev)(ls:Loc)(q:Option Expr×Option Expr×Option Expr):EM Sl:=match q with
 | (none,none,some e)=>bd (I.e e ls) λv=>bd (opt (vI v)) λk=>bd (demD (k=-1)) λ_1=>ok .rev
 | (none,some e,none)=>bd (I.e e ls) λv=>bd (opt (vI v)) λk=>ok (.upto k)
 | (some e,none,none)=>bd (I.e e ls) λv=>bd (opt (vI v)) λk=>ok (.from_ k)
 | (some e,some e',none)=>bd (I.e e ls) λv=>bd (behind v (I.e e' ls)) λv'=>bd (opt (vI v)) λk=>bd (opt (vI v')) λk'=>ok (.between k k')
 | _1=>no
noncomputable def lX(I:Ev)(ls:Loc)(c:Lc):EM AV:=wh (!cY c.it&&un ls c.x c.sc c.a) (bd (I.e c.it ls) λv=>bd (uk ls v) λxs=>bd (dem (xs.length<=1000000)) λ_1=>bd (jx I c.x c.elt ⟨dW ls c.sc.names,c.sc.names⟩ xs) λq=>ok (bQ q))
noncomputable def ur(ls:Loc)(y:Str)(py:Pos)(sc:Scope)(cp:Pos):Bool:=um y ls.sc&&py.line==cp.line&&!(sc.names.any λ(n,k)=>n==y&&(k==.local || k==.cell))
noncomputable def kj(x:Str):Bool:=match x.cps.toList with
 | 95::95::_=>true
 | _1=>false
noncomputable def lvAV(x:Str):LV->AV
 | .v a=>a
 | _1=>.lref x
noncomputable def Ak(o:Option NameKind):Bool:=decide (o=some .globalImplicit)
noncomputable def uu(x:Str)(ls:Loc):EM AV:=vw (ls.get x) (λlv=>ok (lvAV x lv)) (wh (Ak (ah x ls.sc)) (opt (ah x pQ)))
noncomputable def zi(Ω:Om)(I:Ev)(ls:Loc)(f:Expr)(as:List Expr):EM AV:=bd (I.e f ls) λfv=>bd (evL I ls as) λvs=>vw (f6 fv) (λa=>gm Ω ls a vs) (y6 ls fv vs)
noncomputable def lY(Ω:Om)(I:Ev)(ls:Loc)(v:AV)(name:Str)(a e:Expr):EM AV:=bd (opt (ze e)) λq=>bd (opt (fJ q.1)) λx=>wh (!du a) (bd (I.e a ls) λva=>bd (I.e q.1 ls) λvt=>bd (opt (vTp vt)) λvs =>
 wh (cI va&&(bC vs&&Nat.ble vs.length 1000)) (bd (opt (ah name fG)) λf=>gm Ω ls f (v::va::vs)))
noncomputable def uw(Ω:Om)(I:Ev)(ls:Loc)(v:AV)(name:Str)(as:List Expr)(k:Keyword):EM AV:=bd (opt k.arg) λkn=>wh (sl kn "file_identifier") (bd (evL I ls as) λvs=>wh (bC vs) (bd (I.e k.value ls) λkv =>
 bd (opt (ah name fG)) λf=>wh (Nat.beq f kwF) (gm Ω ls f ((v::vs)++[kv]))))
noncomputable def lZ:List Expr->Bool
 | [_1,e]=>du e
 | _1=>false
noncomputable def qf(Ω:Om)(I:Ev)(ls:Loc)(v:AV)(name:Str)(as:List Expr)(ks:List Keyword):EM AV:=vw (one ks) (λk=>uw Ω I ls v name as k)
 (wh (nil ks) (ei (lZ as) (bd (opt (two as)) λp=>lY Ω I ls v name p.1 p.2) (bd (evL I ls as) λvs=>bd (opt (ah name fG)) λf=>gm Ω ls f (v::vs))))
noncomputable def zj(Ω:Om)(I:Ev)(ls:Loc)(o:Expr)(name:Str)(as:List Expr)(ks:List Keyword):EM AV:=bd (I.e o ls) λv=>vw (vB v) (λ_1=>qf Ω I ls v name as ks)
 (wh (nil ks) (bd (behind v (evL I ls as)) λvs=>za v name vs))
noncomputable def ux:Const->Option AV
 | .none=>some .none
 | .bool b=>some (.bool b)
 | .int i=>some (.int i)
 | .str s=>some (.str s)
 | .bytes b=>some (.bytes b)
 | _1=>none
noncomputable def two2{α:Type}(I:Ev)(ls:Loc)(l r:Expr)(f:AV->AV->EM α):EM α:=bd (I.e l ls) λa=>bd (behind a (I.e r ls)) λb=>f a b
noncomputable def okT{α:Type}(vs:List AV)(f:List AV->α):EM α:=wh (bC vs&&Nat.ble vs.length 1000) (ok (f vs))
noncomputable def zk(v:AV)(name:Str):EM AV:=vw (vB v) (λr=>yZ r name) (bd (opt (f6 v)) λa=>opt (pP a name clsL))
noncomputable def zl(Ω:Om)(I:Ev)(e:Expr)(ls:Loc):EM AV:=match e with
 | .Constant c _1 _2=>opt (ux c)
 | .Name x _1=>wh (!kj x) (uu x ls)
 | .BinOp l op r _1=>two2 I ls l r (tV op)
 | .UnaryOp op x _1=>bd (I.e x ls) λa=>unop op a
 | .BoolOp op vs _1=>vAll I op ls vs
 | .IfExp c a b _1=>bd (I.t c ls) λd=>ei d (I.e a ls) (I.e b ls)
 | .Compare l ops rs _1=>bd (opt (one ops)) λop=>bd (opt (one rs)) λr=>wh (!cY r) (two2 I ls l r λa b=>bd (cmp op a b) λc=>ok (.bool c))
 | .List es _1=>bd (evL I ls es) λvs=>okT vs bQ
 | .Tuple es _1 _2=>bd (evL I ls es) λvs=>okT vs .tup
 | .Attribute o name _1=>bd (opt (fJ o)) λ_1=>bd (I.e o ls) λv=>zk v name
 | .Subscript o i _1=>vw (oi i) (λq=>bd (I.e o ls) λv=>bd (behind v (dA I ls q.1)) λs=>kh v s) (two2 I ls o i (item ls))
 | .Call f as ks pos=>vw (jv f) (λq=>wh ((pZ q.1).isNone&&(q.2.2.endLine==pos.line&&Nat.ble as.length 20)) (zj Ω I ls q.1 q.2.1 as ks)) (wh (nil ks) (zi Ω I ls f as))
 | .ListComp elt gs sc cp=>bd (opt (qb (.ListComp elt gs sc cp))) λc=>lX I ls c
 | _1=>no
noncomputable def oj(op:CmpOp)(a b:AV):EM Bool:=bd (cmp op a b) br
noncomputable def stepT(Ω:Om)(I:Ev)(e:Expr)(ls:Loc):EM Bool:=match e with
 | .UnaryOp op x p=>match op with
  | .Not=>bd (I.t x ls) λb=>ok (!b)
  | op=>bd (I.e (.UnaryOp op x p) ls) λv=>bd (lU v) br
 | .BoolOp op vs _1=>tAll I op ls vs
 | .Compare l ops rs _1=>vw (two ops) (λp=>bd (opt (two rs)) λq=>wh (!cY q.2) (two2 I ls l q.1 λa b=>bd (oj p.1 a b) λd=>ei d (wh (!vol b) (bd (I.e q.2 ls) λb'=>oj p.2 b b')) (ok false)))
  (bd (opt (one ops)) λop=>bd (opt (one rs)) λr=>wh (!cY r) (two2 I ls l r (oj op)))
 | .IfExp ..=>no
 | e=>bd (I.e e ls) λv=>bd (lU v) br
noncomputable def db(I:Ev)(ls:Loc)(e:Expr):EM (List Int):=vw (jw e) (λq=>wh (nil q.1) (ok [])) (bd (opt (xBin e)) λq=>match q.2.1 with
 | .Mult=>bd (opt (jw q.1)) λ_1=>bd (I.e q.1 ls) λa=>bd (opt (vIs a)) λxs=>bd (opt (one xs)) λx=>bd (I.e q.2.2.1 ls) λv=>bd (opt (vI v)) λk=>bd (dem (-16777216<=k/\k<=16777216)) λ_1=>ok (List.replicate k.toNat x)
 | _1=>no)
noncomputable def refL:LV->Bool
 | .v a=>aX a
 | _1=>true
noncomputable def ol(l:List (Str×LV)):Bool:=eN refL l
noncomputable def kl(ls:Loc)(x:Str)(v:LV):EM (Fl×Loc):=wh ((ls.get x).isNone&&ol ls.v) (bd (asg ls x v) λls'=>ok (.nx,ls'))
noncomputable def om:AV->Bool
 | .ty n=>n=="bytearray"
 | _1=>false
noncomputable def l8(r:Nat)(c:Cp)(k:Int)(p:Int):EM Unit:=bd (be r c) λxs=>bd (dem (0<=k/\k < xs.length/\xs.length<=16777216)) λ_1=>gE r c (xs.set k.toNat p)
noncomputable def l9(r:Nat)(c:Cp)(s:Str)(p:Int):EM Unit:=ei (isSs c) (bd (getB r) λb=>bd (opt b.ss) λl=>bd (dem (l.length<=1000)) λ_1=>putB r { b with ss:=some (fH s p l) })
 (wh (tW c) (bd getM λm=>bd (dem (m.shr.length<=1000)) λ_1=>putM { m with shr:=fH s p m.shr }))
noncomputable def ma(r:Nat)(c:Cp)(x:List Int)(p:Int):EM Unit:=wh (isVt c) (bd (getB r) λb=>bd (dem (aN x b.vt=none/\b.vt.length<=1000)) λ_1=>putB r { b with vt:=b.vt++[(x,p)] })
noncomputable def mb(ls:Loc)(o i v:AV):EM Loc:=bd (opt (vI v)) λp =>
 vw (vC o) (λq=>bd (vw (vS i) (λs=>l9 q.1 q.2 s p) (vw (vIt i) (λx=>ma q.1 q.2 x p) (bd (opt (vI i)) λk=>l8 q.1 q.2 k p))) λ_1=>ok ls)
 (vw (vX o) (λr=>bd (opt (vI i)) λk=>wh (k==1) (bd (getX r) λx=>bd (putX r { x with pos:=p }) λ_1=>ok ls))
 (ei (ig o) (bd (opt (vS i)) λs=>wh (sl s "align") (bd getM λm=>bd (putM { m with align:=p }) λ_1=>ok ls))
 (bd (opt (vLr o)) λx=>bd (opt (j9 (ls.get x))) λxs=>bd (opt (vI i)) λk=>bd (dem (0<=k/\k < xs.length/\xs.length<=16777216)) λ_1=>ok (ls.put x (.own (xs.set k.toNat p))))))
noncomputable def me(ls:Loc)(o:AV)(s:Sl)(v:AV):EM Loc:=match s with
 | .between lo hi=>bd (opt (vC o)) λq=>wh (rO q.2) (bd (opt (vBy v)) λx=>bd (getB q.1) λb=>bd (dem (0<=lo/\lo<=hi/\hi<=b.bytes.length/\b.bytes.length<=16777216/\(x.length:Int)=hi-lo)) λ_1 =>
  bd (putB q.1 { b with bytes:=az b.bytes lo hi x }) λ_1=>ok ls)
 | .from_ lo=>bd (opt (vLr o)) λy=>bd (opt (vC v)) λq=>wh (rO q.2) (bd (getB q.1) λb'=>bd (opt (tU (ls.get y))) λb =>
  bd (dem (0<=lo/\lo<=b.length/\b.length<=16777216/\(b'.bytes.length:Int)=b.length-lo)) λ_1=>ok (ls.put y (.ownB (az b lo b.length b'.bytes))))
 | _1=>no
noncomputable def dJ{α:Type}(x:Str):List (Str×α)->List (Str×α)
 | []=>[]
 | p::r=>cond (sq x p.1) (dJ x r) (p::dJ x r)
noncomputable def uy(I:Ev)(ls:Loc)(x:Str)(e:Expr):EM (Fl×Loc):=wh (!cz e) (bd (I.e e ls) λv=>wh (aX v) (bd (asg ls x (.v v)) λls'=>ok (.nx,ls')))
noncomputable def qg(I:Ev)(ls:Loc)(o:Expr)(name:Str)(e:Expr):EM (Fl×Loc):=wh (!cz e) (two2 I ls e o λv ov=>wh (!(isNone v&&!ao ls.v)) (bd (opt (vB ov)) λr=>bd (setB r name v) λ_1=>ok (.nx,ls)))
noncomputable def jy(a:AV):Bool:=isNone a || ((vBo a).isSome || (vI a).isSome)
noncomputable def uz(v:Option LV):Bool:=(j9 v).isSome
noncomputable def uA(I:Ev)(ls:Loc)(y:Str)(p1:Pos)(a:Expr):EM (Fl×Loc):=bd (I.e (.Name y p1) ls) λo=>bd (opt (vLr o)) λz=>bd (opt (j9 (ls.get z))) λxs=>bd (evL I ls [a]) λvs=>bd (opt (one vs)) λv=>bd (opt (vI v)) λi =>
 bd (dem (xs.length<=16777215)) λ_1=>ok (.nx,ls.put z (.own (xs++[i])))
noncomputable def mf(I:Ev)(ls:Loc)(e o:Expr):EM (Fl×Loc):=bd (opt (fJ e)) λ_1=>bd (I.e e ls) λyv=>bd (opt (vLr yv)) λz=>bd (opt (tU (ls.get z))) λx=>bd (I.e o ls) λv=>bd (opt (vB v)) λr=>wh (ao ls.v)
 (bd (getB r) λb=>bd (putB r { b with bytes:=x }) λ_1=>ok (.nx,⟨dJ z ls.v,ls.sc⟩))
noncomputable def ik(e:Expr):Bool:=match qa e with
 | some q=>nil q.1&&nil q.2.1
 | none=>false
noncomputable def jz:Expr:=(sP (nth (sP (top 61)).2 3)).1
noncomputable def qh:Expr:=match qa jz with
 | some q=>q.2.1.getD 6 default
 | none=>default
noncomputable def qi(I:Ev)(ls:Loc)(x:Str)(e:Expr):EM (Fl×Loc):=bd (dem (e=jz)) λ_1=>bd (I.e qh ls) λv=>bd (opt (vBo v)) λf=>λg =>
 wh g.w.mn.isNone (bd (setW ⟨g.w.bs,some ⟨[],1,[],[],[],[],f⟩,g.w.bx⟩) λ_1=>bd (asg ls x (.v (.key .mine))) λls'=>ok (.nx,ls')) g
noncomputable def uB(I:Ev)(ls:Loc)(x:Str)(es:List Expr):EM (Fl×Loc):=bd (evL I ls es) λvs=>bd (opt (two vs)) λp=>bd (opt (vIs p.1)) λxs=>bd (opt (vI p.2)) λi=>λg =>
 bd (setW ⟨g.w.bs,g.w.mn,g.w.bx++[⟨xs,i⟩]⟩) (λ_1=>bd (asg ls x (.v (.key (.box g.w.bx.length)))) λls'=>ok (.nx,ls')) g
noncomputable def uC(I:Ev)(ls:Loc)(f:Expr)(as:List Expr):EM Int:=bd (I.e f ls) λfv=>wh (om fv) (bd (evL I ls as) λvs=>bd (opt (one vs)) λv=>bd (opt (vI v)) λk=>bd (dem (0<=k/\k<=16777216)) λ_1=>ok k)
noncomputable def qj(I:Ev)(ls:Loc)(x:Str)(f:Expr)(as:List Expr):EM (Fl×Loc):=bd (uC I ls f as) λk=>kl ls x (.ownB (List.replicate k.toNat 0))
noncomputable def qk:AV->Bool
 | .ty n=>n=="reversed"
 | _1=>false
noncomputable def uD(e:Expr):Bool:=match jw e with
 | some q=>nil q.1
 | none=>match xBin e with
  | some q=>(jw q.1).isSome&&(match q.2.1 with | .Mult=>true | _1=>false)
  | none=>false
structure Nc where
 x:Str
 px:Pos
 as:List Expr
 p:Pos
noncomputable def Nc.e(q:Nc):Expr:=.Call (.Name q.x q.px) q.as [] q.p
noncomputable def ql(e:Expr)(n:String):Option {x:Nc // e=x.e/\sl x.x n=true}:=match e,xk e with
 | _,.call f as [] p=>match f,xk f with
  | _,.name x px=>if h:sl x n=true then some ⟨⟨x,px,as,p⟩,rfl,h⟩ else none
  | _,_=>none
 | _,_=>none
noncomputable def km(e:Expr)(n:String):Option Nc:=vw1 (ql e n)
theorem im{e:Expr}{n:String}{x:Nc}:km e n=some x->e=x.e/\sl x.x n=true:=aK (o:=ql e n)
noncomputable def qm(I:Ev)(ls:Loc)(x:Str)(px:Pos)(e:Expr):EM (Fl×Loc):=vw (qb e) (λc=>wh (ur ls x px c.sc c.cp) (bd (lX I ls c) λv=>bd (asg ls x (.v v)) λls'=>ok (.nx,ls')))
 (ei (xm x&&uD e) (bd (db I ls e) λxs=>kl ls x (.own xs))
 (ei (sl x "mine") (qi I ls x e)
 (vw (match qe x with | true=>jw e | false=>none) (λq=>uB I ls x q.1)
 (vw (km e "bytearray") (λq=>qj I ls x (.Name q.x q.px) q.as) (uy I ls x e)))))
noncomputable def qn(I:Ev)(ls:Loc)(o:Expr)(name:Str)(e:Expr):EM (Fl×Loc):=ei (sl name "current_vtable"&&uD e) (bd (db I ls e) λxs=>bd (I.e o ls) λv=>bd (opt (vB v)) λr=>wh (ao ls.v) (bd (getB r) λb=>bd (putB r { b with cv:=some xs }) λ_1=>ok (.nx,ls)))
 (ei (ik e) (bd (I.e o ls) λv=>bd (opt (vB v)) λr=>wh (ao ls.v) (bd (getB r) λb=>ei (sl name "vtables") (bd (putB r { b with vt:=[] }) λ_1=>ok (.nx,ls)) (wh (sl name "sharedStrings") (bd (putB r { b with ss:=some [] }) λ_1=>ok (.nx,ls)))))
 (ei (sl name "Bytes") (mf I ls e o) (qg I ls o name e)))
noncomputable def uE(I:Ev)(ls:Loc)(o i:Expr)(e:Expr):EM (Fl×Loc):=wh (!cz e) (two2 I ls e o λv ov =>
 vw (oi i) (λq=>bd (still (dA I ls q.1)) λs=>bd (me ls ov s v) λls'=>ok (.nx,ls')) (bd (behind ov (I.e i ls)) λk=>bd (mb ls ov k v) λls'=>ok (.nx,ls')))
noncomputable def zm(I:Ev)(ls:Loc)(e:Expr):EM (Fl×Loc):=wh (!cz e) (bd (I.e e ls) λv=>wh (jy v) (ok (.nx,ls)))
structure Ap where
 y:Str
 p1:Pos
 a:Expr
 p2:Pos
 p3:Pos
 name:Str
noncomputable def Ap.e(q:Ap):Expr:=.Call (.Attribute (.Name q.y q.p1) q.name q.p2) [q.a] [] q.p3
noncomputable def zn(e:Expr):Option {x:Ap // e=x.e/\sl x.name "append"=true/\(x.p2.endLine==x.p3.line)=true}:=match e,xk e with
 | _,.call f [a] [] p3=>match f,xk f with
  | _,.attr o n p2=>match o,xk o with
   | _,.name y p1=>if h:sl n "append"=true/\(p2.endLine==p3.line)=true then some ⟨⟨y,p1,a,p2,p3,n⟩,rfl,h⟩ else none
   | _,_=>none
  | _,_=>none
 | _,_=>none
noncomputable def xApp(e:Expr):Option Ap:=vw1 (zn e)
theorem Am{e:Expr}{x:Ap}:xApp e=some x->e=x.e/\sl x.name "append"=true/\(x.p2.endLine==x.p3.line)=true:=aK (o:=zn e)
noncomputable def oq(ls:Loc)(e:Expr):Option Ap:=match xApp e with
 | some q=>match uz (ls.get q.y) with
  | true=>some q
  | false=>none
 | none=>none
noncomputable def zo(Ω:Om)(I:Ev)(s:Stmt)(ls:Loc):EM (Fl×Loc):=match s with
 | .Pass _1=>ok (.nx,ls)
 | .Continue _1=>ok (.ct,ls)
 | .Return v _1=>vw v (λe=>bd (I.e e ls) λv=>ok (.rt v,ls)) (ok (.rt .none,ls))
 | .If t a b _1=>bd (I.t t ls) λd=>ei d (evS I a ls) (evS I b ls)
 | .While t body els _1=>wh (nil els) (bd turns λk=>dy I t body k ls)
 | .For x it body els _1=>wh (nil els) (bd (opt (fJ x)) λq=>vw (km it "reversed") (λc=>bd (I.e (.Name c.x c.px) ls) λfv=>wh (qk fv) (bd (evL I ls c.as) λvs=>bd (opt (one vs)) λv=>bd (opt (vC v)) λc=>wh (lQ c.2) (bd (be c.1 c.2) λxs=>uj I q.1 body xs.reverse ls)))
  (wh (!cY it) (bd (I.e it ls) λv=>bd (uq v) λxs=>ji I q.1 body xs ls)))
 | .Expr e _1=>vw (oq ls e) (λq=>uA I ls q.y q.p1 q.a) (zm I ls e)
 | .AugAssign t op e _1=>bd (opt (fJ t)) λq=>wh (!kj q.1) (bd (opt (ls.get q.1)) λlv=>match lv with
  | .v a=>wh (!vol a) (bd (I.e e ls) λb=>bd (iop op a b) λv=>bd (asg ls q.1 (.v v)) λls'=>ok (.nx,ls'))
  | _1=>no)
 | .Assign ts e _1=>bd (opt (one ts)) λt=>vw (fJ t) (λq=>qm I ls q.1 q.2 e) (vw (jv t) (λq=>qn I ls q.1 q.2.1 e) (vw (xSub t) (λq=>uE I ls q.1 q.2.1 e)
  (bd (opt (xTup t)) λq=>wh (!(cz e)&&(xTup e).isNone) (bd (I.e e ls) λv=>bd (opt (vTp v)) λvs=>bd (binds q.1 vs ls) λls'=>ok (.nx,ls')))))
 | _1=>no
noncomputable def step(Ω:Om)(I:Ev):Ev:=⟨zl Ω I,stepT Ω I,zo Ω I⟩
noncomputable def ev(Ω:Om):Nat->Ev
 | 0=>.none
 | n+1=>step Ω (ev Ω n)
end
end
section
open PySem PySem.W PyProof.Rows PySem.Calls
section
noncomputable def kL:Nat->List Obj->Frag
 | _1,[]=>[]
 | i,o::r=>match o.isFreed with
  | true=>kL (i+1) r
  | false=>(i,o)::kL (i+1) r
noncomputable def KP(P:Params):Frag:=kL 0 (h1 P).objs.toList
noncomputable abbrev LawQ(s:Shared):Value->Shared->Prop:=λv s'=>v=.bool true/\(∀ b o,s.heap.get? b=some o->s'.heap.get? b=some o)/\s'.gens=s.gens/\s'.os=s.os
noncomputable def mh(w:World):Prop:=∀ (s:Shared),(KP w.params).In s.heap->∀ (xs:List Int) (a:Addr) (vs:List Value),xs.length<=63->s.heap.IsList a vs.toArray->IntsAre vs xs ->
 wpC (model pw w) callerA (call (.ref lawA) [.ref a]) (LawQ s) (λ_1 _2=>False) s
theorem someW:Nonempty World:=⟨aWorld 0⟩
noncomputable def w0:World:=@Classical.epsilon World someW λw=>¬ mh w
theorem every(h:mh w0)(w:World):mh w:=Classical.byContradiction λn=>Classical.epsilon_spec (p:=λw=>¬ mh w) ⟨w,n⟩ h
noncomputable def K0:Frag:=KP w0.params
noncomputable abbrev M0:Model:=model pw w0
theorem lq_e:∀{a b:List Nat},lq a b=true->a=b
 | [],[],_1=>rfl
 | [],_1::_,h=>(Bool.false_ne_true h).elim
 | _1::_,[],h=>(Bool.false_ne_true h).elim
 | a::x,b::y,h=>by
  have h:(match Nat.beq a b with | true=>lq x y | false=>false)=true:=h
  cases e:Nat.beq a b <;> rw [e] at h
  . cases h
  . rw [Nat.eq_of_beq_eq_true e,lq_e h]
theorem lq_r:∀ a:List Nat,lq a a=true
 | []=>rfl
 | a::x=>by
  show(match Nat.beq a a with | true=>lq x x | false=>false)=true
  rw [Nat.beq_refl]; exact lq_r x
theorem bZ{a b:Str}:sq a b=true↔a=b:=⟨λh=>by obtain⟨⟨a⟩⟩:=a; obtain⟨⟨b⟩⟩:=b; rw [show a=b from lq_e h],λh=>h▸lq_r _⟩
theorem bm{a:Str}{b:String}:sl a b=true↔a=Str.ofString b:=bZ
theorem mj{a b:Str}(h:sq a b=false):a≠b:=λe=>by rw [bZ.mpr e] at h; cases h
theorem uF{a b:Str}(h:a≠b):sq a b=false:=Bool.eq_false_iff.mpr λe=>h (bZ.mp e)
theorem uG(a:Str):sq a a=true:=bZ.mpr rfl
theorem dY{α:Type}(x:Str)(l:List (Str×α)):ah x l=l.lookup x:=by
 induction l with
 | nil=>rfl
 | cons p r ih =>
  obtain⟨y,v⟩:=p
  rw [bn,List.lookup_cons,ih]
  cases h:sq x y with
  | true=>rw [beq_iff_eq.mpr (bZ.mp h)]; rfl
  | false=>rw [beq_eq_false_iff_ne.mpr (mj h)]; rfl
theorem ou{α:Type}(x:Str)(v:α)(l:List (Str×α)):ah x (jh x v l)=some v:=by
 induction l with
 | nil=>exact bn.trans (by rw [uG]; rfl)
 | cons p r ih =>
  show ah x (cond (sq x p.1) ((p.1,v)::r) (p::jh x v r))=_
  cases h:sq x p.1 with
  | true=>exact bn.trans (by rw [h]; rfl)
  | false=>exact bn.trans (by rw [h]; exact ih)
theorem gn{α:Type}{x y:Str}(v:α)(h:y≠x)(l:List (Str×α)):ah y (jh x v l)=ah y l:=by
 induction l with
 | nil=>exact bn.trans (by rw [uF h]; rfl)
 | cons p r ih =>
  show ah y (cond (sq x p.1) ((p.1,v)::r) (p::jh x v r))=_
  cases e:sq x p.1 with
  | true=>exact bn.trans (.trans (by rw [show sq y p.1=false from uF (bZ.mp e▸h)]; rfl) bn.symm)
  | false=>exact bn.trans (.trans (by rw [ih]) bn.symm)
noncomputable abbrev Fz:=Addr->Prop
structure St where
 S:Fz
 α:Key->Addr
 s:Shared
noncomputable abbrev St.h(σ:St):Heap:=σ.s.heap
noncomputable def cB(b:List UInt8):Obj:={ cls:=.type "bytearray",data:=.bytearray b.toArray 0 }
structure SeqAt(p:Addr->Array Value->Prop)(σ:St)(R:List Value->Prop)(v:Value):Prop where
 x:∃ a vs,v=.ref a/\σ.S a/\p a vs.toArray/\R vs
mutual
noncomputable def RD(σ:St):AV->Value->Prop
 | .none,v=>v=.none
 | .bool b,v=>v=.bool b
 | .int i,v=>∃ t,v=.int i t
 | .str x,v=>∃ t,v=.str x t
 | .bytes b,v=>∃ t,v=.bytes b.toArray t
 | .barr b,v=>∃ a,v=.ref a/\σ.S a/\σ.h.get? a=some (cB b)
 | .ty n,v=>v=.type n
 | .bi n,v=>v=.builtin n
 | .top a,v=>v=.ref a
 | .key _1,_2=>False
 | .lref _1,_2=>False
 | .rng a c n,v=>∃ r b t u z,v=.ref r/\σ.S r/\IsRange σ.h r a b c t u z/\Builtin.Range.rangeSize a b c=n/\Builtin.Range.small a b c=true
 | .ints xs,v=>∃ a vs,v=.ref a/\σ.S a/\σ.h.IsList a vs.toArray/\IntsAre vs xs
 | .itup xs,v=>∃ a vs,v=.ref a/\σ.S a/\IsTup σ.h a vs.toArray/\IntsAre vs xs
 | .list xs,v=>∃ a vs,v=.ref a/\σ.S a/\σ.h.IsList a vs.toArray/\RDs σ xs vs
 | .tup xs,v=>∃ a vs,v=.ref a/\σ.S a/\IsTup σ.h a vs.toArray/\RDs σ xs vs
noncomputable def RDs(σ:St):List AV->List Value->Prop
 | [],vs=>vs=[]
 | a::r,vs=>∃ v q,vs=v::q/\RD σ a v/\RDs σ r q
end
structure bW(σ σ':St):Prop where
 sub:∀ a,σ.S a->σ'.S a
 same:∀ a o,σ.S a->σ.h.get? a=some o->σ'.h.get? a=some o
section
variable {σ σ':St}
theorem bW.list(k:bW σ σ'){a:Addr}{its:Array Value}(s:σ.S a)(x:σ.h.IsList a its):σ'.h.IsList a its:=x.imp λo r=>⟨k.same a o s r.1,r.2⟩
theorem bW.tup(k:bW σ σ'){a:Addr}{its:Array Value}(s:σ.S a)(x:IsTup σ.h a its):IsTup σ'.h a its:=x.imp λo r=>⟨k.same a o s r.1,r.2⟩
mutual
theorem RD.keep(k:bW σ σ'):∀{a:AV}{v:Value},RD σ a v->RD σ' a v
 | .none,_1,x=>x
 | .bool _1,_2,x=>x
 | .int _1,_2,x=>x
 | .str _1,_2,x=>x
 | .bytes _1,_2,x=>x
 | .barr _1,_2,x=>x.imp λa y=>⟨y.1,k.sub a y.2.1,k.same a _ y.2.1 y.2.2⟩
 | .ty _1,_2,x=>x
 | .bi _1,_2,x=>x
 | .top _1,_2,x=>x
 | .key _1,_2,x=>x
 | .lref _1,_2,x=>x
 | .rng _1 _2 _3,_4,x=>x.imp λr x=>x.imp λ_1 x=>x.imp λ_1 x=>x.imp λ_1 x=>x.imp λ_1 y=>⟨y.1,k.sub r y.2.1,k.same r _ y.2.1 y.2.2.1,y.2.2.2⟩
 | .ints _1,_2,x=>x.imp λa x=>x.imp λ_1 y=>⟨y.1,k.sub a y.2.1,k.list y.2.1 y.2.2.1,y.2.2.2⟩
 | .itup _1,_2,x=>x.imp λa x=>x.imp λ_1 y=>⟨y.1,k.sub a y.2.1,k.tup y.2.1 y.2.2.1,y.2.2.2⟩
 | .list _1,_2,x=>x.imp λa x=>x.imp λ_1 y=>⟨y.1,k.sub a y.2.1,k.list y.2.1 y.2.2.1,RDs.keep k y.2.2.2⟩
 | .tup _1,_2,x=>x.imp λa x=>x.imp λ_1 y=>⟨y.1,k.sub a y.2.1,k.tup y.2.1 y.2.2.1,RDs.keep k y.2.2.2⟩
theorem RDs.keep(k:bW σ σ'):∀{a:List AV}{v:List Value},RDs σ a v->RDs σ' a v
 | [],_1,x=>x
 | _1::_,_,x=>x.imp λ_1 x=>x.imp λ_1 y=>⟨y.1,RD.keep k y.2.1,RDs.keep k y.2.2⟩
end
end
noncomputable def slI:Option Int->Value->Prop
 | none,v=>v=.none
 | some i,v=>∃ t,v=.int i t
noncomputable def slN:Option (Option Int)->Option Value->Prop
 | none,v=>v=none
 | some x,v=>∃ u,v=some u/\slI x u
noncomputable def ko(c:Bool)(a:Addr):Value:=match c with
 | true=>.ref a
 | false=>.none
structure bR(α:Key->Addr)(r:Nat)(b:BS)(sl:Nat->Option Value):Prop where
 s0:sl 0=some (.ref (α (.comp r .bytes)))
 s1:sl 1=some (ko b.cv.isSome (α (.comp r .cv)))
 s2:sl 2=some (.bool b.fin)
 s3:sl 3=some (.bool b.force)
 s4:∃ t,sl 4=some (.int b.head t)
 s5:∃ t,sl 5=some (.int b.minalign t)
 s6:sl 6=some (.bool b.nested)
 s7:∃ u,sl 7=some u/\slI b.objectEnd u
 s8:sl 8=some (ko b.ss.isSome (α (.comp r .ss)))
 s9:slN b.vecN (sl 9)
 s10:sl 10=some (.ref (α (.comp r .vt)))
noncomputable def io(o:Obj)(i:Nat):Option Value:=(o.slots[i]?).join
noncomputable def ar{K:Type}:List (K×Value)->List (K×Int)->Prop
 | [],l=>l=[]
 | (k,v)::r,l=>∃ i q,l=(k,i)::q/\(∃ t,v=.int i t)/\ar r q
structure cU(o:Obj)(its:Array Value):Prop where
 c:o.cls=.type "list"
 d:o.dict=none
 s:∃ n,o.data=.seq its n
noncomputable abbrev gz:KeyKind pw w0 Str:=strKind pw w0
noncomputable abbrev uH:HeapKind pw w0 (List Int):=tupleKind (intKind pw w0)
structure VtO(σ:St)(l:List (List Int×Int))(o:Obj)(xs:List (List Int×Addr×Value)):Prop where
 ex:o.ExactDict
 es:∃ es ep,o.data=.dict es ep/\es.toList=xs.map (entryOfKey uH)
 ks:∀ x∈xs,σ.S x.2.1/\uH.is σ.h x.1 x.2.1
 nd:(xs.map (·.1)).Nodup
 iv:ar (kvsOf xs) l
noncomputable def cK(σ:St):List (List Int)->List Value->Prop
 | [],vs=>vs=[]
 | x::r,vs=>∃ v q,vs=v::q/\RD σ (.ints x) v/\cK σ r q
noncomputable def bp(α:Key->Addr)(m:Mn)(t:Tok):List (Str×Value) :=
 [(Str.ofString "rear",.ref (α (.comp 0 .rear))),(Str.ofString "align",.int m.align t),(Str.ofString "rows",.ref (α (.comp 0 .rows))),(Str.ofString "stand",.ref (α (.comp 0 .stand))),
  (Str.ofString "shared",.ref (α (.comp 0 .shr))),(Str.ofString "made",.ref (α (.comp 0 .made))),(Str.ofString "forced",.bool m.forced)]
noncomputable def bS(o:Obj)(xs:List Int):Prop:=∃ vs:List Value,cU o vs.toArray/\IntsAre vs xs
noncomputable def DicS(o:Obj)(l:List (Str×Int)):Prop:=∃ kvs,o.IsDictOf gz kvs/\ar kvs l
structure f7(σ:St)(r:Nat)(b:BS)(o:Obj):Prop where
 c:o.cls=.ref CB
 p:o.data=.plain
 z:o.slots.size=11
 d:∃ dx,o.dict=some dx/\σ.S dx/\σ.h.get? dx=some emptyDict
 s:bR σ.α r b (io o)
noncomputable def dc(σ:St)(r:Nat)(b:BS):Cp->Obj->Prop
 | .bytes,o=>o=cB b.bytes
 | .cv,o=>∃ xs,b.cv=some xs/\bS o xs
 | .vt,o=>∃ xs,VtO σ b.vt o xs
 | .ss,o=>∃ l,b.ss=some l/\DicS o l
 | _1,_2=>False
noncomputable def fc(σ:St)(m:Mn):Cp->Obj->Prop
 | .rear,o=>bS o m.rear
 | .stand,o=>bS o m.stand
 | .made,o=>bS o m.made
 | .rows,o=>∃ vs:List Value,cU o vs.toArray/\cK σ m.rows vs
 | .shr,o=>DicS o m.shr
 | _1,_2=>False
noncomputable def BoxO(σ:St)(x:Bx)(o:Obj):Prop:=∃ u t,RD σ (.ints x.items) u/\cU o #[u,.int x.pos t]
noncomputable def b9(σ:St)(w:W)(r:Nat)(c:Cp)(o:Obj):Bool->Prop
 | true=>∃ b,w.bs[r]?=some b/\dc σ r b c o
 | false=>r=0/\∃ m,w.mn=some m/\fc σ m c o
noncomputable def Rep(σ:St)(w:W):Key->Obj->Prop
 | .bld r,o=>∃ b,w.bs[r]?=some b/\f7 σ r b o
 | .comp r c,o=>b9 σ w r c o (aI c)
 | .mine,o=>∃ m t,w.mn=some m/\o.IsDictOf gz (bp σ.α m t)
 | .box r,o=>∃ x,w.bx[r]?=some x/\BoxO σ x o
noncomputable def ce(b:BS):Cp->Bool
 | .bytes=>true
 | .vt=>true
 | .cv=>b.cv.isSome
 | .ss=>b.ss.isSome
 | _1=>false
noncomputable def bH(w:W)(r:Nat)(c:Cp):Bool->Prop
 | true=>(w.bs[r]?.any λb=>ce b c)=true
 | false=>r=0/\w.mn.isSome=true
noncomputable def live(w:W):Key->Prop
 | .bld r=>(w.bs[r]?).isSome=true
 | .comp r c=>bH w r c (aI c)
 | .mine=>w.mn.isSome=true
 | .box r=>(w.bx[r]?).isSome=true
structure aj(w:W)(σ:St):Prop where
 base:K0.In σ.h
 baseS:∀ a o,K0.lookup a=some o->σ.S a
 frz:∀ a,σ.S a->∃ o,σ.h.get? a=some o
 at_:∀ k,live w k->∃ o,σ.h.get? (σ.α k)=some o/\Rep σ w k o
 inj:∀ k k',live w k->live w k'->σ.α k=σ.α k'->k=k'
 apart:∀ k,live w k->¬ σ.S (σ.α k)
noncomputable def RV(σ:St)(w:W)(π:Str->Addr):AV->Value->Prop
 | .key q,v=>live w q/\v=.ref (σ.α q)
 | .lref x,v=>v=.ref (π x)
 | a,v=>RD σ a v
theorem RV.of{σ:St}{w:W}{π:Str->Addr}{v:Value}{a:AV}(h:cI a=true):RV σ w π a v↔RD σ a v:=by
 cases a <;> first | exact .rfl | exact xFT h
section
variable {σ σ':St}{w:W}
theorem cK.keep(k:bW σ σ'):∀{xs:List (List Int)}{vs:List Value},cK σ xs vs->cK σ' xs vs
 | [],_1,x=>x
 | _1::_,_,x=>x.imp λ_1 x=>x.imp λ_1 y=>⟨y.1,RD.keep k (a:=.ints _) y.2.1,cK.keep k y.2.2⟩
theorem VtO.keep(k:bW σ σ'){l:List (List Int×Int)}{o:Obj}{xs:List (List Int×Addr×Value)}(x:VtO σ l o xs):VtO σ' l o xs :=
 ⟨x.ex,x.es,λy hy=>⟨k.sub _ (x.ks y hy).1,(x.ks y hy).2.imp λo e=>e.imp λ_1 e=>e.imp λ_1 e=>⟨k.same _ o (x.ks y hy).1 e.1,e.2⟩⟩,x.nd,x.iv⟩
theorem f7.keep(k:bW σ σ')(ha:σ'.α=σ.α){r:Nat}{b:BS}{o:Obj}(x:f7 σ r b o):f7 σ' r b o :=
 ⟨x.c,x.p,x.z,x.d.imp λ_1 y=>⟨y.1,k.sub _ y.2.1,k.same _ _ y.2.1 y.2.2⟩,ha▸x.s⟩
theorem dc.keep(k:bW σ σ'){r:Nat}{b:BS}{o:Obj}:∀{c:Cp},dc σ r b c o->dc σ' r b c o
 | .bytes,x=>x
 | .cv,x=>x
 | .vt,x=>x.imp λ_1 x=>x.keep k
 | .ss,x=>x
theorem fc.keep(k:bW σ σ'){m:Mn}{o:Obj}:∀{c:Cp},fc σ m c o->fc σ' m c o
 | .rear,x=>x
 | .stand,x=>x
 | .made,x=>x
 | .rows,x=>x.imp λ_1 x=>⟨x.1,x.2.keep k⟩
 | .shr,x=>x
theorem b9.keep(k:bW σ σ'){r:Nat}{c:Cp}{o:Obj}:∀{d:Bool},b9 σ w r c o d->b9 σ' w r c o d
 | true,x=>x.imp λ_1 y=>⟨y.1,y.2.keep k⟩
 | false,x=>⟨x.1,x.2.imp λ_1 y=>⟨y.1,y.2.keep k⟩⟩
theorem Rep.keep(k:bW σ σ')(ha:σ'.α=σ.α){o:Obj}:∀{q:Key},Rep σ w q o->Rep σ' w q o
 | .bld _1,x=>x.imp λ_1 y=>⟨y.1,y.2.keep k ha⟩
 | .comp r c,x=>b9.keep k (d:=aI c) x
 | .mine,x=>by unfold Rep at x ⊢; rw [ha]; exact x
 | .box _1,x=>x.imp λ_1 y=>⟨y.1,y.2.imp λ_1 z=>z.imp λ_1 z=>⟨RD.keep k (a:=.ints _) z.1,z.2⟩⟩
end
end
end
section
open PySem PySem.W PyProof.Rows PySem.Calls
section
structure Mv(w:W)(σ:St)(w':W)(σ':St):Prop where
 sub:∀ a,σ.S a->σ'.S a
 pres:∀ a o,σ.h.get? a=some o->(∀ q,live w q->σ.α q≠a)->σ'.h.get? a=some o
 grow:∀ a o,σ.h.get? a=some o->∃ o',σ'.h.get? a=some o'
 fnew:∀ a,σ'.S a->σ.S a\/σ.h.get? a=none
 anew:∀ q,live w' q->(live w q/\σ'.α q=σ.α q)\/σ.h.get? (σ'.α q)=none
 astab:∀ q,live w q->rM q=false->live w' q/\σ'.α q=σ.α q
 good:aj w' σ'
 gens:σ'.s.gens=σ.s.gens
 os:σ'.s.os=σ.s.os
section
variable {w w' w'':W}{σ σ' σ'':St}{g g' g'':G}{nv:Bool}{n:Nat}
theorem Mv.keep(g:aj w σ)(m:Mv w σ w' σ'):bW σ σ':=⟨m.sub,λa o f e=>m.pres a o e λq l e'=>g.apart q l (e'▸f)⟩
theorem Mv.refl(g:aj w σ):Mv w σ w σ:=⟨λ_1 x=>x,λ_1 _2 e _3=>e,λ_1 o e=>⟨o,e⟩,λ_1 x=>.inl x,λ_1 l=>.inl ⟨l,rfl⟩,λ_1 l _2=>⟨l,rfl⟩,g,rfl,rfl⟩
theorem Mv.fresh(m:Mv w σ w' σ'){a:Addr}(h:σ'.h.get? a=none):σ.h.get? a=none:=by
 cases e:σ.h.get? a with
 | none=>rfl
 | some o=>exact nomatch h.symm.trans (m.grow a o e).choose_spec
theorem Mv.trans(m:Mv w σ w' σ')(n:Mv w' σ' w'' σ''):Mv w σ w'' σ'' where
 sub a x:=n.sub a (m.sub a x)
 pres a o e no:=n.pres a o (m.pres a o e no) λq l e'=>(m.anew q l).elim (λh=>no q h.1 (h.2.symm.trans e')) λh=>nomatch (e'▸h).symm.trans e
 grow a o e:=(m.grow a o e).elim λo' e'=>n.grow a o' e'
 fnew a x:=(n.fnew a x).elim (m.fnew a) λh=>.inr (m.fresh h)
 anew q l:=(n.anew q l).elim (λh=>(m.anew q h.1).imp (λk=>⟨k.1,h.2.trans k.2⟩) λk=>h.2.symm▸k) λh=>.inr (m.fresh h)
 astab q l v:=⟨(n.astab q (m.astab q l v).1 v).1,(n.astab q (m.astab q l v).1 v).2.trans (m.astab q l v).2⟩
 good:=n.good
 gens:=n.gens.trans m.gens
 os:=n.os.trans m.os
structure au(nv:Bool)(g:G)(σ:St)(g':G)(σ':St):Prop where
 mv:Mv g.w σ g'.w σ'
 calm:g'.wr=false->g.wr=false/\g'.w=g.w/\σ'.α=σ.α
 held:nv=false->∀ q,live g.w q->live g'.w q/\σ'.α q=σ.α q
theorem au.same(x:aj g.w σ)(e:g'.w=g.w)(e':g'.wr=g.wr):au nv g σ g' σ:=⟨by rw [e]; exact .refl x,λz=>⟨e'▸z,e,rfl⟩,λ_1 q l=>⟨e▸l,rfl⟩⟩
theorem au.refl(x:aj g.w σ):au nv g σ g σ:=.same x rfl rfl
theorem au.trans(x:au nv g σ g' σ')(y:au nv g' σ' g'' σ''):au nv g σ g'' σ'' :=
 ⟨x.mv.trans y.mv,λz=>⟨(x.calm (y.calm z).1).1,(y.calm z).2.1.trans (x.calm (y.calm z).1).2.1,(y.calm z).2.2.trans (x.calm (y.calm z).1).2.2⟩,
  λz q l=>⟨(y.held z q (x.held z q l).1).1,(y.held z q (x.held z q l).1).2.trans (x.held z q l).2⟩⟩
theorem au.good(p:au nv g σ g' σ'):aj g'.w σ':=p.mv.good
theorem aj.ext{S':Fz}{s':Shared}(x:aj w σ)(e:∀ a o,σ.h.get? a=some o->s'.heap.get? a=some o)(sub:∀ a,σ.S a->S' a)(new:∀ a,S' a->σ.S a\/(σ.h.get? a=none/\∃ o,s'.heap.get? a=some o)):aj w ⟨S',σ.α,s'⟩ where
 base:=x.base.keeps e
 baseS a o h:=sub a (x.baseS a o h)
 frz a h:=(new a h).elim (λy=>(x.frz a y).imp λo z=>e a o z) λy=>y.2
 at_ q l:=(x.at_ q l).imp λo h=>⟨e _ _ h.1,Rep.keep (σ:=σ) (σ':=⟨S',σ.α,s'⟩) ⟨sub,λa o _1 h=>e a o h⟩ rfl h.2⟩
 inj:=x.inj
 apart q l h:=(new _ h).elim (x.apart q l) λy=>(x.at_ q l).elim λo z=>nomatch y.1.symm.trans z.1
theorem au.ext{S':Fz}{s':Shared}(x:aj g.w σ)(ew:g'.w=g.w)(er:g'.wr=g.wr)(e:∀ a o,σ.h.get? a=some o->s'.heap.get? a=some o)(sub:∀ a,σ.S a->S' a)
 (new:∀ a,S' a->σ.S a\/(σ.h.get? a=none/\∃ o,s'.heap.get? a=some o)) (hg:s'.gens=σ.s.gens) (ho:s'.os=σ.s.os):au nv g σ g' ⟨S',σ.α,s'⟩ :=
 ⟨⟨sub,λa o h _1=>e a o h,λa o h=>⟨o,e a o h⟩,λa h=>(new a h).imp id And.left,λq l=>.inl ⟨ew▸l,rfl⟩,λq l _1=>⟨ew▸l,rfl⟩,ew▸x.ext e sub new,hg,ho⟩,λz=>⟨er▸z,ew,rfl⟩,λ_1 q l=>⟨ew▸l,rfl⟩⟩
noncomputable abbrev St.to(σ:St)(h:Heap)(t:Nat):St:=⟨σ.S,σ.α,{ σ.s with heap:=h,toks:=t }⟩
noncomputable abbrev St.tok(σ:St)(t:Nat):St:=σ.to σ.h t
theorem au.stay{h:Heap}{t:Nat}(x:aj g.w σ)(ew:g'.w=g.w)(er:g'.wr=g.wr)(e:∀ a o,σ.h.get? a=some o->h.get? a=some o):au nv g σ g' (σ.to h t):=.ext x ew er e (λ_1 y=>y) (λ_1 y=>.inl y) rfl rfl
theorem au.tok{t:Nat}(x:aj g.w σ)(ew:g'.w=g.w)(er:g'.wr=g.wr):au nv g σ g' (σ.tok t):=.stay x ew er λ_1 _2 e=>e
theorem get?_size{h:Heap}:h.get? h.objs.size=none:=by
 cases e:h.get? h.objs.size with
 | none=>rfl
 | some o=>exact absurd (Heap.lt_size e) (Nat.lt_irrefl _)
noncomputable abbrev St.new(σ:St)(o:Obj)(t:Nat):St:=⟨λb=>σ.S b\/b=σ.h.objs.size,σ.α,{ σ.s with heap:=σ.h.push o,toks:=t }⟩
theorem au.new{t:Nat}{o:Obj}(x:aj g.w σ)(ew:g'.w=g.w)(er:g'.wr=g.wr)(hf:o.isFreed=false):au nv g σ g' (σ.new o t) :=
 .ext x ew er (λa o h=>Heap.get?_push_of_some _ h) (λa h=>.inl h) (λa h=>h.imp id λe=>by rw [e]; exact⟨get?_size,_,Heap.get?_push_size _ hf⟩) rfl rfl
theorem bW.new{t:Nat}{o:Obj}:bW σ (σ.new o t):=⟨λ_1=>.inl,λ_1 _2 _3 h=>Heap.get?_push_of_some _ h⟩
noncomputable abbrev But(a:Addr)(h h':Heap):Prop:=∀ b o,b≠a->h.get? b=some o->h'.get? b=some o
theorem SameBut.but{p:Addr}{h h':Heap}(hb:Heap.SameBut p h h'):But p h h':=λb o e h=>(hb.2 b e).trans h
structure Upd(w w':W)(σ:St)(q0:Key)(h':Heap):Prop where
 l0:live w q0
 lv:∀ q,live w' q->live w q
 sb:But (σ.α q0) σ.h h'
 hn:∃ o',h'.get? (σ.α q0)=some o'/\Rep σ w' q0 o'
 hr:∀ q o,q≠q0->live w' q->Rep σ w q o->Rep σ w' q o
theorem Upd.other{q0:Key}{h':Heap}(u:Upd w w' σ q0 h')(x:aj w σ){a:Addr}(h:σ.S a):h'.get? a=σ.h.get? a:=(x.frz a h).elim λo z=>(u.sb a o (λe=>x.apart q0 u.l0 (e▸h)) z).trans z.symm
theorem Upd.good{q0:Key}{h':Heap}{t:Nat}(u:Upd w w' σ q0 h')(x:aj w σ):aj w' (σ.to h' t) where
 base a o h:=(u.other x (x.baseS a o h)).trans (x.base a o h)
 baseS:=x.baseS
 frz a h:=(x.frz a h).imp λo z=>(u.other x h).trans z
 at_ q l:=by
  have kp:bW σ (σ.to h' t):=⟨λ_1 h=>h,λa o h e=>(u.other x h).trans e⟩
  by_cases e:q=q0
  . exact e▸u.hn.imp λo h=>⟨h.1,h.2.keep kp rfl⟩
  . exact(x.at_ q (u.lv q l)).imp λo h=>⟨u.sb _ o (λe'=>e (x.inj q q0 (u.lv q l) u.l0 e')) h.1,(u.hr q o e l h.2).keep kp rfl⟩
 inj a b la lb:=x.inj a b (u.lv a la) (u.lv b lb)
 apart q l:=x.apart q (u.lv q l)
theorem Upd.post{q0:Key}{h':Heap}{t:Nat}(u:Upd g.w g'.w σ q0 h')(x:aj g.w σ)(er:g'.wr=true)(lk:∀ q,live g.w q->rM q=false\/nv=false->live g'.w q):au nv g σ g' (σ.to h' t) :=
 ⟨⟨λ_1 h=>h,λa o h no=>u.sb a o (λe=>no q0 u.l0 e.symm) h,λa o h=>(Classical.em (a=σ.α q0)).elim (λe=>by rw [e]; exact u.hn.imp λ_1 h=>h.1) (λe=>⟨o,u.sb a o e h⟩),
  λ_1 h=>.inl h,λq l=>.inl ⟨u.lv q l,rfl⟩,λq l v=>⟨lk q l (.inl v),rfl⟩,u.good x,rfl,rfl⟩,λz=>(nomatch er.symm.trans z),λv q l=>⟨lk q l (.inr v),rfl⟩⟩
noncomputable def bz(n:Nat)(A:Around):Prop:=A.depth+n<=900/\A.units+30*n<=9000/\A.handled=none/\A.guards=some []/\(∃ l,A.frames=some l)
theorem bz.less{m:Nat}{A:Around}(h:m<=n)(r:bz n A):bz m A:=⟨Nat.le_trans (Nat.add_le_add_left h _) r.1,Nat.le_trans (Nat.add_le_add_left (Nat.mul_le_mul_left 30 h) _) r.2.1,r.2.2⟩
theorem bz.lt{A:Around}(r:bz n A):A.units < cLine:=Nat.lt_of_le_of_lt (Nat.le_trans (Nat.le_add_right _ _) r.2.1) (by decide)
theorem bz.lt1{A:Around}(r:bz n A):A.in1.units < cLine:=Nat.lt_of_le_of_lt (Nat.succ_le_succ (Nat.le_trans (Nat.le_add_right _ _) r.2.1)) (by decide)
end
noncomputable def Wp{β:Type}(n:Nat)(σ:St)(c:Sem β)(Φ:β->St->Prop):Prop:=∀ A (Q:β->Shared->Prop) E,bz n A->(∀ b σ',Φ b σ'->Q b σ'.s)->wpC M0 A c Q E σ.s
noncomputable def CWp(n:Nat)(σ:St)(c:Code)(Φ:Value->St->Prop):Prop:=∀ A (Q:Result->Shared->Prop),bz n A->(∀ b σ',Φ b σ'->Q (.ok (.ret b)) σ'.s)->aT M0 A c Q σ.s
theorem CWp.call{n:Nat}{σ:St}{f:Value}{us:List Value}{kw:List (Str×Value)}{Φ:Value->St->Prop}(x:CWp n σ (.call f ⟨us,kw⟩) Φ):Wp n σ (call f us kw) Φ:=λA Q E r q=>cq (x A _ r λb σ' h=>q b σ' h)
namespace Wp
variable {β γ:Type}{n:Nat}{σ:St}{c:Sem β}{Φ Ψ:β->St->Prop}
theorem bind{d:β->Sem γ}{Φ:γ->St->Prop}(x:Wp n σ c λb σ1=>Wp n σ1 (d b) Φ):Wp n σ (c >>= d) Φ:=λA Q E r h=>ad (x A _ E r λb σ1 y=>y A Q E r h)
theorem mono(x:Wp n σ c Φ)(h:∀ b σ',Φ b σ'->Ψ b σ'):Wp n σ c Ψ:=λA Q E r q=>x A Q E r λb σ' p=>q b σ' (h b σ' p)
theorem bnd{d:β->Sem γ}{Ψ:γ->St->Prop}(x:Wp n σ c Φ)(h:∀ b σ1,Φ b σ1->Wp n σ1 (d b) Ψ):Wp n σ (c >>= d) Ψ:=bind (x.mono h)
theorem pure{b:β}(h:Φ b σ):Wp n σ (pure b) Φ:=λ_1 _2 _3 _4 q=>ae (q b σ h)
theorem hold{vs:List Value}(x:Wp n σ c Φ):Wp n σ (holding vs c) Φ:=λA Q E r q=>ag (x A Q E r q)
theorem stand{pos:Pos}(x:Wp n σ c Φ):Wp n σ (do standAt pos; c) Φ:=λA Q E r q=>ad (aq (x A Q E r q))
theorem rel{a b:List Value}(x:Wp n σ c Φ):Wp n σ (do release a b; c) Φ:=λA Q E r q=>ad (cn (x A Q E r q))
theorem oper{vs:List Value}{c:Sem Value}{Φ:Value->St->Prop}(x:Wp n σ c Φ):Wp n σ (operate vs c) Φ:=λA Q E r q=>dP (x A Q E r q)
theorem less{m:Nat}(h:m<=n)(x:Wp m σ c Φ):Wp n σ c Φ:=λA Q E r q=>x A Q E (r.less h) q
theorem any(h:∀ A (Q:β->Shared->Prop) E,bz n A->(∀ b σ',Φ b σ'->Q b σ'.s)->wpAny M0 A c Q E σ.s):Wp n σ c Φ:=λA Q E r q=>.of (h A Q E r q)
end Wp
noncomputable def Al{α:Type}(m:EM α)(g:G)(P:α->G->Prop):Prop:=∀ k,m g k->∃ a g',P a g'/\k a g'
namespace Al
variable {α β:Type}{m m':EM α}{g:G}{P R:α->G->Prop}{f:α->EM β}{Q:β->G->Prop}{a:α}
theorem ok(h:P a g):Al (Internal.ok a) g P:=λk e=>⟨a,g,h,e⟩
theorem no:Al (Internal.no:EM α) g P:=λk e=>e.elim
theorem opt{x:Option α}(h:∀ a,x=some a->P a g):Al (Internal.opt x) g P:=λk e=>by
 cases x with
 | none=>exact e.elim
 | some a=>exact⟨a,g,h a rfl,e⟩
theorem imp(h:Al m g R)(f:∀ a g1,R a g1->P a g1):Al m g P:=λk e=>(h k e).imp λa y=>y.imp λg1 z=>⟨f a g1 z.1,z.2⟩
theorem bd(h:Al m g R)(k:∀ a g1,R a g1->Al (f a) g1 Q):Al (Internal.bd m f) g Q:=λK e=>(h _ e).elim λa y=>y.elim λg1 z=>k a g1 z.1 K z.2
theorem bdo{x:Option α}(h:∀ a,x=some a->Al (f a) g Q):Al (Internal.bd (Internal.opt x) f) g Q:=λK e=>by
 cases x with
 | none=>exact e.elim
 | some a=>exact h a rfl K e
theorem dem{p:Prop}{f:Unit->EM β}(h:p->Al (f ()) g Q):Al (Internal.bd (Internal.dem p) f) g Q:=λK e=>h e.1 K e.2
theorem demD{p:Prop}[Decidable p]{f:Unit->EM β}(h:p->Al (f ()) g Q):Al (Internal.bd (Internal.demD p) f) g Q:=λK e=>by
 by_cases c:p
 . exact h c K (by unfold Internal.bd Internal.demD at e; rw [decide_eq_true c] at e; exact e)
 . unfold Internal.bd Internal.demD at e; rw [decide_eq_false c] at e; exact e.elim
theorem br1{c:Bool}{P:Bool->G->Prop}(h:P c g):Al (Internal.br c) g P:=λK e=>⟨c,g,h,by cases c <;> exact e⟩
theorem br{c:Bool}{f:Bool->EM β}(h:Al (f c) g Q):Al (Internal.bd (Internal.br c) f) g Q:=bd (R:=λd g1=>d=c/\g1=g) (br1 ⟨rfl,rfl⟩) λd g1 r=>r.1▸r.2▸h
theorem turn{f:Nat->EM β}(h:∀ d,Al (f d) g Q):Al (Internal.bd Internal.turns f) g Q:=λK e=>e.elim λn e=>h n K e
theorem setW{w:W}{f:Unit->EM β}(h:Al (f ()) ⟨w,true⟩ Q):Al (Internal.bd (Internal.setW w) f) g Q:=h
theorem still(h:Al m ⟨g.w,false⟩ λa g1=>g1.wr=false->P a ⟨g1.w,g.wr⟩):Al (Internal.still m) g P:=λK e=>(h _ e).imp λa y=>y.elim λg1 z=>by
 refine x02 z λz z2=>?_
 cases hw:g1.wr <;> rw [hw] at z2
 . exact⟨_,z hw,z2⟩
 . exact z2.elim
theorem wh{c:Bool}(h:c=true->Al m g P):Al (Internal.wh c m) g P:=by
 cases c with
 | true=>exact h rfl
 | false=>exact no
theorem ei{c:Bool}(h:c=true->Al m g P)(h':c=false->Al m' g P):Al (Internal.ei c m m') g P:=by
 cases c with
 | true=>exact h rfl
 | false=>exact h' rfl
theorem vw{x:Option β}{f:β->EM α}(h:∀ b,x=some b->Al (f b) g P)(h':x=none->Al m' g P):Al (Internal.vw x f m') g P:=by
 cases x with
 | none=>exact h' rfl
 | some b=>exact h b rfl
theorem getB{r:Nat}{f:BS->EM β}(h:∀ b,g.w.bs[r]?=some b->Al (f b) g Q):Al (Internal.bd (Internal.getB r) f) g Q:=bdo h
theorem getX{r:Nat}{f:Bx->EM β}(h:∀ b,g.w.bx[r]?=some b->Al (f b) g Q):Al (Internal.bd (Internal.getX r) f) g Q:=bdo h
theorem getM{f:Mn->EM β}(h:∀ b,g.w.mn=some b->Al (f b) g Q):Al (Internal.bd Internal.getM f) g Q:=bdo h
end Al
end
end
section
open PySem PySem.W PyProof.Rows PySem.Calls
section
noncomputable def aO(σ:St)(w:W)(a:Addr):Prop:=¬ σ.S a/\(∀ q,live w q->σ.α q≠a)/\∃ o,σ.h.get? a=some o
structure Fr' where
 env:Env
 π:Str->Addr
 X:Addr->Prop
noncomputable def eT:LV->Bool
 | .v _1=>false
 | _1=>true
noncomputable def LR(σ:St)(w:W)(π:Str->Addr)(x:Str):LV->Value->Prop
 | .v a,v=>RV σ w π a v
 | .own xs,v=>v=.ref (π x)/\∃ o,σ.h.get? (π x)=some o/\bS o xs
 | .ownB b,v=>v=.ref (π x)/\σ.h.get? (π x)=some (cB b)
noncomputable abbrev uI(ls:Loc)(x:Str):Prop:=ah x ls.sc≠none
structure FrS(F:Fr')(ls:Loc):Prop where
 fn:F.env.scope.kind=.function
 gl:F.env.globals=mainGlobals
 bl:F.env.builtins=builtinsNs
 kinds:∀ x kd,ah x ls.sc=some kd->F.env.kindOf x=some kd\/(kd=.free/\F.env.kindOf x=some .cell)
 dom:∀ x v,ah x ls.v=some v->uI ls x/\(F.env.kindOf x=some .local\/F.env.kindOf x=some .cell\/F.env.kindOf x=some .free)
 locB:F.X F.env.locals
 celL:∀ x,F.env.kindOf x=some .cell\/F.env.kindOf x=some .free->uI ls x->∃ c,F.env.cells.lookup x=some c
 celB:∀ x c,F.env.cells.lookup x=some c->ah x ls.sc=some .cell->F.X c
 celI:∀ x y c,F.env.cells.lookup x=some c->F.env.cells.lookup y=some c->x=y
 ownB:∀ x v,ah x ls.v=some v->eT v=true->F.X (F.π x)
 ownI:∀ x y v u,ah x ls.v=some v->eT v=true->ah y ls.v=some u->eT u=true->F.π x=F.π y->x=y
structure FrD(F:Fr')(ls:Loc)(w:W)(σ:St):Prop where
 xP:∀ a,F.X a->aO σ w a
 celP:∀ x c,F.env.cells.lookup x=some c->uI ls x->aO σ w c/\∃ v,σ.h.IsCell c v
 loc:∃ m,σ.h.Ns F.env.locals m/\∀ x v,ah x ls.v=some v->F.env.kindOf x=some .local->∃ u,m x=some u/\LR σ w F.π x v u
 cel:∀ x c v,F.env.cells.lookup x=some c->F.env.kindOf x≠some .local->ah x ls.v=some v->∃ u,σ.h.IsCell c (some u)/\LR σ w F.π x v u
structure Inv(F:Fr')(ls:Loc)(w:W)(σ:St):Prop where
 gd:aj w σ
 fs:FrS F ls
 fd:FrD F ls w σ
section
variable {w w':W}{σ σ':St}{g g':G}{nv:Bool}{n:Nat}{π:Str->Addr}{F:Fr'}{ls:Loc}
theorem aO.mv{a:Addr}(p:aO σ w a)(m:Mv w σ w' σ'):aO σ' w' a/\σ'.h.get? a=σ.h.get? a :=
 p.2.2.elim λo e=>⟨⟨λh=>(m.fnew a h).elim p.1 λy=>(nomatch e.symm.trans y),λq l h=>(m.anew q l).elim (λy=>p.2.1 q y.1 (y.2.symm.trans h)) λy=>(nomatch (h▸y).symm.trans e),o,m.pres a o e p.2.1⟩,(m.pres a o e p.2.1).trans e.symm⟩
theorem RV.post{a:AV}{v:Value}(x:aj g.w σ)(p:au nv g σ g' σ')(ha:vol a=false\/nv=false\/(g'.w=g.w/\σ'.α=σ.α))(h:RV σ g.w π a v):RV σ' g'.w π a v:=by
 cases a with
 | key q =>
  have t:live g'.w q/\σ'.α q=σ.α q:=ha.elim (λy=>p.mv.astab q h.1 y) λy=>y.elim (λy=>p.held y q h.1) λy=>⟨y.1▸h.1,y.2▸rfl⟩
  exact⟨t.1,h.2.trans (by rw [t.2])⟩
 | lref y=>exact h
 | _=>exact RD.keep (p.mv.keep x) h
theorem bJ{p:LV->Bool}{y:Str}{v:LV}{r:List (Str×LV)}(h:eN p ((y,v)::r)=true):p v=true/\eN p r=true:=by
 have h:(match p v with | true=>eN p r | false=>false)=true:=h
 cases e:p v <;> rw [e] at h
 . cases h
 . exact⟨rfl,h⟩
theorem gF{p:LV->Bool}{y:Str}{v:LV}{r:List (Str×LV)}(h:p v=true)(h':eN p r=true):eN p ((y,v)::r)=true:=by
 show(match p v with | true=>eN p r | false=>false)=true
 rw [h]; exact h'
theorem f8{p:LV->Bool}{x:Str}{v:LV}:∀{l:List (Str×LV)},eN p l=true->ah x l=some v->p v=true
 | (y,b)::r,h,e=>by
  have e:cond (sq x y) (some b) (ah x r)=some v:=bn.symm.trans e
  cases hs:sq x y <;> rw [hs] at e
  . exact f8 (bJ h).2 e
  . rw [<- Option.some.inj e]; exact(bJ h).1
theorem ip{l:List (Str×LV)}{x:Str}{a:AV}(h:ao l=true)(e:ah x l=some (.v a)):vol a=false:=by
 have:=f8 h e
 cases hv:vol a
 . rfl
 . rw [show yQ (.v a)=!vol a from rfl,hv] at this; cases this
theorem LR.stay{x:Str}{v:LV}{u:Value}(hr:∀ a,v=.v a->RV σ w π a u->RV σ' w' π a u)(ho:eT v=true->σ'.h.get? (π x)=σ.h.get? (π x))(l:LR σ w π x v u):LR σ' w' π x v u:=by
 cases v with
 | v a=>exact hr a rfl l
 | own xs=>exact⟨l.1,l.2.imp λo e=>⟨(ho rfl).trans e.1,e.2⟩⟩
 | ownB b=>exact⟨l.1,(ho rfl).trans l.2⟩
theorem Inv.post(i:Inv F ls g.w σ)(p:au (ao ls.v) g σ g' σ'):Inv F ls g'.w σ':=by
 have lr:∀ {x v u},ah x ls.v=some v->LR σ g.w F.π x v u->LR σ' g'.w F.π x v u:=λhx l=>l.stay (λa e r=>RV.post i.gd p (by
  cases hn:ao ls.v with
  | true=>exact .inl (ip hn (e▸hx))
  | false=>exact .inr (.inl rfl)) r) λo=>((i.fd.xP _ (i.fs.ownB _ _ hx o)).mv p.mv).2
 have cell:∀ {c v},aO σ g.w c->σ.h.IsCell c v->σ'.h.IsCell c v:=λhp h=>h.imp λo e=>⟨((hp.mv p.mv).2).trans e.1,e.2⟩
 refine⟨p.good,i.fs,λa h=>((i.fd.xP a h).mv p.mv).1,λx c e d=>⟨((i.fd.celP x c e d).1.mv p.mv).1,(i.fd.celP x c e d).2.imp λv h=>cell (i.fd.celP x c e d).1 h⟩,?_,λx c v e hk hx=>?_⟩
 . exact i.fd.loc.imp λm h=>⟨h.1.imp λo e=>e.imp λes e=>e.imp λep e=>⟨(((i.fd.xP _ i.fs.locB).mv p.mv).2).trans e.1,e.2⟩,λx v e k=>(h.2 x v e k).imp λu h=>⟨h.1,lr e h.2⟩⟩
 . exact(i.fd.cel x c v e hk hx).imp λu h=>⟨cell (i.fd.celP x c e (i.fs.dom x v hx).1).1 h.1,lr hx h.2⟩
theorem Inv.ww(i:Inv F ls w σ)(e:w'=w):Inv F ls w' σ:=e▸i
theorem kr{x:Str}(h:kj x=false):(x==("__debug__":Str))=false/\(x==("__classdict__":Str))=false:=by
 constructor <;> refine beq_eq_false_iff_ne.mpr λe=>?_ <;> subst e <;> revert h <;> decide
theorem LR.val{x:Str}{v:LV}{u:Value}(l:LR σ w π x v u):RV σ w π (lvAV x v) u:=by
 cases v with
 | v a=>exact l
 | own xs=>exact l.1
 | ownB b=>exact l.1
theorem Inv.look(i:Inv F ls w σ){x:Str}{v:LV}(hx:ah x ls.v=some v)(hd:kj x=false):∃ u,LR σ w F.π x v u/\∀ A (Q:Value->Shared->Prop) E,Q u σ.s->wpAny M0 A (loadName F.env x) Q E σ.s:=by
 have cl:F.env.kindOf x=some .cell\/F.env.kindOf x=some .free->F.env.kindOf x≠some .local->∃ u,LR σ w F.π x v u/\∀ A (Q:Value->Shared->Prop) E,Q u σ.s->wpAny M0 A (loadName F.env x) Q E σ.s:=λhk hn =>
  (i.fs.celL x hk (i.fs.dom x v hx).1).elim λc e=>(i.fd.cel x c v e hn hx).imp λu h=>⟨h.2,λA Q E q=>hk.elim (λk=>wpAny_loadName_cell i.fs.fn k e h.1 q) λk=>wpAny_loadName_free i.fs.fn k e h.1 q (kr hd).2⟩
 rcases(i.fs.dom x v hx).2 with d | d
 . exact i.fd.loc.elim λm h=>(h.2 x v hx d).imp λu e=>⟨e.2,λA Q E q=>wpAny_loadName_local i.fs.fn d h.1 e.1 q⟩
 . exact cl d λz=>by rcases d with d | d <;> exact nomatch z.symm.trans d
theorem aj.lone{a:Addr}{h':Heap}{t:Nat}(x:aj w σ)(hP:¬ σ.S a)(hq:∀ q,live w q->σ.α q≠a)(hb:∀ b o,b≠a->σ.h.get? b=some o->h'.get? b=some o):aj w (σ.to h' t) where
 base b o h:=hb b o (λe=>hP (e▸x.baseS b o h)) (x.base b o h)
 baseS:=x.baseS
 frz b h:=(x.frz b h).imp λo z=>hb b o (λe=>hP (e▸h)) z
 at_ q l:=(x.at_ q l).imp λo h=>⟨hb _ _ (hq q l) h.1,Rep.keep (σ:=σ) (σ':=σ.to h' t) ⟨λ_1 h=>h,λb o h e=>hb b o (λz=>hP (z▸h)) e⟩ rfl h.2⟩
 inj:=x.inj
 apart:=x.apart
end
end
end
section
open PySem PySem.W PyProof.Rows PySem.Calls
section
structure PR{β:Type}(nv:Bool)(g:G)(σ:St)(g':G)(R:β->St->Prop)(b:β)(σ':St):Prop where
 po:au nv g σ g' σ'
 rv:R b σ'
noncomputable abbrev ER(nv:Bool)(g:G)(σ:St)(v:AV)(g':G)(π:Str->Addr):Value->St->Prop:=PR nv g σ g' λu σ'=>RV σ' g'.w π v u
noncomputable def RVL(σ:St)(w:W)(π:Str->Addr):List AV->List Value->Prop
 | [],vs=>vs=[]
 | a::r,vs=>∃ v q,vs=v::q/\RV σ w π a v/\RVL σ w π r q
noncomputable def Rn{β:Type}(n:Nat)(ls:Loc)(g:G)(c:Fr'->Sem β)(R:W->Fr'->β->St->Prop)(g':G):Prop:=∀ F σ,Inv F ls g.w σ->Wp n σ (c F) (PR (ao ls.v) g σ g' (R g'.w F))
noncomputable abbrev Vv(v:AV)(w:W)(F:Fr')(u:Value)(σ:St):Prop:=RV σ w F.π v u
noncomputable abbrev Vb(b:Bool)(w:W)(F:Fr')(c:Bool)(σ:St):Prop:=c=b
noncomputable abbrev Vl(vs:List AV)(w:W)(F:Fr')(us:List Value)(σ:St):Prop:=RVL σ w F.π vs us
noncomputable abbrev EOk(n:Nat)(e:Expr)(ls:Loc)(g:G)(v:AV)(g':G):Prop:=Rn n ls g (λF=>eval e F.env) (Vv v) g'
noncomputable abbrev TOk(n:Nat)(e:Expr)(ls:Loc)(g:G)(b:Bool)(g':G):Prop:=Rn n ls g (λF=>isTrue e F.env (eval e F.env)) (Vb b) g'
noncomputable abbrev LOk(n:Nat)(pos:Pos)(es:List Expr)(ls:Loc)(g:G)(vs:List AV)(g':G):Prop:=Rn n ls g (λF=>spliced (backTo pos (starEach es F.env))) (Vl vs) g'
structure SMv(X:Addr->Prop)(w:W)(σ:St)(w':W)(σ':St):Prop where
 sub:∀ a,σ.S a->σ'.S a
 pres:∀ a o,σ.h.get? a=some o->¬ X a->(∀ q,live w q->σ.α q≠a)->σ'.h.get? a=some o
 grow:∀ a o,σ.h.get? a=some o->∃ o',σ'.h.get? a=some o'
 fnew:∀ a,σ'.S a->σ.S a\/σ.h.get? a=none
 anew:∀ q,live w' q->(live w q/\σ'.α q=σ.α q)\/(σ.h.get? (σ'.α q)=none\/X (σ'.α q))
 astab:∀ q,live w q->rM q=false->live w' q/\σ'.α q=σ.α q
 good:aj w' σ'
 gens:σ'.s.gens=σ.s.gens
 os:σ'.s.os=σ.s.os
structure aL(X:Addr->Prop)(g:G)(σ:St)(g':G)(σ':St):Prop where
 mv:SMv X g.w σ g'.w σ'
 calm:g'.wr=false->g.wr=false/\g'.w=g.w/\σ'.α=σ.α
noncomputable def fe(σ:St)(w:W)(π:Str->Addr):Fl->Flow->Prop
 | .nx,f=>f=.next
 | .ct,f=>f=.cont
 | .bk,f=>f=.brk
 | .rt v,f=>∃ u,f=.ret u/\RV σ w π v u
structure SR(F:Fr')(g:G)(σ:St)(x:Fl×Loc)(g':G)(f:Flow)(σ':St):Prop where
 po:aL F.X g σ g' σ'
 ex:∃ π' X',(∀ a,X' a->F.X a\/σ.h.get? a=none)/\fe σ' g'.w π' x.1 f/\FrS ⟨F.env,π',X'⟩ x.2/\FrD ⟨F.env,π',X'⟩ x.2 g'.w σ'
noncomputable def SOk(n:Nat)(st:Stmt)(ls:Loc)(g:G)(x:Fl×Loc)(g':G):Prop:=∀ F σ,Inv F ls g.w σ->Wp n σ (exec st F.env) (SR F g σ x g')
noncomputable def BOk(n:Nat)(b:List Stmt)(ls:Loc)(g:G)(x:Fl×Loc)(g':G):Prop:=∀ F σ,Inv F ls g.w σ->Wp n σ (execs b F.env) (SR F g σ x g')
structure Snd(n:Nat)(I:Ev):Prop where
 e:∀ e ls g,Al (I.e e ls) g (EOk n e ls g)
 t:∀ e ls g,Al (I.t e ls) g (TOk n e ls g)
 s:∀ st ls g,Al (I.s st ls) g (SOk n st ls g)
theorem Snd.none{n:Nat}:Snd n Ev.none:=⟨λ_1 _2 _3=>.no,λ_1 _2 _3=>.no,λ_1 _2 _3=>.no⟩
section
variable {w w' w'':W}{σ σ' σ'':St}{g g' g'':G}{nv:Bool}{n:Nat}{π:Str->Addr}{F:Fr'}{ls:Loc}{X X':Addr->Prop}{v:AV}
theorem Mv.toS(m:Mv w σ w' σ'):SMv X w σ w' σ':=⟨m.sub,λa o e _1=>m.pres a o e,m.grow,m.fnew,λq l=>(m.anew q l).imp id .inl,m.astab,m.good,m.gens,m.os⟩
theorem au.toS(p:au nv g σ g' σ'):aL X g σ g' σ':=⟨p.mv.toS,p.calm⟩
theorem SMv.fresh(m:SMv X w σ w' σ'){a:Addr}(h:σ'.h.get? a=none):σ.h.get? a=none:=by
 cases e:σ.h.get? a with
 | none=>rfl
 | some o=>exact nomatch h.symm.trans (m.grow a o e).choose_spec
theorem SMv.trans(hx:∀ a,X' a->X a\/σ.h.get? a=none)(m:SMv X w σ w' σ')(n:SMv X' w' σ' w'' σ''):SMv X w σ w'' σ'' where
 sub a x:=n.sub a (m.sub a x)
 pres a o e b no:=n.pres a o (m.pres a o e b no) (λz=>(hx a z).elim b λz'=>nomatch e.symm.trans z') λq l e'=>(m.anew q l).elim (λh=>no q h.1 (h.2.symm.trans e')) λh=>h.elim (λh=>nomatch (e'▸h).symm.trans e) λh=>b (e'▸h)
 grow a o e:=(m.grow a o e).elim λo' e'=>n.grow a o' e'
 fnew a x:=(n.fnew a x).elim (m.fnew a) λh=>.inr (m.fresh h)
 anew q l:=(n.anew q l).elim (λh=>(m.anew q h.1).imp (λk=>⟨k.1,h.2.trans k.2⟩) λk=>h.2.symm▸k) λh=>.inr (h.elim (λh=>.inl (m.fresh h)) λh=>(hx _ h).symm)
 astab q l v:=⟨(n.astab q (m.astab q l v).1 v).1,(n.astab q (m.astab q l v).1 v).2.trans (m.astab q l v).2⟩
 good:=n.good
 gens:=n.gens.trans m.gens
 os:=n.os.trans m.os
theorem aL.trans(hx:∀ a,X' a->X a\/σ.h.get? a=none)(x:aL X g σ g' σ')(y:aL X' g' σ' g'' σ''):aL X g σ g'' σ'' :=
 ⟨x.mv.trans hx y.mv,λz=>⟨(x.calm (y.calm z).1).1,(y.calm z).2.1.trans (x.calm (y.calm z).1).2.1,(y.calm z).2.2.trans (x.calm (y.calm z).1).2.2⟩⟩
theorem aL.keep(gd:aj g.w σ)(hX:∀ a,σ.S a->¬ X a)(p:aL X g σ g' σ'):bW σ σ':=⟨p.mv.sub,λa o f e=>p.mv.pres a o e (hX a f) λq l e'=>gd.apart q l (e'▸f)⟩
theorem SR.of{x:Fl×Loc}{f:Flow}(p:aL F.X g σ g' σ')(hf:fe σ' g'.w F.π x.1 f)(i:Inv F x.2 g'.w σ'):SR F g σ x g' f σ':=⟨p,F.π,F.X,λ_1=>.inl,hf,i.fs,i.fd⟩
theorem SR.pre{x:Fl×Loc}{f:Flow}(p:aL F.X g σ g' σ')(r:SR F g' σ' x g'' f σ''):SR F g σ x g'' f σ'' :=
 ⟨p.trans (λ_1=>.inl) r.po,r.ex.imp λπ' h=>h.imp λX' h=>⟨λa z=>(h.1 a z).imp id p.mv.fresh,h.2⟩⟩
theorem SR.seq{l1:Loc}{x:Fl×Loc}{c:Sem Flow}(r:SR F g σ (.nx,l1) g' .next σ')(h:∀ F',F'.env=F.env->Inv F' l1 g'.w σ'->Wp n σ' c (SR F' g' σ' x g'')):Wp n σ' c (SR F g σ x g'') :=
 r.ex.elim λπ' h'=>h'.elim λX' h'=>(h ⟨F.env,π',X'⟩ rfl ⟨r.po.mv.good,h'.2.2.1,h'.2.2.2⟩).mono λf σ'' r2 =>
  ⟨r.po.trans h'.1 r2.po,r2.ex.imp λπ2 h2=>h2.imp λX2 h2=>⟨λa z=>(h2.1 a z).elim (h'.1 a) λz=>.inr (r.po.mv.fresh z),h2.2⟩⟩
theorem RV.quiet{a:AV}{u:Value}(k:bW σ σ')(ha:σ'.α=σ.α)(r:RV σ w π a u):RV σ' w π a u:=by
 cases a with
 | key q=>exact⟨r.1,by rw [ha]; exact r.2⟩
 | lref y=>exact r
 | _=>exact RD.keep k r
theorem bW.tok{h:Heap}{t:Nat}(e:∀ a o,σ.h.get? a=some o->h.get? a=some o):bW σ (σ.to h t):=⟨λ_1 h=>h,λa o _1 h=>e a o h⟩
noncomputable def Calm(v:AV)(g:G)(σ:St)(g':G)(σ':St):Prop:=vol v=true->g'.w=g.w/\σ'.α=σ.α
theorem RV.calm{u:Value}(gd:aj g.w σ)(p:au nv g σ g' σ')(c:Calm v g σ g' σ')(h:RV σ g.w π v u):RV σ' g'.w π v u:=RV.post gd p (by
 cases hv:vol v with
 | false=>exact .inl rfl
 | true=>exact .inr (.inr (c hv))) h
theorem aY{c:Sem Value}(x:aj g.w σ)(ew:g'.w=g.w)(er:g'.wr=g.wr)(h:∀ (A:Around) (Q:Value->Shared->Prop) (E:Value->Shared->Prop),bz n A->(∀ t u,RV σ g'.w π v u->Q u (σ.tok t).s)->wpAny M0 A c Q E σ.s):Wp n σ c (ER nv g σ v g' π) :=
 .any λA Q E r q=>h A Q E r λt u hu=>q u (σ.tok t) ⟨.tok x ew er,hu.quiet (.tok λ_1 _2 e=>e) rfl⟩
theorem tokB{c:Sem Bool}{b:Bool}(x:aj g.w σ)(ew:g'.w=g.w)(er:g'.wr=g.wr)(h:∀ (A:Around) (Q:Bool->Shared->Prop) (E:Value->Shared->Prop),bz n A->(∀ t,Q b (σ.tok t).s)->wpAny M0 A c Q E σ.s):Wp n σ c (PR nv g σ g' λc _1=>c=b) :=
 .any λA Q E r q=>h A Q E r λt=>q b (σ.tok t) ⟨.tok x ew er,rfl⟩
theorem Wp.seq{β γ:Type}{c:Sem β}{d:β->Sem γ}{g1 g2:G}{R:β->St->Prop}{R2:γ->St->Prop}(x:Wp n σ c (PR nv g σ g1 R))(h:∀ b σ1,au nv g σ g1 σ1->R b σ1->Wp n σ1 (d b) (PR nv g1 σ1 g2 R2)):Wp n σ (c >>= d) (PR nv g σ g2 R2) :=
 x.bnd λb σ1 p=>(h b σ1 p.po p.rv).mono λ_1 _2 q=>⟨p.po.trans q.po,q.rv⟩
theorem Wp.ret{β:Type}{b:β}{R:β->St->Prop}(x:aj g.w σ)(ew:g'.w=g.w)(er:g'.wr=g.wr)(h:R b σ):Wp n σ (Pure.pure b) (PR nv g σ g' R):=.pure ⟨.same x ew er,h⟩
theorem PR.cg{β:Type}{R:β->St->Prop}{b:β}{g0 g1:G}(ew:g0.w=g.w)(er:g0.wr=g.wr)(ew':g1.w=g'.w)(er':g1.wr=g'.wr)(p:PR nv g0 σ g1 R b σ'):PR nv g σ g' R b σ':=⟨⟨ew▸ew'▸p.po.mv,λz=>ew▸er▸ew'▸p.po.calm (er'.trans z),λz=>ew▸ew'▸p.po.held z⟩,p.rv⟩
theorem Wp.cg{β:Type}{c:Sem β}{R:β->St->Prop}{g0 g1:G}(ew:g0.w=g.w)(er:g0.wr=g.wr)(ew':g1.w=g'.w)(er':g1.wr=g'.wr)(p:Wp n σ c (PR nv g0 σ g1 R)):Wp n σ c (PR nv g σ g' R):=p.mono λ_1 _2=>.cg ew er ew' er'
theorem Wp.imp{β:Type}{c:Sem β}{R R':β->St->Prop}(p:Wp n σ c (PR nv g σ g' R))(h:∀ b σ',au nv g σ g' σ'->R b σ'->R' b σ'):Wp n σ c (PR nv g σ g' R'):=p.mono λb σ' q=>⟨q.po,h b σ' q.po q.rv⟩
theorem mo{c:Sem Value}{o:Obj}(x:aj g.w σ)(ew:g'.w=g.w)(er:g'.wr=g.wr)(hf:o.isFreed=false)(h:∀ (A:Around) (Q:Value->Shared->Prop) (E:Value->Shared->Prop),bz n A->(∀ t,Q (.ref σ.h.objs.size) (σ.new o t).s)->wpAny M0 A c Q E σ.s)
 (hR:∀ t,RV (σ.new o t) g'.w π v (.ref σ.h.objs.size)):Wp n σ c (ER nv g σ v g' π):=.any λA Q E r q=>h A Q E r λt=>q _ (σ.new o t) ⟨.new x ew er hf,hR t⟩
theorem kt{h:Heap}{vs:List Value}:(h.push (listO vs)).IsList h.objs.size vs.toArray:=⟨_,Heap.get?_push_size _ rfl,rfl,_,rfl⟩
theorem gG{h:Heap}{vs:List Value}:IsTup (h.push (lC vs)) h.objs.size vs.toArray:=⟨_,Heap.get?_push_size _ rfl,rfl,_,rfl⟩
theorem cL{vs:List Value}{xs:List Int}{t:Nat}(i:IntsAre vs xs):RV (σ.new (listO vs) t) w π (.ints xs) (.ref σ.h.objs.size):=⟨_,vs,rfl,.inr rfl,kt,i⟩
section
variable {a:AV}{u:Value} (r:RV σ w π a u)
include r
theorem rI{x:Int}(e:vI a=some x):∃ t,u=.int x t:=by rw [gy e] at r; exact r
theorem rIs{x:List Int}(e:vIs a=some x):∃ b vs,u=.ref b/\σ.S b/\σ.h.IsList b vs.toArray/\IntsAre vs x:=by rw [lR e] at r; exact r
theorem rS{x:Str}(e:vS a=some x):∃ t,u=.str x t:=by rw [vS_e e] at r; exact r
theorem rBy{x:List UInt8}(e:vBy a=some x):∃ t,u=.bytes x.toArray t:=by rw [lS e] at r; exact r
theorem rBo{x:Bool}(e:vBo a=some x):u=.bool x:=by rw [hY e] at r; exact r
theorem rC{x:Nat×Cp}(e:vC a=some x):live w (.comp x.1 x.2)/\u=.ref (σ.α (.comp x.1 x.2)):=by rw [vC_e e] at r; exact r
theorem rB{x:Nat}(e:vB a=some x):live w (.bld x)/\u=.ref (σ.α (.bld x)):=by rw [vB_e e] at r; exact r
theorem rN(e:isNone a=true):u=.none:=by rw [dS e] at r; exact r
end
end
end
end
section
open PySem PySem.W PyProof.Rows PySem.Calls
open Builtin Builtin.ObjectAttr
section
theorem cV{α β:Type}{f g:α->β}{l:List α}(h:l.map f=l.map g):∀ a∈l,f a=g a:=List.map_inj_left.mp h
theorem cj{α:Type}{f:α->Bool}{l:List α}(h:l.all f=true):∀ a∈l,f a=true:=List.all_eq_true.mp h
theorem cG{α:Type}{x:Str}{v:α}{l:List (Str×α)}(h:ah x l=some v):(x,v)∈l :=
 x13 (pO h) λp h1 h2 h3=>by rw [bZ.mp h2,<- h3]; exact h1
theorem bL{α:Type}{a:Nat}{v:α}{l:List (Nat×α)}(h:bA a l=some v):(a,v)∈l :=
 x13 (pO h) λp h1 h2 h3=>by rw [Nat.eq_of_beq_eq_true h2,<- h3]; exact h1
theorem rP{a:Nat}{x:Str}{v:AV}{l:List (Nat×Str×AV)}(h:pP a x l=some v):(a,x,v)∈l :=
 x13 (pO h) λp h1 h2 h3=>by rw [Nat.eq_of_beq_eq_true (Bool.and_eq_true_iff.mp h2).1,bZ.mp (Bool.and_eq_true_iff.mp h2).2,<- h3]; exact h1
noncomputable def qo(K:Frag)(x:Str):Option Value:=match nsIn K mainGlobals x with
 | some (some v)=>some v
 | some none=>(nsIn K builtinsNs x).join
 | none=>none
noncomputable abbrev gval(x:Str):Option Value:=qo K0 x
noncomputable def vR1:(v:Option Value)->Option {x:Nat // v=some (.ref x)}
 | some (.ref a)=>some ⟨a,rfl⟩
 | _1=>none
noncomputable def vT1:(v:Option Value)->Option {x:String // v=some (.type x)}
 | some (.type a)=>some ⟨a,rfl⟩
 | _1=>none
noncomputable def vU1:(v:Option Value)->Option {x:String // v=some (.builtin x)}
 | some (.builtin a)=>some ⟨a,rfl⟩
 | _1=>none
noncomputable def vJ1:(v:Option Value)->Option {x:Int // ∃ t,v=some (.int x t)}
 | some (.int a t)=>some ⟨a,t,rfl⟩
 | _1=>none
noncomputable def vP1:(v:Option Value)->Option {x:Bool // v=some (.bool x)}
 | some (.bool a)=>some ⟨a,rfl⟩
 | _1=>none
noncomputable def ow{α:Type}[DecidableEq α](a b:Option α):Bool:=match a with
 | some x=>match b with
  | some y=>decide (x=y)
  | none=>false
 | none=>false
theorem f9{α:Type}[DecidableEq α]{a b:Option α}(h:ow a b=true):∃ x,a=some x/\b=some x:=by
 cases a with
 | none=>cases h
 | some x=>cases b with
  | none=>cases h
  | some y=>exact⟨x,rfl,by rw [of_decide_eq_true h]⟩
theorem rQ{a b:Bool}(h:(a || b)=true):a=true\/b=true:=Bool.or_eq_true_iff.mp h
theorem aw{a b:Bool}(h:(a&&b)=true):a=true/\b=true:=Bool.and_eq_true_iff.mp h
noncomputable def sV(a:AV)(v:Option Value):Bool:=ow (f6 a) (vw1 (vR1 v)) || (ow (vTy a) (vw1 (vT1 v)) || (ow (vBi a) (vw1 (vU1 v)) || (ow (vI a) (vw1 (vJ1 v)) || ow (vBo a) (vw1 (vP1 v)))))
noncomputable def TopV(a:AV)(v:Value):Prop:=cI a=true/\∀ w σ,aj w σ->RD σ a v
theorem sV_e{a:AV}{v:Option Value}(h:sV a v=true):∃ u,v=some u/\TopV a u:=by
 rcases rQ h with h | h
 . exact(f9 h).elim λx e=>⟨_,aK (o:=vR1 v) e.2,by rw [ds e.1]; exact⟨rfl,λ_1 _2 _3=>rfl⟩⟩
 rcases rQ h with h | h
 . exact(f9 h).elim λx e=>⟨_,aK (o:=vT1 v) e.2,by rw [lT e.1]; exact⟨rfl,λ_1 _2 _3=>rfl⟩⟩
 rcases rQ h with h | h
 . exact(f9 h).elim λx e=>⟨_,aK (o:=vU1 v) e.2,by rw [yV e.1]; exact⟨rfl,λ_1 _2 _3=>rfl⟩⟩
 rcases rQ h with h | h
 . exact(f9 h).elim λx e=>(aK (o:=vJ1 v) e.2).elim λt e'=>⟨_,e',by rw [gy e.1]; exact⟨rfl,λ_1 _2 _3=>⟨t,rfl⟩⟩⟩
 . exact(f9 h).elim λx e=>⟨_,aK (o:=vP1 v) e.2,by rw [hY e.1]; exact⟨rfl,λ_1 _2 _3=>rfl⟩⟩
noncomputable def sgn:Str:=Str.ofString "_law_signs"
noncomputable def seqO(n:String)(vs:List Value):Obj:={ cls:=.type n,data:=.seq vs.toArray 0 }
noncomputable def iL(l:List (Int×Nat)):List Value:=l.map λp=>.int p.1 p.2
theorem iL_e:∀ l:List (Int×Nat),IntsAre (iL l) (l.map Prod.fst)
 | []=>.nil
 | (i,t)::r=>.cons i t (iL_e r)
structure Sg where
 a:Nat
 b:Nat
 s:Str
 t:Nat
 l:List (Int×Nat)
noncomputable def sgT:List Sg:=[⟨744,743,Str.ofString "a",1431,[(97,1432)]⟩,⟨746,745,Str.ofString "é",1433,[(195,1434),(169,1435)]⟩,⟨748,747,Str.ofString "€",1436,[(226,1437),(130,1438),(172,1439)]⟩,⟨750,749,Str.ofString "😀",1440,[(240,1441),(159,1442),(152,1443),(128,1444)]⟩]
noncomputable abbrev sgnV(x:Sg):AV:=.tup [.str x.s,.ints (x.l.map Prod.fst)]
theorem tgP(P:Params):(pQ.all λp=>sq p.1 sgn || sV p.2 (qo (KP P) p.1))=true:=by kernel_rfl
theorem tsP(P:Params):(qo (KP P) sgn,(KP P).lookup 751)=(some (.ref 751),some (seqO "list" (sgT.map λx=>.ref x.a))):=by kernel_rfl
theorem tsQ(P:Params):sgT.map (λx=>((KP P).lookup x.a,(KP P).lookup x.b))=sgT.map λx=>(some (seqO "tuple" [.str x.s x.t,.ref x.b]),some (seqO "list" (iL x.l))):=by kernel_rfl
theorem ts1:ah sgn pQ=some (.list (sgT.map sgnV)):=by kernel_rfl
theorem qp{α:Type}{σ:St}{f:α->AV}{h:α->Value}:∀{l:List α},(∀ x∈l,RD σ (f x) (h x))->RDs σ (l.map f) (l.map h)
 | [],_1=>rfl
 | x::r,k=>⟨_,_,rfl,k x (.head _),qp λy m=>k y (.tail _ m)⟩
theorem An{w:W}{σ:St}(g:aj w σ)(x:Sg)(m:x∈sgT):RD σ (sgnV x) (.ref x.a):=by
 have h:=Prod.mk.inj (cV (tsQ w0.params) x m)
 exact⟨x.a,_,rfl,g.baseS _ _ h.1,⟨_,g.base _ _ h.1,rfl,0,rfl⟩,_,_,rfl,⟨x.t,rfl⟩,_,_,rfl,⟨x.b,_,rfl,g.baseS _ _ h.2,⟨_,g.base _ _ h.2,rfl,0,rfl⟩,iL_e x.l⟩,rfl⟩
theorem glob{x:Str}{a:AV}(h:ah x pQ=some a):∃ v,gval x=some v/\TopV a v:=by
 rcases rQ (cj (tgP w0.params) _ (cG h)) with e | e
 . obtain rfl:x=sgn:=bZ.mp e
   rw [ts1] at h
   have t:=Prod.mk.inj (tsP w0.params)
   rw [<- Option.some.inj h]
   exact⟨.ref 751,t.1,rfl,λw σ g=>⟨751,_,rfl,g.baseS _ _ t.2,⟨_,g.base _ _ t.2,rfl,0,rfl⟩,qp (An g)⟩⟩
 . exact sV_e e
theorem tmP(P:Params):fG.map (λp=>(findIn (KP P) (.ref CB) p.1,typeIn (KP P) (.ref p.2),findObj (KP P) CB (some emptyDict) p.1,fnIn (KP P) p.2)) =
 fG.map λp=>(some (some (.ref p.2)),some (.type "function"),some (.bind (.builtin "function.__get__") (.ref p.2)),true):=by kernel_rfl
theorem uJ{x:Str}{f:Nat}(h:ah x fG=some f):findIn K0 (.ref CB) x=some (some (.ref f))/\typeIn K0 (.ref f)=some (.type "function")/\findObj K0 CB (some emptyDict) x=some (.bind (.builtin "function.__get__") (.ref f))/\fnIn K0 f=true:=by
 have:=Prod.mk.inj (cV (tmP w0.params) _ (cG h))
 exact⟨this.1,(Prod.mk.inj this.2).1,Prod.mk.inj (Prod.mk.inj this.2).2⟩
theorem tyP(P:Params):rL.map (λp=>((KP P).lookup p.1,p.2.isEmpty))=rL.map λp=>(some { cls:=.type "tuple",data:=.seq (p.2.map Value.type).toArray },false):=by kernel_rfl
theorem tys{a:Nat}{ns:List String}(h:bA a rL=some ns):ns≠[]/\K0.lookup a=some { cls:=.type "tuple",data:=.seq (ns.map Value.type).toArray }:=by
 have:=Prod.mk.inj (cV (tyP w0.params) _ (bL h))
 exact⟨λz=>(by rw [z] at this; exact nomatch this.2),this.1⟩
noncomputable def fmtT:Option Obj->Tok
 | some ⟨_1,_2,.fields ⟨[.bytes _3 t]⟩,_4⟩=>t
 | _1=>0
noncomputable def fmtX(w:Nat)(sg:Bool)(l:List (Nat×Char×UInt8)):UInt8:=((l.find? λq=>Nat.beq q.1 w&&q.2.1.isLower==sg).map (·.2.2)).getD 63
theorem Ao{w:Nat}{sg:Bool}{l:List (Nat×Char×UInt8)}(h:(l.any λq=>Nat.beq q.1 w&&q.2.1.isLower==sg)=true):∃ c,(w,c,fmtX w sg l)∈l/\sg=c.isLower:=by
 cases e:l.find? λq=>Nat.beq q.1 w&&q.2.1.isLower==sg with
 | none=>exact x12 (List.any_eq_true.mp h) λq h1 h2=>absurd h2 (List.find?_eq_none.mp e q h1)
 | some q =>
  have p:(Nat.beq q.1 w&&q.2.1.isLower==sg)=true:=List.find?_some (p:=λq:Nat×Char×UInt8=>Nat.beq q.1 w&&q.2.1.isLower==sg) e
  have p:=aw p
  refine⟨q.2.1,?_,(eq_of_beq p.2).symm⟩
  unfold fmtX
  rw [e,<- Nat.eq_of_beq_eq_true p.1]
  exact List.mem_of_find?_eq_some e
noncomputable def fmtB(f:Nat×Bool×Bool):List UInt8:=match f.2.2 with
 | true=>[63]
 | false=>[60,fmtX f.1 f.2.1 jf]
theorem tfP(P:Params):tQ.map (λp=>(KP P).lookup p.1)=tQ.map λp=>some (bN (fmtB p.2) (fmtT ((KP P).lookup p.1))):=by kernel_rfl
theorem tf1:(tQ.all λp=>match p.2.2.2 with
 | true=>Nat.beq p.2.1 1&&!p.2.2.1
 | false=>jf.any λq=>Nat.beq q.1 p.2.1&&q.2.1.isLower==p.2.2.1)=true:=by kernel_rfl
noncomputable def qr(a:Nat)(f:Nat×Bool×Bool):Bool->Prop
 | true=>f.1=1/\∃ t,K0.lookup a=some (bN [63] t)
 | false=>∃ c x,(f.1,c,x)∈jf/\f.2.1=c.isLower/\∃ t,K0.lookup a=some (bN [60,x] t)
theorem fmt{a:Nat}{f:Nat×Bool×Bool}(h:bA a tQ=some f):qr a f f.2.2:=by
 obtain⟨w,sg,bl⟩:=f
 have e:=cV (tfP w0.params) _ (bL h)
 have e1:=cj tf1 _ (bL h)
 cases bl with
 | true=>exact⟨Nat.eq_of_beq_eq_true (aw e1).1,_,e⟩
 | false=>exact(Ao e1).elim λc z=>⟨c,_,z.1,z.2,_,e⟩
noncomputable def vV1:(v:Option CFound)->Option {x:Value // v=some (.val x)}
 | some (.val a)=>some ⟨a,rfl⟩
 | _1=>none
noncomputable def clV(K:Frag)(c:Addr)(mc:Value)(x:Str):Option Value:=vw1 (vV1 (findCls K (.ref c) mc x))
noncomputable def isI1(K:Frag)(p:Nat×Str×AV):Bool:=decide (findIn K (.ref p.1) p.2.1=some (some (.type "int")))&&ow (vTy p.2.2) (some "int")
noncomputable def mcOf(K:Frag)(c:Addr):Value:=(typeIn K (.ref c)).getD .none
noncomputable def okC(K:Frag)(p:Nat×Str×AV):Bool:=readsIn K p.1 (mcOf K p.1)&&(sV p.2.2 (clV K p.1 (mcOf K p.1) p.2.1)&&(clV K p.1 (mcOf K p.1) p.2.1).all handedIn || decide (mcOf K p.1=.type "type")&&(isI1 K p&&decide (findIn K (.type "type") p.2.1=some none)))
theorem tcP(P:Params):clsL.all (okC (KP P))=true:=by kernel_rfl
theorem iq:typeOf (.type "int")=pure (.type "type"):=by kernel_rfl
theorem oy:typeLookup (.type "type") "__get__"=pure none:=by rw [typeLookup_type,builtinLookup_eq_fast]; kernel_rfl
section
variable {prog:Program}{w:World}{A:Around}{E:Value->Shared->Prop}{s:Shared}{K:Frag}{c:Value}{name:Str}
theorem xn{tk:Tok}{Q:Fin->Shared->Prop}(X:K.In s.heap)(ho:Looks (model prog w) s.heap (opaqueClassAbove c) none)(ht:Looks (model prog w) s.heap (typeOf c) (.type "type"))(e1:findIn K (.type "type") name=some none)(e2:findIn K c name=some (some (.type "int")))
 (h:Q (.done (.ret (.type "int"))) s):wpAny (model prog w) A (Builtin.«type.__getattribute__» ⟨[c,.str name tk],[]⟩) Q E s:=by
 obtain⟨hh,g,d,t,os⟩:=s
 unfold Builtin.«type.__getattribute__»
 refine wpAny_bind (wpAny_pure (wpAny_bind (ho.at (wpAny_bind (ht.at (wpAny_bind ((looks_findIn (M:=model prog w) X e1).at ?_)))))))
 refine wpAny_bind (wpAny_pure ?_)
 refine wpAny_bind ((looks_findIn (M:=model prog w) X e2).at ?_)
 dsimp only
 rw [if_neg (by exact Bool.false_ne_true)]
 refine wpAny_bind (wpAny_of_eq iq ?_)
 rw [if_neg (by decide +kernel)]
 refine wpAny_bind ?_
 unfold specialOf
 exact wpAny_bind (wpAny_of_eq iq (wpAny_of_eq oy (wpAny_bind (wpAny_pure (wpAny_pure h)))))
theorem xo{C:Addr}{expr:Bool}{Q:Value->Shared->Prop}(X:K.In s.heap)(hr:readsIn K C (.type "type")=true)(e1:findIn K (.type "type") name=some none)(e2:findIn K (.ref C) name=some (some (.type "int")))
 (h:Q (.type "int") { s with toks:=s.toks+1 }):wpAny (model prog w) A (getAttr (.ref C) name expr) Q E s:=by
 simp only [readsIn,Bool.and_eq_true,beq_iff_eq] at hr
 obtain⟨⟨⟨⟨a,b⟩,hga⟩,d⟩,hi⟩:=hr
 refine(Option.isSome_iff_exists.mp d).elim λhk d=>?_
 have ho:=looks_opaque (M:=model prog w) (C:=C) X a
 have ht:=looks_typeIn (M:=model prog w) X b
 refine wpAny_bind (wpAny_mkText (wpAny_holding (wpAny_bind (ht _ _ _ _ (λ_1 _2 e=>e) (wpAny_bind (looks_findIn X hga _ _ _ _ (λ_1 _2 e=>e) ?_))))))
 dsimp only
 rw [if_neg (by decide +kernel)]
 refine wpAny_bind (looks_hook (M:=model prog w) X d _ _ _ _ (λ_1 _2 e=>e) (wpAny_bind (wpAny_attempt (wpAny_holding ?_))))
 unfold callGetattribute
 rw [show(expr&&onTheHeap (Value.builtin "type.__getattribute__"))=false from Bool.and_false _,if_neg (by decide)]
 unfold boundAndCalled
 rw [KF.slot_tga.bind]
 refine wpAny_bind (wpAny_pure (wpAny_call ?_))
 refine codeAny_call_builtin KF.slot_tga.plain KF.entry_tga ?_
 refine @check_slot (model prog w) _ _ { s with toks:=s.toks+1 } "type.__getattribute__" "type" "__getattribute__" (.ref C) [.str name s.toks] [] _ (by decide +kernel) (by decide +kernel) (ht.andThen (looks_subIn X hi)) (KF.args_tga (.ref C) (.str name s.toks)) ?_
 exact xn (s:={ s with toks:=s.toks+1 }) X ho ht e1 e2 (wpAny_pure h)
end
theorem uK{K:Frag}{p:Nat×Str×AV}(h:isI1 K p=true):findIn K (.ref p.1) p.2.1=some (some (.type "int"))/\p.2.2=.ty "int" :=
 ⟨of_decide_eq_true (aw h).1,(f9 (aw h).2).elim λx z=>by rw [lT z.1,Option.some.inj z.2]⟩
theorem cls{c:Nat}{x:Str}{a:AV}(h:pP c x clsL=some a):∃ v,TopV a v/\specialIn K0 (.ref c) "__getattribute__"=some (some (.builtin "type.__getattribute__")) /\
 ∀ A (Q:Value->Shared->Prop) E s expr,K0.In s.heap->Q v { s with toks:=s.toks+1 }->wpAny M0 A (getAttr (.ref c) x expr) Q E s:=by
 refine x02 (aw (cj (tcP w0.params) _ (rP h))) λr e=>?_
 have hg:specialIn K0 (.ref c) "__getattribute__"=some (some (.builtin "type.__getattribute__")):=by
  have r':=r
  simp only [readsIn,Bool.and_eq_true,beq_iff_eq] at r'
  unfold specialIn
  show((typeIn (KP w0.params) (.ref c)).bind _)=_
  rw [r'.1.1.1.2]; exact r'.1.1.2
 rcases rQ e with e | e
 . refine x12 (sV_e (aw e).1) λv e1 e2=>?_
   exact⟨v,e2,hg,λA Q E s expr X q=>cls_value X r (aK (o:=vV1 _) e1) (by have:=(aw e).2; rw [e1] at this; exact this) q⟩
 . refine x02 (aw e) λe1 e2=>?_
   refine x02 (aw e2) λe2 e3=>?_
   rw [of_decide_eq_true e1] at r
   exact⟨.type "int",by rw [show a=.ty "int" from (uK e2).2]; exact⟨rfl,λ_1 _2 _3=>rfl⟩,hg,λA Q E s expr X q=>xo X r (of_decide_eq_true e3) (uK e2).1 q⟩
noncomputable def keyS:Value->Bool
 | .str _1 _2=>true
 | _1=>false
noncomputable def limD:Data->Bool
 | .dict es _1=>es.toList.all (λe=>keyS e.key)&&(nsFind es "sys.recursionlimit").isNone
 | _1=>false
noncomputable def limC(o:Option Obj):Bool:=o.any λx=>limD x.data
theorem tlP(P:Params):limC ((KP P).lookup cStatics)=true:=by kernel_rfl
theorem lim{h:Heap}(X:K0.In h):h.NoLimit:=by
 have e:=tlP w0.params
 refine x12 ((Option.any_eq_true _ _).mp e) λo z e=>?_
 obtain⟨c,d,dt,sl⟩:=o
 cases dt with
 | dict es ep =>
  refine⟨_,⟨_,es,ep,X _ _ z,rfl,λen he=>?_,λ_1=>rfl⟩,Option.isNone_iff_eq_none.mp (aw e).2⟩
  have:=List.all_eq_true.mp (aw e).1 en (Array.mem_toList_iff.mpr he)
  cases hk:en.key <;> rw [hk] at this <;> first | exact⟨_,_,rfl⟩ | exact xFT this
 | _=>exact xFT e
theorem tsys(P:Params):((KP P).lookup sysModules).isSome=true:=by kernel_rfl
section
variable {σ:St}{w:W}{A:Around}{E:Value->Shared->Prop}
theorem aj.ns(x:aj w σ){a:Addr}{y:Str}{r:Option Value}(e:nsIn K0 a y=some r){Q:Option Value->Shared->Prop}(h:Q r σ.s):wpAny M0 A (nsGet a y) Q E σ.s:=(looks_nsIn x.base e).here h
theorem xp(x:aj w σ){env:Env}{y:Str}{v:Value}(hg:env.globals=mainGlobals)(hb:env.builtins=builtinsNs)(e:gval y=some v){Q:Value->Shared->Prop}(h:Q v σ.s):wpAny M0 A (loadGlobal env y) Q E σ.s:=by
 unfold loadGlobal
 unfold gval qo at e
 rw [hg,hb]
 cases e1:nsIn K0 mainGlobals y with
 | none=>rw [e1] at e; cases e
 | some u =>
  rw [e1] at e
  refine wpAny_bind (x.ns e1 ?_)
  cases u with
  | some v'=>cases e; exact wpAny_pure h
  | none=>exact wpAny_bind (x.ns (Option.join_eq_some_iff.mp e) (wpAny_pure h))
end
end
end
section
open PySem PySem.W PyProof.Rows PySem.Calls
section
noncomputable def P2(n:Nat)(g:G)(a b:AV)(c:Value->Value->Sem Value)(v:AV)(g':G):Prop:=∀ nv σ π x y,aj g.w σ->RV σ g.w π a x->RV σ g.w π b y->Wp n σ (c x y) (ER nv g σ v g' π)
noncomputable def II(n:Nat)(g:G)(x y:Int)(c:Value->Value->Sem Value)(v:AV)(g':G):Prop:=∀ nv σ π t u,aj g.w σ->Wp n σ (c (.int x t) (.int y u)) (ER nv g σ v g' π)
noncomputable def P1(n:Nat)(g:G)(a:AV)(c:Value->Sem Value)(v:AV)(g':G):Prop:=∀ nv σ π x,aj g.w σ->RV σ g.w π a x->Wp n σ (c x) (ER nv g σ v g' π)
theorem IntsAre.same{vs:List Value}{xs ys:List Int}(h:IntsAre vs xs)(h':IntsAre vs ys):xs=ys:=by
 induction h generalizing ys with
 | nil=>cases h'; rfl
 | cons n t r ih=>cases h' with | cons _1 _2 r'=>rw [ih r']
theorem IntsAre.at{vs:List Value}{xs:List Int}(h:IntsAre vs xs)(j:Nat)(hj:j < vs.length):∃ t,vs[j]=.int (xs.getD j 0) t:=by
 induction h generalizing j with
 | nil=>cases hj
 | cons n t r ih=>cases j with
  | zero=>exact⟨t,rfl⟩
  | succ j=>exact ih j (Nat.lt_of_succ_lt_succ hj)
theorem IntsAre.rep{x:Int}{t:Tok}:∀ m:Nat,IntsAre (List.replicate m [Value.int x t]).flatten (List.replicate m x)
 | 0=>.nil
 | m+1=>.cons _ _ (IntsAre.rep m)
theorem iu:∀{xs ys:List Int},xs.length=ys.length->((List.range xs.length).all λj=>xs.getD j 0==ys.getD j 0)=decide (xs=ys)
 | [],[],_1=>rfl
 | x::xs,y::ys,h=>by
  rw [List.length_cons,List.range_succ_eq_map,List.all_cons,List.all_map]
  refine(congrArg (x==y&&·) (iu (xs:=xs) (ys:=ys) (Nat.succ.inj h))).trans ?_
  by_cases h1:x=y <;> simp [h1]
theorem jA{l:Addr}{h:Heap}{its its':Array Value}(x:h.IsList l its)(y:h.IsList l its'):its=its' :=
 x.elim λo e=>y.elim λo' e'=>e.2.2.elim λn d=>e'.2.2.elim λn' d'=>by
  rw [Option.some.inj (e.1.symm.trans e'.1)] at d; exact(Data.seq.inj (d.symm.trans d')).1
section
variable {A:Around}{s:Shared}{l b:Addr}{vs ws:List Value}{xs ys:List Int}
theorem zp(i:IntsAre vs xs)(j:IntsAre ws ys)(m:Nat)(h1:m < vs.toArray.size)(h2:m < ws.toArray.size):SeqAt.EqAt A s vs.toArray[m] ws.toArray[m] (xs.getD m 0==ys.getD m 0):=by
 refine(IntsAre.at i m h1).elim λt e1=>?_
 refine(IntsAre.at j m h2).elim λu e2=>?_
 simp only [List.getElem_toArray,e1,e2]
 exact SeqAt.EqAt.int_int _ _ _ _
theorem uL(h:xs.length≠ys.length):decide (xs=ys)=false:=decide_eq_false λz=>h (by rw [z])
theorem qs(i:IntsAre vs xs)(j:IntsAre ws ys):(vs.toArray.size=ws.toArray.size)=(xs.length=ys.length):=by rw [<- i.length,<- j.length]; rfl
theorem qt(hl:s.heap.IsList l vs.toArray)(hb:s.heap.IsList b ws.toArray)(i:IntsAre vs xs)(j:IntsAre ws ys)(hu:A.units < cLine):SeqAt.RcAt A s (.ref l) (.ref b) (decide (xs=ys)):=by
 by_cases h:xs.length=ys.length
 . rw [<- iu h,<- i.length]
   exact SeqAt.RcAt.lists hl hb ((qs i j).mpr h) hu (zp i j)
 . rw [uL h]
   exact SeqAt.RcAt.lists_lengths hl hb (bne_iff_ne.mpr λe=>h ((qs i j).mp e)) hu
theorem jB(hl:s.heap.IsList l vs.toArray)(hb:s.heap.IsList b ws.toArray)(i:IntsAre vs xs)(j:IntsAre ws ys)(hu:A.units < cLine):SeqAt.RcNeAt A s (.ref l) (.ref b) (!decide (xs=ys)):=by
 by_cases h:xs.length=ys.length
 . rw [<- iu h,<- i.length]
   exact SeqAt.RcNeAt.lists hl hb ((qs i j).mpr h) hu (zp i j)
 . rw [uL h]
   exact SeqAt.RcNeAt.lists_lengths hl hb (bne_iff_ne.mpr λe=>h ((qs i j).mp e)) hu
theorem xq(hl:s.heap.IsList l vs.toArray)(hb:s.heap.IsList b ws.toArray)(i:IntsAre vs xs)(j:IntsAre ws ys)(hu:A.units < cLine):SeqAt.EqAt A s (.ref l) (.ref b) (decide (xs=ys)):=by
 by_cases h:l=b
 . subst h
   rw [<- show vs=ws from congrArg Array.toList (jA hl hb)] at j
   rw [decide_eq_true (IntsAre.same i j)]
   exact SeqAt.EqAt.same _
 . exact SeqAt.EqAt.of_refs h (qt hl hb i j hu)
end
section
variable {w:W}{σ:St}{g g':G}{nv:Bool}{n:Nat}{π:Str->Addr}{v a b:AV}
theorem bS.at{h:Heap}{a:Addr}{o:Obj}{xs:List Int}(l:bS o xs)(e:h.get? a=some o):∃ vs,h.IsList a vs.toArray/\IntsAre vs xs:=l.imp λvs z=>⟨⟨o,e,z.1.c,z.1.s⟩,z.2⟩
theorem fc.ints{m:Mn}{o:Obj}{xs:List Int}{c:Cp}(e:dq m c=some xs)(z:fc σ m c o):bS o xs:=by
 cases c <;> first | exact xNS e | exact Option.some.inj e▸z
theorem oA{c:Cp}(h:lQ c=true):c=.cv:=by cases c <;> first | rfl | exact xFT h
theorem oC{c:Cp}(h:isSs c=true):c=.ss:=by cases c <;> first | rfl | exact xFT h
theorem qu{c:Cp}(h:tW c=true):c=.shr:=by cases c <;> first | rfl | exact xFT h
theorem mq{c:Cp}(h:kb c=true):c=.rows:=by cases c <;> first | rfl | exact xFT h
theorem uM{c:Cp}(h:kc c=true):c=.rear:=by cases c <;> first | rfl | exact xFT h
theorem iw{c:Cp}(h:rO c=true):c=.bytes:=by cases c <;> first | rfl | exact xFT h
theorem uN{c:Cp}(h:isVt c=true):c=.vt:=by cases c <;> first | rfl | exact xFT h
theorem aj.cb(x:aj w σ){r:Nat}{b:BS}{c:Cp}(l:live w (.comp r c))(hc:aI c=true)(e:w.bs[r]?=some b):∃ o,σ.h.get? (σ.α (.comp r c))=some o/\dc σ r b c o :=
 (x.at_ _ l).imp λo z=>⟨z.1,by
  have z2:b9 σ w r c o (aI c):=z.2
  rw [hc] at z2; exact z2.elim λb' z=>Option.some.inj (z.1.symm.trans e)▸z.2⟩
theorem aj.cm(x:aj w σ){r:Nat}{m:Mn}{c:Cp}(l:live w (.comp r c))(hc:aI c=false)(e:w.mn=some m):∃ o,σ.h.get? (σ.α (.comp r c))=some o/\fc σ m c o :=
 (x.at_ _ l).imp λo z=>⟨z.1,by
  have z2:b9 σ w r c o (aI c):=z.2
  rw [hc] at z2; exact z2.2.elim λb' z=>Option.some.inj (z.1.symm.trans e)▸z.2⟩
theorem ix{m:Mn}{xs:List Int}{c:Cp}(h:dq m c=some xs):aI c=false:=by
 cases c <;> first | rfl | exact xNS h
noncomputable def rR:Cp->Bool
 | .rear=>true
 | .stand=>true
 | .made=>true
 | .rows=>true
 | _1=>false
theorem rU{m:Mn}{xs:List Int}{c:Cp}(h:dq m c=some xs):rR c=true:=by
 cases c <;> first | rfl | exact xNS h
structure ku(w:W)(q:Nat×Cp)(xs:List Int):Prop where
 o:∀ σ,live w (.comp q.1 q.2)->aj w σ->∃ o,σ.h.get? (σ.α (.comp q.1 q.2))=some o/\bS o xs
 ml:lQ q.2=false->rR q.2=true
theorem ku.l{q:Nat×Cp}{xs:List Int}(h:ku w q xs)(σ:St)(l:live w (.comp q.1 q.2))(gd:aj w σ):∃ vs,σ.h.IsList (σ.α (.comp q.1 q.2)) (List.toArray vs)/\IntsAre vs xs:=(h.o σ l gd).elim λo z=>z.2.at z.1
noncomputable def zq(w:W)(q:Nat×Cp)(l:List (Str×Int)):Prop:=∀ σ,live w (.comp q.1 q.2)->aj w σ->∃ kvs,σ.h.DictOf gz (σ.α (.comp q.1 q.2)) kvs/\ar kvs l
theorem Al.comp{α:Type}{q:Nat×Cp}{f:List Int->EM α}{Q:α->G->Prop}(h:∀ xs,ku g.w q xs->Al (f xs) g Q):Al (Internal.bd (be q.1 q.2) f) g Q :=
 Al.bd (R:=λxs g1=>g1=g/\ku g.w q xs) (.ei (λe=>.getB λb hb=>.opt λxs hx=>⟨rfl,λσ l gd=>by
  obtain⟨r,c⟩:=q
  obtain rfl:=oA e
  exact(gd.cb l rfl hb).imp λo z=>⟨z.1,z.2.elim λys y=>Option.some.inj (y.1.symm.trans hx)▸y.2⟩,λz=>(nomatch z.symm.trans e)⟩)
  λ_1=>.getM λm hm=>.opt λxs hx=>⟨rfl,λσ l gd=>(gd.cm l (ix hx) hm).imp λo z=>⟨z.1,z.2.ints hx⟩,λ_1=>rU hx⟩) λxs g1 r=>r.1▸h xs r.2
theorem Al.dic{α:Type}{q:Nat×Cp}{f:List (Str×Int)->EM α}{Q:α->G->Prop}(h:∀ xs,zq g.w q xs->Al (f xs) g Q):Al (Internal.bd (kg q.1 q.2) f) g Q :=
 Al.bd (R:=λxs g1=>g1=g/\zq g.w q xs) (.ei (λe=>.getB λb hb=>.opt λxs hx=>⟨rfl,λσ l gd=>by
  obtain⟨r,c⟩:=q
  obtain rfl:=oC e
  exact(gd.cb l rfl hb).elim λo z=>z.2.elim λys y=>(show DicS o xs from Option.some.inj (y.1.symm.trans hx)▸y.2).imp λkvs k=>⟨Heap.dictOf_iff.mpr ⟨o,z.1,k.1⟩,k.2⟩⟩)
  λ_1=>.wh λe=>.getM λm hm=>.ok ⟨rfl,λσ l gd=>by
   obtain⟨r,c⟩:=q
   obtain rfl:=qu e
   exact(gd.cm l rfl hm).elim λo z=>z.2.imp λkvs k=>⟨Heap.dictOf_iff.mpr ⟨o,z.1,k.1⟩,k.2⟩⟩) λxs g1 r=>r.1▸h xs r.2
theorem ar.get{K:Type}[DecidableEq K]{x:K}{kvs:List (K×Value)}:∀{l:List (K×Int)},ar kvs l->(e8 x l=none/\valueAt kvs x=none)\/∃ i t,e8 x l=some i/\valueAt kvs x=some (.int i t):=by
 induction kvs with
 | nil=>exact λ{l} h=>(h:l=[])▸.inl ⟨rfl,rfl⟩
 | cons p r ih =>
  intro l h
  refine x23 h λi q e1 e2 h=>e2.elim λt e2=>?_
  rw [e1]
  by_cases e:p.1=x
  . exact .inr ⟨i,t,if_pos e,by unfold valueAt; rw [List.find?_cons,show decide _=true from decide_eq_true e]; exact congrArg some e2⟩
  . have k2:valueAt (p::r) x=valueAt r x:=by unfold valueAt; rw [List.find?_cons,show decide _=false from decide_eq_false e]
    rw [show e8 x ((_,i)::q)=e8 x q from if_neg e,k2]
    exact ih h
theorem ar.getS{x:Str}{kvs:List (Str×Value)}{l:List (Str×Int)}(h:ar kvs l):(bG x l=none/\valueAt kvs x=none)\/∃ i t,bG x l=some i/\valueAt kvs x=some (.int i t):=h.get
theorem aj.noSys(x:aj w σ){q:Key}(l:live w q):(σ.α q==sysModules)=false:=by
 refine beq_eq_false_iff_ne.mpr λe=>?_
 refine(Option.isSome_iff_exists.mp (tsys w0.params)).elim λo h=>?_
 exact x.apart q l (by rw [e]; exact x.baseS _ _ h)
theorem BN{x:List Int}{rows:List (List Int)}:dT rows x=rows.any λy=>decide (y=x):=rfl
theorem okI{c:Value->Value->Sem Value}{x y z:Int}(h:∀ (A:Around) (Q:Value->Shared->Prop) (E:Value->Shared->Prop) (s:Shared) t u,Q (.int z s.toks) { s with toks:=s.toks+1 }->wpAny M0 A (c (.int x t) (.int y u)) Q E s):II n g x y c (.int z) g :=
 λnv σ π t u gd=>aY gd rfl rfl λA Q E r q=>h A Q E σ.s t u (q _ _ ⟨_,rfl⟩)
theorem okB{c:Value->Value->Sem Value}{x y:Int}{z:Bool}(h:∀ (A:Around) (Q:Value->Shared->Prop) (E:Value->Shared->Prop) (s:Shared) t u,Q (.bool z) s->wpAny M0 A (c (.int x t) (.int y u)) Q E s):II n g x y c (.bool z) g :=
 λnv σ π t u gd=>aY gd rfl rfl λA Q E r q=>h A Q E σ.s t u (q σ.s.toks _ rfl)
theorem II.to{c:Value->Value->Sem Value}{x y:Int}(h:II n g x y c v g')(ea:vI a=some x)(eb:vI b=some y):P2 n g a b c v g':=λnv σ π p q gd ra rb=>by
 refine(rI ra ea).elim λt e148_1=>?_
 subst e148_1
 refine(rI rb eb).elim λu e149_1=>?_
 subst e149_1
 exact h nv σ π t u gd
theorem fK{c:Value->Value->Sem Value}{f:Int->Int->EM AV}(h:∀ x y,Al (f x y) g (II n g x y c)):Al (i2 a b f) g (P2 n g a b c):=.bdo λx ea=>.bdo λy eb=>(h x y).imp λv g' r=>r.to ea eb
theorem Aq{x y:Int}:Al (mulI x y) g (II n g x y (binaryOp .Mult)):=.demD λob=>(.ok (okI λA Q E s t u q=>AutoIntOps.mul_0 q (.of_left (eQ ob))))
theorem xr{x y:Int}:Al (mulI x y) g (II n g x y (inplaceOp .Mult)):=.demD λob=>(.ok (okI λA Q E s t u q=>AutoIntOps.imul_0 q (.of_left (eQ ob))))
theorem Ar{x y:Int}:Al (andI x y) g (II n g x y (binaryOp .BitAnd)):=.dem λob=>(.ok (okI λA Q E s t u q=>tH ob q))
theorem xu{x y:Int}:Al (andI x y) g (II n g x y (inplaceOp .BitAnd)):=.dem λob=>(.ok (okI λA Q E s t u q=>rj ob q))
theorem xw:Al (addV a b) g (P2 n g a b (binaryOp .Add)):=.vw (λx ea=>.bdo λy eb=>.dem λob=>(.ok λnv σ π p q gd ra rb=>by
 refine x24 (rIs ra ea) λa vs e157_2 _1 la ia=>?_
 subst e157_2
 refine x24 (rIs rb eb) λb ws e158_2 _1 lb ib=>?_
 subst e158_2
 exact mo (o:=listO (vs++ws)) gd rfl rfl rfl (λA Q E r q=>rk la lb (by rw [sizeLine_eq,ia.length,ib.length]; exact ob) (q _)) λt=>cL (ia.append ib)))
 λ_1=>.bdo λx ea=>.bdo λy eb=>.dem λob=>(.ok λnv σ π p q gd ra rb=>by
  refine(rS ra ea).elim λt e161_1=>?_
  subst e161_1
  refine(rS rb eb).elim λu e162_1=>?_
  subst e162_1
  exact aY gd rfl rfl λA Q E r q=>SB.add (λt' k=>q _ _ ⟨_,rfl⟩) (by rw [sizeLine_eq]; exact ob))
theorem one_e{α:Type}{x:α}{xs:List α}(e:one xs=some x):xs=[x]:=by
 rcases xs with _ | ⟨_,_ | _⟩ <;> first | exact xNS e | exact congrArg (λx=>[x]) (Option.some.inj e)
theorem jC{α:Type}{x:α×α}{xs:List α}(e:two xs=some x):xs=[x.1,x.2]:=by
 rcases xs with _ | ⟨_,_ | ⟨_,_ | _⟩⟩ <;> first | exact xNS e | exact congrArg (λx=>[x.1,x.2]) (Option.some.inj e)
theorem qw{α:Type}{x:α×α×α}{xs:List α}(e:pV xs=some x):xs=[x.1,x.2.1,x.2.2]:=by
 rcases xs with _ | ⟨_,_ | ⟨_,_ | ⟨_,_ | _⟩⟩⟩ <;> first | exact xNS e | exact congrArg (λx=>[x.1,x.2.1,x.2.2]) (Option.some.inj e)
theorem IntsAre.one_e{vs:List Value}{x:Int}(i:IntsAre vs [x]):∃ t,vs=[.int x t]:=by cases i with | cons _1 t r=>cases r; exact⟨t,rfl⟩
theorem As:Al (repI a b) g (P2 n g a b (binaryOp .Mult)):=.bdo λk eb=>.vw (λxs ea=>.bdo λx e1=>.dem λob=>(.ok λnv σ π p q gd ra rb=>by
 refine x24 (rIs ra ea) λa vs e172_2 _1 la ia=>?_
 subst e172_2
 refine(rI rb eb).elim λu e173_1=>?_
 subst e173_1
 rw [one_e e1] at ia
 refine(IntsAre.one_e ia).elim λt e175_1=>?_
 subst e175_1
 exact mo gd rfl rfl rfl (λA Q E r q=>lE la (Int.le_trans (by decide) ob.1) (Int.lt_of_le_of_lt ob.2 (by decide)) (by rw [List.length_singleton,Nat.one_mul]; exact Int.toNat_le.mpr ob.2) (q _)) λt=>cL (IntsAre.rep _)))
 λ_1=>.bdo λxs ea=>.bdo λx e1=>.dem λob=>(.ok λnv σ π p q gd ra rb=>by
  refine(rBy ra ea).elim λt e178_1=>?_
  subst e178_1
  refine(rI rb eb).elim λu e179_1=>?_
  subst e179_1
  obtain rfl:=one_e e1
  exact aY gd rfl rfl λA Q E r q=>bytes_mul_any nofun ob.1 ob.2 (show 1<=16 by decide) λt' kk=>q _ _ ⟨t',by simp⟩)
theorem xx:Al (yY a b) g (P2 n g a b (binaryOp .FloorDiv)):=.bdo λy eb=>.demD λob=>(.vw (λx ea=>.ok ((okI λA Q E s t u q=>AutoIntOps.floordiv_1 (λe=>ob.1 (beq_iff_eq.mp e)) (gX ob.2) q:II n g x y _ _ _).to ea eb)) λ_1=>.bdo λx ea=>.ok λnv σ π p q gd ra rb=>by
 obtain rfl:=rBo ra ea
 refine(rI rb eb).elim λu e184_1=>?_
 subst e184_1
 exact aY gd rfl rfl λA Q E r q=>jd ob.1 (gX ob.2) (q _ _ ⟨_,rfl⟩))
theorem pow8:∀ m:Nat,m < 9->¬ Builtin.Int.intTooBig (((Builtin.Int.intBits 256:Nat):Int)*(m:Int))=true:=by decide +kernel
theorem At{x y:Int}:Al (Internal.bd (Internal.demD (0<=y/\y<=8/\x=256)) λ_1=>Internal.ok (.int (x ^ y.toNat))) g (II n g x y (binaryOp .Pow)):=.demD λob=>(.ok (okI λA Q E s t u q=>by
 refine x03 ob λo1 o2 e188_2=>?_
 clear ob
 subst e188_2
 refine(Int.eq_ofNat_of_zero_le o1).elim λm e189_1=>?_
 subst e189_1
 cases m with
 | zero=>exact AutoIntOps.pow_0 o1 rfl q
 | succ m=>exact AutoIntOps.pow_4 o1 (λe=>nomatch beq_iff_eq.mp e) (by decide) (by decide) (pow8 _ (Int.ofNat_lt.mp (Int.lt_of_le_of_lt o2 (by decide)))) q))
theorem uO:∀{op:Operator},Al (tV op a b) g (P2 n g a b (binaryOp op))
 | .Add=>.vw (λx ea=>.bdo λy eb=>.ok ((okI λA Q E s t u q=>AutoIntOps.add_0 q:II n g x y _ _ _).to ea eb)) λ_1=>xw
 | .Sub=>fK λx y=>.ok (okI λA Q E s t u q=>AutoIntOps.sub_0 q)
 | .Mult=>.vw (λx ea=>.bdo λy eb=>Aq.imp λv g' r=>r.to ea eb) λ_1=>As
 | .FloorDiv=>xx
 | .Mod=>fK λx y=>.demD λob=>(.ok (okI λA Q E s t u q=>AutoIntOps.mod_1 (λe=>ob (beq_iff_eq.mp e)) q))
 | .Pow=>fK λx y=>At
 | .BitAnd=>fK λx y=>Ar
 | .MatMult=>.no
 | .Div=>.no
 | .LShift=>.no
 | .RShift=>.no
 | .BitOr=>.no
 | .BitXor=>.no
theorem Au:∀{op:Operator},Al (iop op a b) g (P2 n g a b (inplaceOp op))
 | .Add=>fK λx y=>.ok (okI λA Q E s t u q=>AutoIntOps.iadd_0 q)
 | .Sub=>fK λx y=>.ok (okI λA Q E s t u q=>AutoIntOps.isub_0 q)
 | .Mult=>fK λx y=>xr
 | .BitAnd=>fK λx y=>xu
 | .FloorDiv=>.no
 | .Mod=>.no
 | .Pow=>.no
 | .MatMult=>.no
 | .Div=>.no
 | .LShift=>.no
 | .RShift=>.no
 | .BitOr=>.no
 | .BitXor=>.no
theorem xy:∀{op:UnaryOp},Al (unop op a) g (P1 n g a (unaryOp op))
 | .USub=>.bdo λx ea=>.ok λnv σ π p gd ra=>by
  refine(rI ra ea).elim λt e223_1=>?_
  subst e223_1
  exact aY gd rfl rfl λA Q E r q=>PyProof.Rows.neg_int (q _ _ ⟨_,rfl⟩)
 | .Invert=>.bdo λx ea=>.ok λnv σ π p gd ra=>by
  refine(rI ra ea).elim λt e226_1=>?_
  subst e226_1
  exact aY gd rfl rfl λA Q E r q=>PyProof.Rows.invert_int (q _ _ ⟨_,rfl⟩)
 | .Not=>.no
 | .UAdd=>.no
theorem vN{v:Value}{G:Prop}(k:Nat.beq v.ctorIdx Value.none.ctorIdx=false)(h:Value.none=v):G:=by
 rw [<- h] at k
 exact xTF k
theorem rNo{a:AV}(h:RV σ w π a .none):isNone a=true:=by
 cases a <;> first
  | rfl
  | exact vN rfl h
  | exact h.elim λ_1 h=>vN rfl h
  | exact vN rfl h.2
  | exact h.elim λ_1 h=>vN rfl h.1
  | exact h.elim λ_1 h=>h.elim λ_1 h=>vN rfl h.1
  | exact h.elim λ_1 h=>h.elim λ_1 h=>h.elim λ_1 h=>h.elim λ_1 h=>h.elim λ_1 h=>vN rfl h.1
theorem uP{u:Value}(r:RV σ w π a u):(u==Value.none)=isNone a:=by
 cases h:isNone a with
 | true=>rw [rN r h]; rfl
 | false=>exact beq_eq_false_iff_ne.mpr λe=>by rw [e] at r; rw [rNo r] at h; cases h
noncomputable def TI(x:Int)(u:Value):Bool->Prop
 | true=>∃ t,u=.int x t
 | false=>∃ p,u=.bool p/\x=if p=true then 1 else 0
theorem uQ{a:AV}{x:Int}(h:toI a=some x):a=.int x\/∃ p,a=.bool p/\x=bI p:=by
 unfold toI at h
 cases e:vI a with
 | some i=>rw [e] at h; exact .inl (by rw [gy e,Option.some.inj h])
 | none=>rw [e] at h; exact(Option.map_eq_some_iff.mp h).elim λp z=>.inr ⟨p,hY z.1,z.2.symm⟩
theorem rT{x:Int}{u:Value}{a:AV}(e:toI a=some x)(r:RV σ w π a u):∃ d,TI x u d:=by
 rcases uQ e with z | ⟨p,z,y⟩ <;> rw [z] at r
 . exact⟨true,r⟩
 . exact⟨false,p,r,by rw [y]; cases p <;> rfl⟩
theorem oE(x y:Int):(x==y)=decide (x=y):=by by_cases h:x=y <;> simp [h]
noncomputable abbrev CB2(n:Nat)(g:G)(a b:AV)(op:CmpOp)(c:Bool)(g':G):Prop:=P2 n g a b (compareOp op) (.bool c) g'
theorem toI2{op:CmpOp}{x y:Int}{z:Bool}(ea:toI a=some x)(eb:toI b=some y)
 (h:∀ (A:Around) (Q:Value->Shared->Prop) (E:Value->Shared->Prop) (s:Shared) d e p q,TI x p d->TI y q e->Q (.bool z) s->wpAny M0 A (compareOp op p q) Q E s):CB2 n g a b op z g:=λnv σ π p q gd ra rb=>by
 refine(rT ea ra).elim λd ra=>?_
 refine(rT eb rb).elim λe rb=>?_
 exact aY gd rfl rfl λA Q E r k=>h A Q E σ.s d e p q ra rb (k σ.s.toks _ rfl)
theorem tiE{P:Int->Value->Prop}{x:Int}{u:Value}{d:Bool}(h:TI x u d)(k1:∀ t,P x (.int x t))(k2:∀ p,P (if p=true then 1 else 0) (.bool p)):P x u:=by
 cases d with
 | true=>exact h.elim λt e=>e▸k1 t
 | false=>exact x12 h λp e1 e2=>e1▸e2▸k2 p
theorem le2(A:Around)(Q:Value->Shared->Prop)(E:Value->Shared->Prop)(s:Shared){x y:Int}(d e p q)(h1:TI x p d)(h2:TI y q e):Q (.bool (decide (x<=y))) s->wpAny M0 A (compareOp .LtE p q) Q E s :=
 tiE (P:=λx p=>Q (.bool (decide (x<=y))) s->wpAny M0 A (compareOp .LtE p q) Q E s) h1
  (λt=>tiE (P:=λy q=>Q (.bool (decide (x<=y))) s->wpAny M0 A (compareOp .LtE (.int x t) q) Q E s) h2 (λt k=>PyProof.Rows.le_int k) (λt k=>lB k))
  (λp=>tiE (P:=λy q=>Q (.bool (decide ((if p=true then 1 else 0)<=y))) s->wpAny M0 A (compareOp .LtE (.bool p) q) Q E s) h2 (λt k=>ly k) (λt k=>le_bool k))
theorem bb(p q:Bool):(p==q)=decide ((if p=true then(1:Int) else 0)=if q=true then 1 else 0):=by cases p <;> cases q <;> rfl
theorem eq2(A:Around)(Q:Value->Shared->Prop)(E:Value->Shared->Prop)(s:Shared){x y:Int}(d e p q)(h1:TI x p d)(h2:TI y q e):Q (.bool (decide (x=y))) s->wpAny M0 A (compareOp .Eq p q) Q E s :=
 tiE (P:=λx p=>Q (.bool (decide (x=y))) s->wpAny M0 A (compareOp .Eq p q) Q E s) h1
  (λt=>tiE (P:=λy q=>Q (.bool (decide (x=y))) s->wpAny M0 A (compareOp .Eq (.int x t) q) Q E s) h2 (λt k=>PyProof.Rows.eq_int (by rw [oE]; exact k)) (λt k=>EqBoolInt.eq_int_bool (by rw [oE]; exact k)))
  (λp=>tiE (P:=λy q=>Q (.bool (decide ((if p=true then 1 else 0)=y))) s->wpAny M0 A (compareOp .Eq (.bool p) q) Q E s) h2 (λt k=>EqBoolInt.eq_bool_int (by rw [oE]; exact k)) (λt k=>eq_bool (by rw [bb]; exact k)))
theorem ne2(A:Around)(Q:Value->Shared->Prop)(E:Value->Shared->Prop)(s:Shared){x y:Int}(d e p q)(h1:TI x p d)(h2:TI y q e):Q (.bool (!decide (x=y))) s->wpAny M0 A (compareOp .NotEq p q) Q E s :=
 tiE (P:=λx p=>Q (.bool (!decide (x=y))) s->wpAny M0 A (compareOp .NotEq p q) Q E s) h1
  (λt=>tiE (P:=λy q=>Q (.bool (!decide (x=y))) s->wpAny M0 A (compareOp .NotEq (.int x t) q) Q E s) h2 (λt k=>PyProof.Rows.ne_int (by rw [bne,oE]; exact k)) (λt k=>EqBoolInt.ne_int_bool (by rw [oE]; exact k)))
  (λp=>tiE (P:=λy q=>Q (.bool (!decide ((if p=true then 1 else 0)=y))) s->wpAny M0 A (compareOp .NotEq (.bool p) q) Q E s) h2 (λt k=>EqBoolInt.ne_bool_int (by rw [oE]; exact k)) (λt k=>ne_bool (by rw [bne,bb]; exact k)))
theorem eqN(A:Around)(Q:Value->Shared->Prop)(E:Value->Shared->Prop)(s:Shared){x:Int}(d p)(h:TI x p d)(k:Q (.bool false) s):wpAny M0 A (compareOp .Eq p .none) Q E s :=
 tiE (P:=λ_1 p=>wpAny M0 A (compareOp .Eq p .none) Q E s) h (λt=>EqNone.eq_int_none k) (λp=>EqNone.eq_bool_none k)
theorem neN(A:Around)(Q:Value->Shared->Prop)(E:Value->Shared->Prop)(s:Shared){x:Int}(d p)(h:TI x p d)(k:Q (.bool true) s):wpAny M0 A (compareOp .NotEq p .none) Q E s :=
 tiE (P:=λ_1 p=>wpAny M0 A (compareOp .NotEq p .none) Q E s) h (λt=>EqNone.ne_int_none k) (λp=>EqNone.ne_bool_none k)
theorem Av:Al (eqV a b) g (P2 n g a b (compareOp .Eq) <| .bool ·):=.ei (λeb=>.ei (λea=>.ok λnv σ π p q gd ra rb=>by
 rw [rN ra ea,rN rb eb]
 exact aY gd rfl rfl λA Q E r k=>EqNone.eq_none_none (k σ.s.toks _ rfl))
 λ_1=>.bdo λx ea=>.ok λnv σ π p q gd ra rb=>by
  rw [rN rb eb]
  refine(rT ea ra).elim λd ra=>?_
  exact aY gd rfl rfl λA Q E r k=>eqN A Q E _ d p ra (k σ.s.toks _ rfl))
 λ_1=>.ei (λea=>.bdo λx eb=>.ok λnv σ π p q gd ra rb=>by
  rw [rN ra ea]
  refine(rI rb eb).elim λt e304_1=>?_
  subst e304_1
  exact aY gd rfl rfl λA Q E r k=>EqNone.eq_none_int (k σ.s.toks _ rfl))
  λ_1=>.bdo λx ea=>.bdo λy eb=>.ok (toI2 ea eb λA Q E s=>eq2 A Q E s)
theorem Aw:Al (eqV a b) g (P2 n g a b (compareOp .NotEq) <| .bool <| ! ·):=.ei (λeb=>.ei (λea=>.ok λnv σ π p q gd ra rb=>by
 rw [rN ra ea,rN rb eb]
 exact aY gd rfl rfl λA Q E r k=>EqNone.ne_none_none (k σ.s.toks _ rfl))
 λ_1=>.bdo λx ea=>.ok λnv σ π p q gd ra rb=>by
  rw [rN rb eb]
  refine(rT ea ra).elim λd ra=>?_
  exact aY gd rfl rfl λA Q E r k=>neN A Q E _ d p ra (k σ.s.toks _ rfl))
 λ_1=>.ei (λea=>.bdo λx eb=>.ok λnv σ π p q gd ra rb=>by
  rw [rN ra ea]
  refine(rI rb eb).elim λt e316_1=>?_
  subst e316_1
  exact aY gd rfl rfl λA Q E r k=>EqNone.ne_none_int (k σ.s.toks _ rfl))
  λ_1=>.bdo λx ea=>.bdo λy eb=>.ok (toI2 ea eb λA Q E s=>ne2 A Q E s)
theorem qx{x z:List Int}{y:Value}(r:RD σ (.ints z) y):RD σ (.ints x) y↔z=x:=⟨λq=>by
 refine x24 r λb us e320_2 sb lb ib=>?_
 clear r
 subst e320_2
 refine x24 q λb' us' e _1 lb' ib'=>?_
 rw [<- Value.ref.inj e] at lb'
 rw [<- show us=us' from congrArg Array.toList (jA lb lb')] at ib'
 exact IntsAre.same ib ib',λe=>e▸r⟩
open Classical in
theorem qy{A:Around}{a:Addr}{ws:List Value}{x:List Int}(la:σ.h.IsList a ws.toArray)(ia:IntsAre ws x)(hu:A.units < cLine){rows:List (List Int)}:∀{vs:List Value},cK σ rows vs ->
 (∀ y,y∈vs->SeqAt.EqAt A σ.s y (.ref a) (decide (RD σ (.ints x) y)))/\vs.any (λy=>decide (RD σ (.ints x) y))=dT rows x:=by
 induction rows with
 | nil=>exact λh=>(h:_=[])▸⟨λy hy=>xIn hy,rfl⟩
 | cons z q ih =>
  intro vs h
  refine x23 h λv q' e r1 r2=>?_
  rw [e]
  refine x02 (ih r2) λi1 i2=>?_
  have e1:decide (RD σ (.ints x) v)=decide (z=x):=decide_eq_decide.mpr (qx r1)
  refine⟨λy hy=>(List.mem_cons.mp hy).elim (λe=>?_) (i1 y),?_⟩
  . rw [e,e1]
    refine x24 r1 λb us e335_2 sb lb ib=>?_
    rw [e335_2]
    exact xq lb la ib ia hu
  . rw [List.any_cons,i2,e1]; rfl
theorem cU.at{h:Heap}{a:Addr}{o:Obj}{its:Array Value}(l:cU o its)(e:h.get? a=some o):h.IsList a its:=⟨o,e,l.c,l.s⟩
theorem uR:∀{op:CmpOp},Al (cmp op a b) g (CB2 n g a b op)
 | .Is=>.wh λeb=>.ok λnv σ π p q gd ra rb=>by
  rw [rN rb eb]
  exact aY gd rfl rfl λA Q E r k=>PySem.is_none (k σ.s.toks _ (by rw [uP ra]; rfl))
 | .IsNot=>.wh λeb=>.ok λnv σ π p q gd ra rb=>by
  rw [rN rb eb]
  exact aY gd rfl rfl λA Q E r k=>PySem.isNot_none (k σ.s.toks _ (by rw [uP ra]; rfl))
 | .Eq=>.vw (λx ea=>.bdo λy eb=>.ok λnv σ π p q gd ra rb=>by
  refine x24 (rIs ra ea) λa vs e347_2 _1 la ia=>?_
  subst e347_2
  refine x24 (rIs rb eb) λb ws e348_2 _1 lb ib=>?_
  subst e348_2
  exact aY gd rfl rfl λA Q E r k=>qt la lb ia ib r.lt _ _ _ _ (k σ.s.toks _ rfl)) λ_1=>Av
 | .NotEq=>.vw (λx ea=>.bdo λy eb=>.ok λnv σ π p q gd ra rb=>by
  refine x24 (rIs ra ea) λa vs e351_2 _1 la ia=>?_
  subst e351_2
  refine x24 (rIs rb eb) λb ws e352_2 _1 lb ib=>?_
  subst e352_2
  exact aY gd rfl rfl λA Q E r k=>jB la lb ia ib r.lt _ _ _ _ (k σ.s.toks _ rfl))
  λ_1=>.vw (λc ea=>.bdo λy eb=>.comp λx hx=>.ok λnv σ π p q gd ra rb=>by
   refine x02 (rC ra ea) λl e355_1=>?_
   subst e355_1
   refine x12 (hx.l σ l gd) λvs la ia=>?_
   refine x24 (rIs rb eb) λb ws e357_2 _1 lb ib=>?_
   subst e357_2
   exact aY gd rfl rfl λA Q E r k=>jB la lb ia ib r.lt _ _ _ _ (k σ.s.toks _ rfl))
  λ_1=>Aw.bd λc g1 r=>.ok r
 | .Lt=>.bdo λx ea=>.bdo λy eb=>.ok ((okB λA Q E s t u k=>PyProof.Rows.lt_int k:II n g x y _ _ _).to ea eb)
 | .LtE=>.bdo λx ea=>.bdo λy eb=>.ok (toI2 ea eb λA Q E s=>le2 A Q E s)
 | .Gt=>.bdo λx ea=>.bdo λy eb=>.ok ((okB λA Q E s t u k=>PyProof.Rows.gt_int k:II n g x y _ _ _).to ea eb)
 | .GtE=>.bdo λx ea=>.bdo λy eb=>.ok ((okB λA Q E s t u k=>PyProof.Rows.ge_int k:II n g x y _ _ _).to ea eb)
 | .In=>.bdo λx ea=>.bdo λc eb=>.dic λl hl=>.ok λnv σ π p q gd ra rb=>by
  refine(rS ra ea).elim λt e365_1=>?_
  subst e365_1
  refine x02 (rC rb eb) λlv e366_1=>?_
  subst e366_1
  refine x12 (hl σ lv gd) λkvs hd hv=>?_
  refine aY gd rfl rfl λA Q E r k=>wpAny_in_of (strKind_is _ _ _ _) (gd.noSys lv) hd.mapOf (k _ _ ?_)
  rcases ar.getS (x:=x) hv with ⟨e1,e2⟩ | ⟨i,t,e1,e2⟩ <;> rw [e1,e2] <;> rfl
 | .NotIn=>.bdo λx ea=>.bdo λc eb=>.wh λhc=>.getM λm hm=>.ok λnv σ π p q gd ra rb=>by
  refine x24 (rIs ra ea) λa vs e371_2 _1 la ia=>?_
  subst e371_2
  refine x02 (rC rb eb) λl e372_1=>?_
  subst e372_1
  obtain⟨c1,c2⟩:=c
  obtain rfl:=mq hc
  refine dG (gd.cm l rfl hm) λo h3 us h4 hr=>?_
  refine aY gd rfl rfl λA Q E r k=>?_
  refine x02 (qy (A:=A.in1) la ia r.lt1 hr) λf1 f2=>?_
  exact SeqAt.notIn_listAt _ (h4.at h3) (λy hy=>f1 y (Array.mem_toList_iff.mpr hy)) (k σ.s.toks _ (by rw [<- f2]; simp; rfl))
end
end
end
section
open PySem PySem.W PyProof.Rows PySem.Calls
section
section
variable {w:W}{σ σ':St}{g g' g1:G}{nv:Bool}{n:Nat}{π:Str->Addr}{v a b:AV}{ls:Loc}{I:Ev}{α β γ:Type}{pos:Pos}
theorem au.still(h:g1.wr=false)(p:au nv ⟨g.w,false⟩ σ g1 σ'):au nv g σ ⟨g1.w,g.wr⟩ σ'/\g1.w=g.w/\σ'.α=σ.α:=⟨⟨p.mv,λz=>⟨z,(p.calm h).2⟩,p.held⟩,(p.calm h).2⟩
noncomputable def RnB{β:Type}(n:Nat)(ls:Loc)(g:G)(v:AV)(c:Fr'->Sem β)(R:W->Fr'->β->St->Prop)(g':G):Prop :=
 ∀ F σ u,Inv F ls g.w σ->RV σ g.w F.π v u->Wp n σ (c F) (PR (ao ls.v) g σ g' λb σ'=>RV σ' g'.w F.π v u/\R g'.w F b σ')
theorem Al.behindA{m:EM α}{c:Fr'->Sem β}{R:α->W->Fr'->β->St->Prop}{Q:Prop}(h:∀ g0,Al m g0 λa g'=>Q/\Rn n ls g0 c (R a) g'):Al (behind v m) g λa g'=>Q/\RnB n ls g v c (R a) g':=by
 unfold Internal.behind
 cases hv:vol v with
 | false=>exact(h g).imp λa g1 r=>⟨r.1,λF σ u i q=>(r.2 F σ i).imp λb σ' p x=>⟨RV.post i.gd p (.inl hv) q,x⟩⟩
 | true=>exact .still ((h _).imp λa g1 r hw=>⟨r.1,λF σ u i q=>(r.2 F σ i).mono λb σ' p=>⟨(p.po.still hw).1,RV.post i.gd (p.po.still hw).1 (.inr (.inr (p.po.still hw).2)) q,p.rv⟩⟩)
theorem Al.behind{m:EM α}{c:Fr'->Sem β}{R:α->W->Fr'->β->St->Prop}(h:∀ g0,Al m g0 λa g'=>Rn n ls g0 c (R a) g'):Al (behind v m) g λa g'=>RnB n ls g v c (R a) g':=(behindA (Q:=True) λg0=>(h g0).imp λ_1 _2 r=>⟨trivial,r⟩).imp λ_1 _2=>And.right
noncomputable def RnV{β:Type}(n:Nat)(ls:Loc)(g:G)(a:AV)(c:Fr'->Value->Sem β)(R:W->Fr'->β->St->Prop)(g':G):Prop:=∀ F σ x,Inv F ls g.w σ->RV σ g.w F.π a x->Wp n σ (c F x) (PR (ao ls.v) g σ g' (R g'.w F))
noncomputable def RnV2{β:Type}(n:Nat)(ls:Loc)(g:G)(a b:AV)(c:Fr'->Value->Value->Sem β)(R:W->Fr'->β->St->Prop)(g':G):Prop :=
 ∀ F σ x y,Inv F ls g.w σ->RV σ g.w F.π a x->RV σ g.w F.π b y->Wp n σ (c F x y) (PR (ao ls.v) g σ g' (R g'.w F))
theorem Rn.e{e:Expr}{c:Fr'->Value->Sem β}{R:W->Fr'->β->St->Prop}(h:EOk n e ls g a g1)(k:RnV n ls g1 a c R g'):Rn n ls g (λF=>eval e F.env >>= c F) R g' :=
 λF σ i=>(h F σ i).seq λx σ1 p r=>k F σ1 x (i.post p) r
theorem Al.e(hI:Snd n I){e:Expr}{f:AV->EM α}{c:Fr'->Value->Sem β}{R:α->W->Fr'->β->St->Prop}(h:∀ a g,Al (f a) g λv g'=>RnV n ls g a c (R v) g'):Al (Internal.bd (I.e e ls) f) g λv g'=>Rn n ls g (λF=>eval e F.env >>= c F) (R v) g' :=
 (hI.e e ls g).bd λa g1 ha=>(h a g1).imp λv g' k=>ha.e k
theorem Al.two2(hI:Snd n I){l r:Expr}{f:AV->AV->EM α}{c:Fr'->Value->Value->Sem β}{R:α->W->Fr'->β->St->Prop}(h:∀ a b g,Al (f a b) g λv g'=>RnV2 n ls g a b c (R v) g') :
 Al (Internal.two2 I ls l r f) g λv g'=>Rn n ls g (λF=>eval l F.env >>= λx=>holding [x] (eval r F.env) >>= λy=>c F x y) (R v) g' :=
 .e hI λa g1=>(Al.behind λg0=>hI.e r ls g0).bd λb g2 hb=>(h a b g2).imp λv g' hc F σ x i q =>
  (Wp.hold (hb F σ x i q)).seq λy σ2 p2 r2=>hc F σ2 x y (i.post p2) r2.1 r2.2
theorem P2.to{c:Value->Value->Sem Value}(h:P2 n g a b c v g'):RnV2 n ls g a b (λ_1=>c) (Vv v) g':=λF σ x y i=>h _ σ F.π x y i.gd
theorem P1.to{c:Value->Sem Value}(h:P1 n g a c v g'):RnV n ls g a (λ_1=>c) (Vv v) g':=λF σ x i=>h _ σ F.π x i.gd
theorem Rn.as{c c':Fr'->Sem β}{R:W->Fr'->β->St->Prop}(h:Rn n ls g c R g')(e:∀ F,c' F=c F):Rn n ls g c' R g':=λF σ i=>by rw [e]; exact h F σ i
theorem Al.as{m:EM α}{c c':Fr'->Sem β}{R:α->W->Fr'->β->St->Prop}(h:Al m g λa g'=>Rn n ls g c (R a) g')(e:∀ F,c' F=c F):Al m g λa g'=>Rn n ls g c' (R a) g':=h.imp λ_1 _2 r=>r.as e
theorem ck{e:Expr}(h:du e=false)(r:List Expr)(env:Env):starEach (e::r) env=(false,eval e env)::starEach r env:=by
 cases e <;> first | rfl | cases h
theorem oF(env:Env):∀{es:List Expr},(es.all λe=>!du e)=true->(backTo pos (starEach es env)).any (·.1)=false
 | [],_1=>rfl
 | e::r,h=>by
  rw [List.all_cons,Bool.and_eq_true] at h
  rw [ck (Bool.not_eq_true' _ |>.mp h.1)]; exact oF env h.2
theorem gH(hI:Snd n I)(pos:Pos):∀ (es:List Expr) (g:G),Al (evL I ls es) g λvs g'=>(es.all λe=>!du e)=true/\LOk n pos es ls g vs g'
 | [],g=>.ok ⟨rfl,λF σ i=>.ret i.gd rfl rfl rfl⟩
 | e::r,g=>(Al.wh λh=>(hI.e e ls g).imp (P:=λv g1=>(!du e)=true/\EOk n e ls g v g1) λv g1 k=>⟨h,k⟩).bd λv g1 ha=>(Al.behindA (v:=v) λg0=>gH hI pos r g0).bd λvs g2 hb=>.ok ⟨by rw [List.all_cons,ha.1,hb.1]; rfl,λF σ i=>by
  show Wp n σ (spliced (backTo pos (starEach (e::r) F.env))) _
  rw [ck (Bool.not_eq_true' _ |>.mp ha.1)]
  exact(ha.2 F σ i).seq λu σ1 p1 r1=>.bnd (Wp.pure (Φ:=λl σ2=>l=[u]/\σ2=σ1) ⟨rfl,rfl⟩) λl σ2 e=>by
   rw [e.1,e.2]
   exact(Wp.hold (hb.2 F σ1 u (i.post p1) r1)).seq λus σ3 p3 r3=>.ret p3.good rfl rfl ⟨u,us,rfl,r3.1,r3.2⟩⟩
theorem oG(hI:Snd n I)(pos:Pos)(es:List Expr)(g:G):Al (evL I ls es) g λvs g'=>LOk n pos es ls g vs g':=(gH hI pos es g).imp λ_1 _2=>And.right
theorem RVL.data:∀{vs:List AV}{us:List Value},bC vs=true->RVL σ w π vs us->RDs σ vs us
 | [],_1,_2,e=>e
 | a::r,_,hd,e=>by
  unfold bC at hd
  cases d:cI a <;> rw [d] at hd
  . cases hd
  . exact e.imp λv e=>e.imp λq e=>⟨e.1,(RV.of d).mp e.2.1,RVL.data hd e.2.2⟩
theorem RVL.length:∀{vs:List AV}{us:List Value},RVL σ w π vs us->us.length=vs.length
 | [],_1,h=>by rw [h]; rfl
 | a::r,_,e=>e.elim λv e=>e.elim λq e=>by rw [e.1]; exact congrArg Nat.succ (RVL.length e.2.2)
theorem gp{a:AV}{r:List AV}{xs:List Int}(e:cJ (a::r)=some xs):∃ x q,a=.int x/\cJ r=some q/\xs=x::q:=by
 have e:(match vI a with | some i=>(cJ r).map (i::·) | none=>none)=some xs:=e
 cases h:vI a with
 | none=>rw [h] at e; cases e
 | some x=>rw [h] at e; exact(Option.map_eq_some_iff.mp e).elim λq z=>⟨x,q,gy h,z.1,z.2.symm⟩
theorem RVL.ints:∀{vs:List AV}{us:List Value}{xs:List Int},cJ vs=some xs->RVL σ w π vs us->IntsAre us xs
 | [],_1,_2,e,h=>by cases e; rw [h]; exact .nil
 | a::r,_,_,e,h=>h.elim λv h=>h.elim λq h=>(gp e).elim λx e=>e.elim λy e=>by
  obtain⟨t,h2⟩:RV σ w π (.int x) v:=e.1▸h.2.1
  rw [h.1,e.2.2,h2]; exact .cons _ t (RVL.ints e.2.1 h.2.2)
theorem rW{vs:List AV}{us:List Value}{t:Nat}(hd:bC vs=true)(r:RVL σ w π vs us):RV (σ.new (listO us) t) w π (bQ vs) (.ref σ.h.objs.size):=by
 unfold bQ
 cases e:cJ vs with
 | some xs=>exact cL (RVL.ints e r)
 | none=>exact⟨_,us,rfl,.inr rfl,kt,RDs.keep .new (RVL.data hd r)⟩
theorem uS{vs:List AV}{f:List AV->AV}{R:AV->G->Prop}(h:bC vs=true->vs.length<=1000->R (f vs) g):Al (okT vs f) g R:=.wh λe=>.ok (h (aw e).1 (Nat.le_of_ble_eq_true (aw e).2))
theorem le16{m:Nat}(h:m<=1000):m<=2 ^ 24:=Nat.le_trans h (by decide)
theorem uT{us:List Value}{vs:List AV}(e:us.length=vs.length)(h:vs.length<=1000):us.length<=sizeLine:=by rw [sizeLine_eq,e]; exact Nat.le_trans h (by decide)
theorem xz(hI:Snd n I){es:List Expr}:Al (Internal.bd (evL I ls es) λvs=>okT vs bQ) g (EOk n (.List es pos) ls g) :=
 (oG hI pos es g).bd λvs g1 h=>uS λd l F σ i=>.stand ((h F σ i).seq λus σ1 p r =>
  mo p.good rfl rfl rfl (λA Q E _1 q=>wpAny_newList (q σ1.s.toks) (uT r.length l)) λt=>rW d r)
theorem uU(hI:Snd n I){es:List Expr}{kk:Nat}:Al (Internal.bd (evL I ls es) λvs=>okT vs .tup) g (EOk n (.Tuple es kk pos) ls g) :=
 (oG hI pos es g).bd λvs g1 h=>uS λd l F σ i=>.stand ((h F σ i).seq λus σ1 p r =>
  mo p.good rfl rfl rfl (λA Q E _1 q=>wpAny_newTuple (q σ1.s.toks) (uT r.length l)) λt=>⟨_,us,rfl,.inr rfl,gG,RDs.keep .new (RVL.data d r)⟩)
theorem xA{x:Str}(hx:kj x=false):Al (uu x ls) g λv g'=>g'=g/\∀ F σ,Inv F ls g.w σ->∃ u,RV σ g.w F.π v u/\∀ A (Q:Value->Shared->Prop) E,Q u σ.s->wpAny M0 A (loadName F.env x) Q E σ.s :=
 .vw (λlv e=>.ok ⟨rfl,λF σ i=>(i.look e hx).imp λu h=>⟨h.1.val,h.2⟩⟩) λ_1=>.wh λhk=>.opt λv e=>⟨rfl,λF σ i=>(glob e).imp λu h =>
  ⟨(RV.of h.2.1).mpr (h.2.2 _ _ i.gd),λA Q E q=>by
   have k:ah x ls.sc=some .globalImplicit:=of_decide_eq_true hk
   have kk:F.env.kindOf x=some .globalImplicit:=(i.fs.kinds x _ k).resolve_right λz=>nomatch z.1
   rw [loadName_read i.fs.fn kk]
   exact xp i.gd i.fs.gl i.fs.bl h.1 q⟩⟩
theorem xB{x:Str}(hx:kj x=false):Al (uu x ls) g (EOk n (.Name x pos) ls g):=(xA hx).imp λv g' h F σ i=>by
 show Wp n σ (eval (.Name x pos) F.env) _
 rw [eval_Name F.env x pos (kr hx).1]
 exact(h.2 F σ i).elim λu k=>.stand (.any λA Q E r q=>k.2 A Q E (q u σ ⟨.same i.gd (by rw [h.1]) (by rw [h.1]),by rw [h.1]; exact k.1⟩))
theorem uV{kk:Nat}:∀{c:Const},Al (Internal.opt (ux c)) g (EOk n (.Constant c kk pos) ls g)
 | .none=>.ok λF σ i=>aY i.gd rfl rfl λA Q E r q=>wpAny_Constant_none (q σ.s.toks _ rfl)
 | .bool b=>.ok λF σ i=>aY i.gd rfl rfl λA Q E r q=>wpAny_Constant_bool (q σ.s.toks _ rfl)
 | .int b=>.ok λF σ i=>aY i.gd rfl rfl λA Q E r q=>wpAny_Constant_int (q _ _ ⟨_,rfl⟩)
 | .str b=>.ok λF σ i=>aY i.gd rfl rfl λA Q E r q=>wpAny_Constant_str (q _ _ ⟨_,rfl⟩)
 | .bytes b=>.ok λF σ i=>aY i.gd rfl rfl λA Q E r q=>λ_1 _2 _3=>q (σ.s.toks+1) _ ⟨_,rfl⟩
 | .float b=>.no
 | .complex ..=>.no
 | .ellipsis=>.no
theorem uW(hI:Snd n I){l r:Expr}{op:Operator}:Al (two2 I ls l r (tV op)) g (EOk n (.BinOp l op r pos) ls g) :=
 (Al.two2 hI (c:=λ_1 x y=>do standAt pos; operate [x,y] (binaryOp op x y)) λa b g=>uO.imp λv g' h F σ x y i ra rb=>.stand (.oper (h.to F σ x y i ra rb))).as λF=>eval_BinOp ..
theorem oH(hI:Snd n I){x:Expr}{op:UnaryOp}:Al (Internal.bd (I.e x ls) λa=>unop op a) g (EOk n (.UnaryOp op x pos) ls g) :=
 (Al.e hI (c:=λ_1 v=>do standAt pos; holding [v] (unaryOp op v)) λa g=>xy.imp λv g' h F σ x i ra=>.stand (.hold (h.to F σ x i ra))).as λF=>rfl
theorem oJ{op:CmpOp}{r:Expr}(h:(!cY r)=true):behindInMarks op r=false:=by cases r <;> first | rfl | cases h
theorem oM(hI:Snd n I){l r:Expr}{op:CmpOp}(hr:(!cY r)=true):Al (two2 I ls l r λa b=>Internal.bd (cmp op a b) λc=>ok (.bool c)) g (EOk n (.Compare l [op] [r] pos) ls g) :=
 (Al.two2 hI (c:=λ_1 x y=>do standAt pos; operate [x,y] (compareOp op x y)) λa b g=>uR.bd λv g' h=>.ok λF σ x y i ra rb=>.stand (.oper (h.to F σ x y i ra rb))).as λF=>by
  rw [eval_Compare1,markedBehindIn_of_false (oJ hr)]
noncomputable def uX(n:Nat)(g:G)(v:AV)(c:Bool)(g':G):Prop:=g'.w=g.w/\g'.wr=g.wr/\(∀ σ π u,aj g.w σ->RV σ g.w π v u->Wp n σ (truthy u) λb σ'=>b=c/\∃ t,σ'=σ.tok t)
theorem tru{u:Value}{c:Bool}(h:∀ (A:Around) (Q:Bool->Shared->Prop) (E:Value->Shared->Prop),bz n A->(∀ t,Q c (σ.tok t).s)->wpAny M0 A (truthy u) Q E σ.s):Wp n σ (truthy u) λb σ'=>b=c/\∃ t,σ'=σ.tok t:=.any λA Q E r q=>h A Q E r λt=>q c (σ.tok t) ⟨rfl,t,rfl⟩
theorem ar.len{K:Type}:∀{kvs:List (K×Value)}{l:List (K×Int)},ar kvs l->kvs.length=l.length/\kvs.isEmpty=l.isEmpty
 | [],_1,h=>by rw [h]; exact⟨rfl,rfl⟩
 | (_1,_2)::r,_,h=>h.elim λi h=>h.elim λq h=>by rw [h.1]; exact⟨congrArg Nat.succ (ar.len h.2.2).1,rfl⟩
theorem mt:Al (lU v) g (uX n g v):=.ei (λe=>.ok ⟨rfl,rfl,λσ π u gd r=>by
 rw [rN r e]; exact tru λA Q E _1 q=>truthy_none (q σ.s.toks)⟩)
 λ_1=>.vw (λb e=>.ok ⟨rfl,rfl,λσ π u gd r=>by
  rw [rBo r e]; exact tru λA Q E _1 q=>wpAny_truthy_bool (q σ.s.toks)⟩)
 λ_1=>.vw (λx e=>.ok ⟨rfl,rfl,λσ π u gd r=>by
  refine(rI r e).elim λt e133_1=>?_
  subst e133_1
  exact tru λA Q E _1 q=>PyProof.Rows.truthy_int (by rw [bne,oE,<- decide_not]; exact q σ.s.toks)⟩)
 λ_1=>.bdo λc e=>.wh λhc=>.getB λb hb=>.bdo λl hl=>.dem λob=>(.ok ⟨rfl,rfl,λσ π u gd r=>by
  refine x02 (rC r e) λlv e136_1=>?_
  subst e136_1
  obtain⟨r,c⟩:=c
  obtain rfl:=oC hc
  refine pJ (gd.cb lv rfl hb) λo h1 l' h2 kvs h3 h4=>?_
  rw [Option.some.inj (h2.symm.trans hl)] at h4
  exact tru λA Q E _1 q=>wpAny_truthy_dict (gd.noSys lv) (Heap.dictOf_iff.mpr ⟨o,h1,h3⟩) (by rw [(ar.len h4).1]; exact Int.lt_of_le_of_lt (Int.ofNat_le.mpr ob) (by decide)) (by rw [(ar.len h4).2]; exact q _)⟩)
theorem uX.run{c:Bool}{u:Value}{vs:List Value}(h:uX n g1 v c g')(gd:aj g1.w σ)(r:RV σ g1.w π v u):Wp n σ (holding vs (truthy u)) (PR nv g1 σ g' λb σ'=>b=c/\RV σ' g'.w π v u) :=
 .hold ((h.2.2 σ π u gd r).mono λb σ' z=>z.2.elim λt q=>by rw [q]; exact⟨.tok gd h.1 h.2.1,z.1,by rw [h.1]; exact r.quiet (.tok λ_1 _2 e=>e) rfl⟩)
theorem uY{b d:Bool}{vs:List Value}{g2:G}(e:b=d)(gd:aj g.w σ)(ew:g2.w=g.w)(er:g2.wr=g.wr):Wp n σ (holding vs (truthy (.bool b))) (PR nv g σ g2 λc _1=>c=d):=.hold (e▸tokB gd ew er λA Q E r q=>wpAny_truthy_bool (q σ.s.toks))
set_option backward.match.sparseCases false in
noncomputable def tGen:Expr->Bool
 | .UnaryOp op _1 _2=>match op with
  | .Not=>false
  | _1=>true
 | .BoolOp ..=>false
 | .IfExp ..=>false
 | .Compare ..=>false
 | _1=>true
theorem oN{e:Expr}{env:Env}(h:tGen e=true)(whole:Sem Value) :
 isTrue e env whole=(do let v <- whole; standAt e.pos; holding [v] (truthy v)):=by
 cases e with
 | UnaryOp op x pos=>cases op <;> first | rfl | exact xFT h
 | _=>first | rfl | exact xFT h
theorem qz(hI:Snd n I){e:Expr}(he:tGen e=true):Al (Internal.bd (I.e e ls) λv=>Internal.bd (lU v) br) g (TOk n e ls g) :=
 (Al.e hI (c:=λ_1 u=>do standAt e.pos; holding [u] (truthy u)) λv g=>mt.bd λc g1 t=>.br1 λF σ u i r=>.stand ((t.run i.gd r).imp λb σ' _1 p=>p.1)).as λF=>oN he _
theorem Ax(hI:Snd n I){x:Expr}:Al (Internal.bd (I.t x ls) λb=>ok (!b)) g (TOk n (.UnaryOp .Not x pos) ls g) :=
 (hI.t x ls g).bd λb g1 h=>.ok λF σ i=>(h F σ i).seq (d:=λb=>pure !b) λc σ1 p r=>.ret p.good rfl rfl (by rw [r])
noncomputable def sh(op:BoolOp)(b:Bool):Bool:=match op,b with
 | .And,false | .Or,true=>true
 | _1,_2=>false
theorem fL{op:BoolOp}{e:Expr}{r:List Expr}{env:Env}:allTrue op (e::r) env=(do let t <- isTrue e env (eval e env); match ij op t with | true=>pure t | false=>allTrue op r env):=by
 cases op <;> refine congrArg (isTrue e env (eval e env) >>= ·) (funext λt=>?_) <;> cases t <;> rfl
theorem qA(hI:Snd n I){op:BoolOp}:∀ (es:List Expr) (g:G),Al (tAll I op ls es) g λb g'=>Rn n ls g (λF=>allTrue op es F.env) (Vb b) g'
 | [],g=>.ok λF σ i=>.ret i.gd rfl rfl (by cases op <;> rfl)
 | e::r,g=>(hI.t e ls g).bd λb g1 h=>.ei (λc=>.ok λF σ i=>by
  show Wp n σ (allTrue op (e::r) F.env) _
  rw [fL]
  exact(h F σ i).seq λt σ1 p q=>by rw [q,c]; exact .ret p.good rfl rfl rfl) λc=>(qA hI r g1).imp λb g2 k F σ i=>by
  show Wp n σ (allTrue op (e::r) F.env) _
  rw [fL]
  exact(h F σ i).seq λt σ1 p q=>by rw [q,c]; exact k F σ1 (i.post p)
theorem gq{op:BoolOp}{e e':Expr}{r:List Expr}{env:Env}:boolOp pos op (evalEach (e::e'::r) env)=(do let v <- eval e env; standAt pos; let t <- holding [v] (truthy v); match ij op t with | true=>pure v | false=>boolOp pos op (evalEach (e'::r) env)):=by
 cases op <;> refine congrArg (eval e env >>= ·) (funext λv=>congrArg (standAt pos >>= ·) (funext λ_1=>congrArg (holding [v] (truthy v) >>= ·) (funext λt=>?_))) <;> cases t <;> rfl
theorem qB(hI:Snd n I){op:BoolOp}:∀ (es:List Expr) (g:G),Al (vAll I op ls es) g λv g'=>Rn n ls g (λF=>boolOp pos op (evalEach es F.env)) (Vv v) g'
 | [],g=>.no
 | [e],g=>hI.e e ls g
 | e::e'::r,g=>(hI.e e ls g).bd λv g1 h=>mt.bd λc g2 t=>.br <| .ei (λs=>.ok λF σ i=>by
  show Wp n σ (boolOp pos op (evalEach (e::e'::r) F.env)) _
  rw [gq]
  exact(h F σ i).seq λu σ1 p q=>.stand ((t.run p.good q).seq λb σ2 p2 r2=>by rw [r2.1,s]; exact .ret p2.good rfl rfl r2.2)) λs=>(qB hI (e'::r) _).imp λv g3 k F σ i=>by
  show Wp n σ (boolOp pos op (evalEach (e::e'::r) F.env)) _
  rw [gq]
  exact(h F σ i).seq λu σ1 p q=>.stand ((t.run p.good q).seq λb σ2 p2 r2=>by
   rw [r2.1,s]; exact k F σ2 ((i.post p).post p2))
theorem uZ(hI:Snd n I){c a b:Expr}:Al (Internal.bd (I.t c ls) λd=>ei d (I.e a ls) (I.e b ls)) g (EOk n (.IfExp c a b pos) ls g):=Al.as (c:=λF=>isTrue c F.env (eval c F.env) >>= λt=>if t then eval a F.env else eval b F.env)
 ((hI.t c ls g).bd λd g1 h=>.ei
 (λe=>(hI.e a ls g1).imp λv g2 k F σ i=>(h F σ i).seq λt σ1 p q=>by rw [q,e]; exact k F σ1 (i.post p))
 (λe=>(hI.e b ls g1).imp λv g2 k F σ i=>(h F σ i).seq λt σ1 p q=>by rw [q,e]; exact k F σ1 (i.post p))) λF=>rfl
noncomputable def CT(n:Nat)(g:G)(a b:AV)(op:CmpOp)(d:Bool)(g':G):Prop:=∀ nv σ π x y,aj g.w σ->RV σ g.w π a x->RV σ g.w π b y->Wp n σ (compareOp op x y) (PR nv g σ g' λu _1=>u=.bool d)
theorem kx{op:CmpOp}:Al (oj op a b) g (CT n g a b op):=uR.bd λe g1 h=>.br1 h
theorem CT.to{op:CmpOp}{d:Bool}{c:Fr'->Value->Value->Sem Bool}(hc:c=λ_1 x y=>do standAt pos; let u <- operate [x,y] (compareOp op x y); holding [u] (truthy u))(h:CT n g a b op d g'):RnV2 n ls g a b c (Vb d) g':=λF σ x y i ra rb=>by
 rw [hc]
 exact .stand ((Wp.oper (h _ σ F.π x y i.gd ra rb)).seq λu σ1 p q=>by rw [q]; exact uY rfl p.good rfl rfl)
theorem mu(hI:Snd n I){l r:Expr}{op:CmpOp}(hr:(!cY r)=true):Al (two2 I ls l r (oj op)) g (TOk n (.Compare l [op] [r] pos) ls g) :=
 (Al.two2 hI λa b g=>kx.imp λd g' h=>h.to rfl).as λF=>by rw [isTrue_Compare1,markedBehindIn_of_false (oJ hr)]
theorem ky(hI:Snd n I){l r r':Expr}{op op':CmpOp}(hr:(!cY r')=true):Al (two2 I ls l r λa b=>Internal.bd (oj op a b) λd=>ei d (wh (!vol b) (Internal.bd (I.e r' ls) λb'=>oj op' b b')) (ok false)) g (TOk n (.Compare l [op,op'] [r,r'] pos) ls g):=by
 refine Al.as (Al.two2 hI (R:=Vb) (c:=λF x y=>do
  standAt pos
  let c <- holding [x,y] (compareOp op x y)
  release [x,y] [c]
  if <- holding [c,y] (truthy c) then do
   let y' <- holding [y] (eval r' F.env)
   standAt pos
   let c <- operate [y,y'] (compareOp op' y y')
   holding [c] (truthy c)
  else pure false) λa b g=>(kx (n:=n)).bd λd g1 h=>.ei (λhd=>.wh λhv=>(hI.e r' ls _).bd λb' g3 h3=>(kx (n:=n)).imp λd2 g4 h4 F σ x y i ra rb=>?_)
  λhd=>.ok λF σ x y i ra rb=>?_) λF=>?_
 . have vb:=Bool.not_eq_true' _ |>.mp hv
   refine .stand ((Wp.hold (h _ σ F.π x y i.gd ra rb)).seq λu σ1 p q=>.rel ?_)
   have rb1:=RV.post i.gd p (.inl vb) rb
   rw [q]
   refine(uY rfl p.good rfl rfl).seq λt σ2 p2 q2=>?_
   have i2:=(i.post p).post p2
   rw [q2,hd]
   exact(Wp.hold (h3 F σ2 i2)).seq λy' σ3 p3 r3=>h4.to rfl F σ3 y y' (i2.post p3) (RV.post i2.gd p3 (.inl vb) (RV.post (i.post p).gd p2 (.inl vb) rb1)) r3
 . refine .stand ((Wp.hold (h _ σ F.π x y i.gd ra rb)).seq λu σ1 p q=>.rel ?_)
   rw [q]
   exact(uY rfl p.good rfl rfl).seq λt σ2 p2 q2=>by rw [q2,hd]; exact .ret p2.good rfl rfl rfl
 . show(do
    let x <- eval l F.env
    let y <- holding [x] (eval r F.env)
    standAt pos
    let c <- holding [x,y] (compareOp op x y)
    release [x,y] [c]
    if <- holding [c,y] (truthy c) then do
     let y' <- holding [y] (markedBehindIn op' r' (eval r' F.env))
     standAt pos
     let c <- operate [y,y'] (compareOp op' y y')
     holding [c] (truthy c)
    else pure false)=_
   rw [markedBehindIn_of_false (oJ hr)]
end
end
end
section
open PySem PySem.W PyProof.Rows PySem.Calls
section
noncomputable def jD(o:Obj):Prop:=(∀ vs n,o.data≠.seq vs n)/\∀ b n,o.data≠.bytearray b n
section
variable {w:W}{σ σ':St}{g g' g1:G}{nv:Bool}{n:Nat}{π:Str->Addr}{v a b:AV}{ls:Loc}{I:Ev}{α β γ:Type}{pos:Pos}{F:Fr'}{X:Addr->Prop}{p:Addr}{h':Heap}{t:Nat}
theorem But.keep(hb:But p σ.h h')(hP:¬ σ.S p):bW σ (σ.to h' t):=⟨λ_1 h=>h,λb o h e=>hb b o (λz=>hP (z▸h)) e⟩
theorem But.ex(hb:But p σ.h h')(ha:∃ o,h'.get? p=some o){b:Addr}{o:Obj}(e:σ.h.get? b=some o):∃ o',h'.get? b=some o':=(Classical.em (b=p)).elim (λz=>z▸ha) λz=>⟨o,hb b o z e⟩
theorem aL.lone(x:aj g.w σ)(hP:aO σ g.w p)(hX:X p)(hb:But p σ.h h')(ha:∃ o,h'.get? p=some o)(ew:g'.w=g.w)(er:g'.wr=g.wr):aL X g σ g' (σ.to h' t) :=
 ⟨⟨λ_1 h=>h,λb o e c no=>hb b o (λz=>c (z▸hX)) e,λb o e=>hb.ex ha e,λ_1 h=>.inl h,λq l=>.inl ⟨ew▸l,rfl⟩,λq l _1=>⟨ew▸l,rfl⟩,ew▸x.lone hP.1 hP.2.1 hb,rfl,rfl⟩,λz=>⟨er▸z,ew,rfl⟩⟩
theorem aO.lone{b:Addr}(hb:But p σ.h h')(ha:∃ o,h'.get? p=some o)(x:aO σ w b):aO (σ.to h' t) w b:=⟨x.1,x.2.1,x.2.2.elim λo e=>hb.ex ha e⟩
theorem LR.but{x:Str}{lv:LV}{u:Value}(hb:But p σ.h h')(hP:¬ σ.S p)(hk:∀ o,σ.h.get? p=some o->jD o)(l:LR σ w π x lv u):LR (σ.to h' t) w π x lv u:=by
 cases lv with
 | v b=>exact RV.quiet (hb.keep hP) rfl l
 | own xs=>exact⟨l.1,l.2.imp λo e=>⟨hb _ o (λz=>e.2.elim λvs y=>y.1.s.elim λm d=>(hk o (z▸e.1)).1 _ _ d) e.1,e.2⟩⟩
 | ownB b=>exact⟨l.1,hb _ _ (λz=>(hk _ (z▸l.2)).2 _ _ rfl) l.2⟩
theorem Ns.noSeq{h:Heap}{m:Str->Option Value}(x:h.Ns p m)(o:Obj)(e:h.get? p=some o):jD o:=by
 refine x33 x λo' es ep e1 e2 _1=>?_
 rw [Option.some.inj (e1.symm.trans e)] at e2
 exact⟨λ_1 _2 z=>(nomatch e2.symm.trans z),λ_1 _2 z=>(nomatch e2.symm.trans z)⟩
theorem Cell.noSeq{h:Heap}{v:Option Value}(x:h.IsCell p v)(o:Obj)(e:h.get? p=some o):jD o:=by
 refine x12 x λo' e1 e2=>?_
 rw [Option.some.inj (e1.symm.trans e)] at e2
 exact⟨λ_1 _2 z=>(nomatch e2.symm.trans z),λ_1 _2 z=>(nomatch e2.symm.trans z)⟩
theorem Ns.noCell{h:Heap}{m:Str->Option Value}{v:Option Value}(x:h.Ns p m)(y:h.IsCell p v):False:=by
 refine x33 x λo' es ep e1 e2 _1=>?_
 refine x12 y λo e3 e4=>?_
 rw [Option.some.inj (e1.symm.trans e3)] at e2
 exact nomatch e2.symm.trans e4
theorem cC{x y:Str}{lv v:LV}(e:ah y (ls.put x lv).v=some v):y=x/\v=lv\/y≠x/\ah y ls.v=some v:=by
 by_cases z:y=x
 . rw [z] at e; exact .inl ⟨z,(Option.some.inj ((ou x lv ls.v).symm.trans e)).symm⟩
 . exact .inr ⟨z,(gn lv z ls.v).symm.trans e⟩
theorem may_e{x:Str}(h:ls.may x=true):∃ kd,ah x ls.sc=some kd/\(kd=.local\/kd=.cell):=by
 rcases(of_decide_eq_true h:_\/_) with e | e
 . exact⟨_,e,.inl rfl⟩
 . exact⟨_,e,.inr rfl⟩
noncomputable def iy(F:Fr')(ls:Loc)(x:Str)(lv:LV):Prop:=eT lv=true->F.X (F.π x)/\∀ y v,y≠x->ah y ls.v=some v->eT v=true->F.π y≠F.π x
theorem FrS.put{x:Str}{lv:LV}{kd:NameKind}(f:FrS F ls)(k1:ah x ls.sc=some kd)(k3:kd=.local\/kd=.cell)(k2:F.env.kindOf x=some kd)(ho:iy F ls x lv):FrS F (ls.put x lv) where
 fn:=f.fn
 gl:=f.gl
 bl:=f.bl
 kinds:=f.kinds
 dom z v e:=(cC e).elim (λc=>by
  rw [c.1]
  exact⟨by show ah x ls.sc≠none; rw [k1]; nofun,by rw [k2]; rcases k3 with rfl | rfl <;> simp⟩) λc=>f.dom z v c.2
 locB:=f.locB
 celL:=f.celL
 celB:=f.celB
 celI:=f.celI
 ownB z v e o:=(cC e).elim (λc=>by rw [c.1]; rw [c.2] at o; exact(ho o).1) λc=>f.ownB z v c.2 o
 ownI z z' v v' e o e' o' q:=(cC e).elim (λc=>(cC e').elim (λc'=>c.1.trans c'.1.symm) λc'=>absurd (by rw [<- q,c.1]) ((ho (c.2▸o)).2 z' v' c'.1 c'.2 o'))
  λc=>(cC e').elim (λc'=>absurd (by rw [q,c'.1]) ((ho (c'.2▸o')).2 z v c.1 c.2 o)) λc'=>f.ownI z z' v v' c.2 o c'.2 o' q
theorem Inv.kind(i:Inv F ls w σ){x:Str}{kd:NameKind}(k1:ah x ls.sc=some kd)(k3:kd=.local\/kd=.cell):F.env.kindOf x=some kd:=(i.fs.kinds x _ k1).resolve_right λz=>by
 rcases k3 with rfl | rfl <;> exact nomatch z.1
theorem mw{x:Str}{lv:LV}{u:Value}(hm:ls.may x=true)(i:Inv F ls w σ)(hl:LR σ w F.π x lv u)(ho:iy F ls x lv)(A:Around)(Q:Unit->Shared->Prop)(E:Value->Shared->Prop)
 (k:∀ p h' t,F.X p->But p σ.h h'->(∃ o,h'.get? p=some o)->Inv F (ls.put x lv) w (σ.to h' t)->Q () (σ.to h' t).s):wpAny M0 A (bindName F.env x u) Q E σ.s:=by
 refine x12 (may_e hm) λkd k1 k3=>?_
 have k2:=i.kind k1 k3
 have fs:=i.fs.put k1 k3 k2 ho
 refine x12 i.fd.loc λm hn hv=>?_
 refine wpAny_bindName ?_
 rcases k3 with rfl | rfl
 . refine wpAny_storeName_local k2 hn (λh' hn' hs=>?_) (by rw [i.fs.fn]; rfl)
   have P:=i.fd.xP _ i.fs.locB
   have hb:=SameBut.but hs
   have ha:∃ o,h'.get? F.env.locals=some o:=hn'.imp λo e=>e.elim λ_1 e=>e.elim λ_1 e=>e.1
   refine k F.env.locals h' _ i.fs.locB hb ha ⟨i.gd.lone P.1 P.2.1 hb,fs,λb h=>(i.fd.xP b h).lone hb ha,λz c e d=>⟨(i.fd.celP z c e d).1.lone hb ha,(i.fd.celP z c e d).2.imp λv h=>h.sameBut hs λq=>Ns.noCell hn (q▸h)⟩,⟨_,hn',λz v e ek=>?_⟩,λz c v e ek hz=>?_⟩
   . exact(cC e).elim (λq=>⟨u,if_pos q.1,by rw [q.1,q.2]; exact hl.but hb P.1 (Ns.noSeq hn)⟩) λq=>(hv z v q.2 ek).imp λu' y=>⟨(if_neg q.1).trans y.1,y.2.but hb P.1 (Ns.noSeq hn)⟩
   . exact(cC hz).elim (λq=>absurd (q.1▸k2) ek) λq=>(i.fd.cel z c v e ek q.2).imp λu' y=>⟨y.1.sameBut hs λq=>Ns.noCell hn (q▸y.1),y.2.but hb P.1 (Ns.noSeq hn)⟩
 . refine(i.fs.celL x (.inl k2) (by show ah x ls.sc≠none; rw [k1]; nofun)).elim λc e1=>?_
   refine yae (i.fd.celP x c e1 (by show ah x ls.sc≠none; rw [k1]; nofun)) λP v0 hc0=>?_
   refine wpAny_storeName_cell i.fs.fn k2 e1 hc0 λh' hc' hs=>?_
   have hb:=SameBut.but hs
   have ha:∃ o,h'.get? c=some o:=hc'.imp λo e=>e.1
   refine k c h' σ.s.toks (i.fs.celB x c e1 k1) hb ha ⟨i.gd.lone P.1 P.2.1 hb,fs,λb h=>(i.fd.xP b h).lone hb ha,λz c' e d=>⟨(i.fd.celP z c' e d).1.lone hb ha,?_⟩,⟨m,hn.sameBut hs λq=>Ns.noCell hn (q▸hc0),λz v e ek=>?_⟩,λz c' v e ek hz=>?_⟩
   . exact(Classical.em (c'=c)).elim (λq=>⟨_,q▸hc'⟩) λq=>(i.fd.celP z c' e d).2.imp λv h=>h.sameBut hs q
   . exact(cC e).elim (λq=>by rw [q.1] at ek; exact nomatch k2.symm.trans ek) λq=>(hv z v q.2 ek).imp λu' y=>⟨y.1,y.2.but hb P.1 (Cell.noSeq hc0)⟩
   . exact(cC hz).elim (λq=>by
      rw [q.1] at e
      rw [<- Option.some.inj (e1.symm.trans e),q.1,q.2]; exact⟨u,hc',hl.but hb P.1 (Cell.noSeq hc0)⟩) λq=>(i.fd.cel z c' v e ek q.2).imp λu' y=>⟨y.1.sameBut hs λq'=>q.1 (i.fs.celI z x c' e (q'▸e1)),y.2.but hb P.1 (Cell.noSeq hc0)⟩
theorem fM{x:Str}{lv:LV}{u:Value}(hm:ls.may x=true)(i:Inv F ls g.w σ)(hl:LR σ g.w F.π x lv u)(ho:iy F ls x lv):Wp n σ (bindName F.env x u) λ_1 σ'=>aL F.X g σ g σ'/\Inv F (ls.put x lv) g.w σ'/\σ'.α=σ.α :=
 .any λA Q E r q=>mw hm i hl ho A Q E λp h' t hX hb ha i'=>q _ (σ.to h' t) ⟨.lone i.gd (i.fd.xP p hX) hX hb ha rfl rfl,i',rfl⟩
theorem Al.asg{x:Str}{v:LV}{f:Loc->EM α}{Q:α->G->Prop}(h:ls.may x=true->Al (f (ls.put x v)) g Q):Al (Internal.bd (Internal.asg ls x v) f) g Q:=by
 unfold Internal.asg Internal.wh
 cases e:ls.may x with
 | true=>exact h e
 | false=>exact .no
theorem Wp.seqS{c:Sem β}{d:β->Sem Flow}{R:β->St->Prop}{y:Fl×Loc}(x:Wp n σ c (PR nv g σ g1 R))(h:∀ b σ1,au nv g σ g1 σ1->R b σ1->Wp n σ1 (d b) (SR F g1 σ1 y g')):Wp n σ (c >>= d) (SR F g σ y g') :=
 x.bnd λb σ1 p=>(h b σ1 p.po p.rv).mono λ_1 _2=>.pre p.po.toS
theorem Wp.retS{y:Fl×Loc}{f:Flow}(hf:fe σ g.w F.π y.1 f)(i:Inv F y.2 g.w σ):Wp n σ (Pure.pure f) (SR F g σ y g):=.pure (.of (au.toS (.refl (nv:=true) i.gd)) hf i)
theorem gI{x:Str}{lv:LV}{u:Value}(hm:ls.may x=true)(i:Inv F ls g.w σ)(hl:LR σ g.w F.π x lv u)(ho:iy F ls x lv):Wp n σ (do bindName F.env x u; Pure.pure .next) (SR F g σ (.nx,ls.put x lv) g) :=
 (fM hm i hl ho).bnd λ_1 σ1 h=>.pure (.of h.1 rfl h.2.1)
noncomputable def vc(f:Flow)(c:Sem Flow):Sem Flow:=match f with
 | .next=>c
 | f=>pure f
theorem cW(st:Stmt)(r:List Stmt)(env:Env):execs (st::r) env=(do let f <- exec st env; vc f (execs r env)):=rfl
theorem rX{c:Sem Flow}{f:Flow}:∀{fl:Fl},(fl=.nx->False)->fe σ w π fl f->vc f c=pure f
 | .nx,hn,_1=>(hn rfl).elim
 | .ct,_1,h=>by rw [show f=.cont from h]; rfl
 | .bk,_1,h=>by rw [show f=.brk from h]; rfl
 | .rt v,_1,h=>by rw [h.choose_spec.1]; rfl
theorem BOk.stop{st:Stmt}{r:List Stmt}{x:Fl×Loc}(h:SOk n st ls g x g')(hn:x.1=.nx->False):BOk n (st::r) ls g x g':=λF σ i=>by
 rw [cW]
 exact(h F σ i).bnd λf σ1 p=>by
  rw [rX hn p.ex.choose_spec.choose_spec.2.1]; exact .pure p
theorem BOk.go{st:Stmt}{r:List Stmt}{x:Fl×Loc}{l1:Loc}(h:SOk n st ls g (.nx,l1) g1)(k:BOk n r l1 g1 x g'):BOk n (st::r) ls g x g':=λF σ i=>by
 rw [cW]
 exact(h F σ i).bnd λf σ1 p=>by
  have e:f=.next:=p.ex.choose_spec.choose_spec.2.1
  subst e
  exact p.seq λF' e i'=>e▸k F' σ1 i'
set_option backward.match.sparseCases false in
theorem vd{x:Fl×Loc}{st:Stmt}{r:List Stmt}{f:Loc->EM (Fl×Loc)}(h:SOk n st ls g x g1)(k:∀ l,Al (f l) g1 (BOk n r l g1)):Al (match x.1 with
 | .nx=>f x.2
 | fl=>ok (fl,x.2)) g1 (BOk n (st::r) ls g):=by
 obtain⟨fl,l1⟩:=x
 cases fl with
 | nx=>exact(k l1).imp λy g2 k=>BOk.go h k
 | ct=>exact .ok (BOk.stop h nofun)
 | bk=>exact .ok (BOk.stop h nofun)
 | rt v=>exact .ok (BOk.stop h nofun)
theorem ff(hI:Snd n I):∀ (b:List Stmt) (ls:Loc) (g:G),Al (evS I b ls) g (BOk n b ls g)
 | [],ls,g=>.ok λF σ i=>.retS rfl i
 | st::r,ls,g=>(hI.s st ls g).bd λx g1 h=>vd h λl=>ff hI r l g1
theorem xC:Al (ok (.nx,ls)) g (SOk n (.Pass pos) ls g):=.ok λF σ i=>.stand (.retS rfl i)
theorem my:Al (ok (.ct,ls)) g (SOk n (.Continue pos) ls g):=.ok λF σ i=>.stand (.retS rfl i)
theorem rY(hI:Snd n I):∀{v:Option Expr},Al (vw v (λe=>Internal.bd (I.e e ls) λv=>ok (.rt v,ls)) (ok (.rt .none,ls))) g (SOk n (.Return v pos) ls g)
 | none=>.ok λF σ i=>.stand (.retS ⟨_,rfl,rfl⟩ i)
 | some e=>(hI.e e ls g).bd λv g1 h=>.ok λF σ i=>.stand ((h F σ i).seqS λu σ1 p r=>.retS ⟨u,rfl,r⟩ (i.post p))
theorem If_ok(hI:Snd n I){t:Expr}{a b:List Stmt}:Al (Internal.bd (I.t t ls) λd=>ei d (evS I a ls) (evS I b ls)) g (SOk n (.If t a b pos) ls g):=(hI.t t ls g).bd λd g1 h=>.ei
 (λe=>(ff hI a ls g1).imp λx g2 k F σ i=>.stand ((h F σ i).seqS (d:=λt=>if t then execs a F.env else execs b F.env) λt σ1 p q=>by rw [q,e]; exact k F σ1 (i.post p)))
 (λe=>(ff hI b ls g1).imp λx g2 k F σ i=>.stand ((h F σ i).seqS (d:=λt=>if t then execs a F.env else execs b F.env) λt σ1 p q=>by rw [q,e]; exact k F σ1 (i.post p)))
theorem Inv.notInter(i:Inv F ls w σ):interactive F.env=false:=by unfold interactive; rw [i.fs.fn]; rfl
theorem aZ{e:Expr}{o:Option Expr}{l:Nat}{env:Env}(h:(!cz e)=true):swapsWith e o l env=pure false:=by cases e <;> first | rfl | cases h
theorem qC{a:AV}(h:jy a=true):a=.none\/(∃ b,a=.bool b)\/∃ i,a=.int i:=by
 unfold jy at h
 rcases Bool.or_eq_true_iff.mp h with h | h
 . exact .inl (dS h)
 . rcases Bool.or_eq_true_iff.mp h with h | h
   . exact .inr (.inl ((Option.isSome_iff_exists.mp h).imp λ_1=>hY))
   . exact .inr (.inr ((Option.isSome_iff_exists.mp h).imp λ_1=>gy))
theorem notR{u:Value}{v:AV}(h:jy v=true)(r:RV σ w π v u)(a:Addr):u≠.ref a:=λe=>by
 rcases qC h with z | ⟨b,z⟩ | ⟨i,z⟩ <;> rw [z] at r
 . exact nomatch (show u=.none from r).symm.trans e
 . exact nomatch (show u=.bool _ from r).symm.trans e
 . exact r.elim λt r=>nomatch r.symm.trans e
theorem xD(hI:Snd n I){e:Expr}:Al (zm I ls e) g (SOk n (.Expr e pos) ls g):=.wh λhc=>(hI.e e ls g).bd λv g1 h=>.wh λhv=>.ok λF σ i=>by
 rw [exec_Expr F.env e pos i.notInter (aZ hc)]
 exact .stand ((h F σ i).seqS λu σ1 p r=>by
  rw [dropValue_plain (notR hv r)]
  exact .retS rfl (i.post p))
theorem rZ(hI:Snd n I){x:Str}{e:Expr}{p:Pos}:Al (uy I ls x e) g (SOk n (.Assign [.Name x p] e pos) ls g):=.wh λhc=>(hI.e e ls g).bd λv g1 h=>.wh λhv=>.asg λhm=>.ok λF σ i=>by
 rw [exec_Assign_Name F.env x p e pos (aZ hc)]
 exact .stand ((h F σ i).seqS λu σ1 p r=>.stand (gI hm (i.post p) r nofun))
theorem Ay(hI:Snd n I){x:Str}{op:Operator}{e:Expr}{p:Pos}{a:AV}(hx:kj x=false)(ha:ls.get x=some (.v a)):Al (wh (!vol a) (Internal.bd (I.e e ls) λb=>Internal.bd (iop op a b) λv=>Internal.bd (asg ls x (.v v)) λls'=>ok (.nx,ls'))) g (SOk n (.AugAssign (.Name x p) op e pos) ls g) :=
 .wh λhv=>(hI.e e ls g).bd λb g1 h=>Au.bd λv g2 h2=>.asg λhm=>.ok λF σ i=>by
 rw [exec_AugAssign_Name]
 refine x12 (i.look ha hx) λva l k=>?_
 have hvol:=Bool.not_eq_true' _ |>.mp hv
 refine .stand (.bnd (Φ:=λu σ1=>u=va/\σ1=σ) (.any λA Q E r q=>k A Q E (q va σ ⟨rfl,rfl⟩)) λu σ1 z=>?_)
 rw [z.1,z.2]
 exact(Wp.hold (h F σ i)).seqS λvb σ2 p2 r2=>.stand ((Wp.oper (h2 _ σ2 F.π va vb p2.good (RV.post i.gd p2 (.inl hvol) l) r2)).seqS λu σ3 p3 r3=>.stand (gI hm ((i.post p2).post p3) r3 nofun))
end
end
end
section
open PySem PySem.W PyProof.Rows PySem.Calls
open Builtin Builtin.ObjectAttr Builtin.Getset_descriptor
section
theorem bfP(P:Params):(findIn (KP P) (.ref CB) "__getattribute__",findIn (KP P) (.ref CB) "__getattr__",(clsIn (KP P) CB).isSome,findIn (KP P) (.ref CB) "__setattr__",plainOver (KP P) CB) =
 (some (some (.builtin "object.__getattribute__")),some none,true,some (some (.builtin "object.__setattr__")),true):=by kernel_rfl
noncomputable def slP(K:Frag)(x:String):Nat:=match findIn K (.ref CB) (Str.ofString x) with
 | some (some (.ref p))=>p
 | _1=>0
theorem Az(P:Params):gk.map (λq=>(findIn (KP P) (.ref CB) (Str.ofString q.1),specialIn (KP P) (.ref (slP (KP P) q.1)) "__get__",takesIn (KP P) (.ref (slP (KP P) q.1)),slotIn (KP P) (slP (KP P) q.1) CB,typeIn (KP P) (.ref (slP (KP P) q.1)),Nat.blt q.2 11)) =
 gk.map λq=>(some (some (.ref (slP (KP P) q.1))),some (some (.builtin "member_descriptor.__get__")),some true,some q.2,some (.type "member_descriptor"),true):=by kernel_rfl
theorem xE{x:Str}{i:Nat}{l:List (String×Nat)}(h:dI x l=some i):∃ s,(s,i)∈l/\x=Str.ofString s :=
 x13 (pO h) λp h1 h2 h3=>⟨p.1,by rw [<- h3]; exact h1,bm.mp h2⟩
structure ve(x:Str)(i p:Nat):Prop where
 f:findIn K0 (.ref CB) x=some (some (.ref p))
 g:specialIn K0 (.ref p) "__get__"=some (some (.builtin "member_descriptor.__get__"))
 t:takesIn K0 (.ref p)=some true
 s:slotIn K0 p CB=some i
 m:typeIn K0 (.ref p)=some (.type "member_descriptor")
 l:i < 11
theorem qD{x:Str}{i:Nat}(h:dI x gk=some i):∃ p,ve x i p:=by
 refine x12 (xE h) λs h1 e30_2=>?_
 subst e30_2
 have e:=Prod.mk.inj (cV (Az w0.params) _ h1)
 have e2:=Prod.mk.inj e.2
 have e3:=Prod.mk.inj e2.2
 have e4:=Prod.mk.inj e3.2
 have e5:=Prod.mk.inj e4.2
 exact⟨_,e.1,e2.1,e3.1,e4.1,e5.1,Nat.blt_eq.mp e5.2⟩
section
variable {prog:Program}{w:World}{A:Around}{E:Value->Shared->Prop}{s:Shared}{K:Frag}{p x C:Addr}{R:Result->Shared->Prop}
theorem vf{ox:Obj}{od:Option Obj}{v:Value}{i:Nat}(X:K.In s.heap)(I:InstAt s.heap x ox C od)
 (hp:slotIn K p C=some i) (hi:i < 11)
 (h:R (.ok (.ret .none)) { s with heap:=s.heap.update x λo=>{ o with slots:=(o.slots++Array.replicate (i+1-o.slots.size) none).setIfInBounds i (some v) } }) :
 codeAny (model prog w) A (.call (.builtin "member_descriptor.__set__") ⟨[.ref p,.ref x,v],[]⟩) R s:=by
 refine x85 (slot_of X hp) λn tn owner behind tb d sl cd ho hc hm hb e1=>?_
 subst e1
 obtain⟨hh,g,dr,t,os⟩:=s
 have L0:=I.type (M:=model prog w)
 have L1:=looks_mroIn (M:=model prog w) X hm
 have L2:Looks (model prog w) hh (Slots.slotNamesOf (.ref C)) cd.slotNames:=(looks_clsIn X hc).andThen .now
 have hx:=I.at_
 dsimp only at ho hx L0 L1
 have f0:=looks_field (M:=model prog w) ho 0 (v:=.str n tn) rfl
 have f1:=looks_field (M:=model prog w) ho 1 (v:=owner) rfl
 have f3:=looks_field (M:=model prog w) ho 3 (v:=.builtin "proto.slot#set") rfl
 have f4:=looks_field (M:=model prog w) ho 4 (v:=.int behind tb) rfl
 refine codeAny_call_builtin KF.slot_mset.plain KF.entry_mset (KF.slot_mset.check _ _ _ _ _ _ _ _ ⟨_,ho,rfl⟩ (KF.args_mset _ _ _) ?_)
 unfold Builtin.«member_descriptor.__set__» descrSet descrStoreThrough descrCheckInstance descrNameAndClass isInstance
 have f5:Looks (model prog w) hh (descrItself (.ref p)) [.ref p]:=((Looks.ld (part:=none) ho).andThen .now).andThen (Looks.of_pure (by kernel_rfl))
 repeat lk
 refine⟨Code.quiet_builtin _ (by decide +kernel),codeAny_builtin KF.entry_slotset ?_⟩
 unfold Builtin.«proto.slot#set» Slots.target
 repeat lk
 rw [if_neg hb]
 refine wpAny_pure (wpAny_bind ?_)
 unfold setSlotAt
 dsimp only
 rw [if_neg (by rw [sizeLine_eq]; exact Nat.not_le.mpr (Nat.lt_trans hi (by decide)))]
 exact wpAny_updatePart hx (wpAny_pure h)
end
section
variable {w:W}{σ σ':St}{g g' g1:G}{nv:Bool}{n:Nat}{π:Str->Addr}{v a b:AV}{ls:Loc}{I:Ev}{pos:Pos}{A:Around}{E:Value->Shared->Prop}
theorem f7.inst{r:Nat}{b:BS}{o:Obj}{x:Addr}(e:σ.h.get? x=some o)(h:f7 σ r b o):InstAt σ.h x o CB (some emptyDict):=⟨e,h.c,by unfold notCls; rw [h.p],by obtain⟨dx,d1,_,d2⟩:=h.d; rw [d1]; exact d2⟩
theorem bf:findIn K0 (.ref CB) "__getattribute__"=some (some (.builtin "object.__getattribute__"))/\findIn K0 (.ref CB) "__getattr__"=some none/\(clsIn K0 CB).isSome=true/\findIn K0 (.ref CB) "__setattr__"=some (some (.builtin "object.__setattr__"))/\plainOver K0 CB=true:=by
 have e:=Prod.mk.inj (bfP w0.params)
 have e2:=Prod.mk.inj e.2
 have e3:=Prod.mk.inj e2.2
 exact⟨e.1,e2.1,e3.1,Prod.mk.inj e3.2⟩
theorem xF(gd:aj w σ){r:Nat}{b:BS}{o:Obj}{x:Addr}(e:σ.h.get? x=some o)(h:f7 σ r b o){name:Str}{i p:Nat}(f:ve name i p){v:Value}(hv:io o i=some v)(hh:handedIn v=true)
 {Q:Value->Shared->Prop}{expr:Bool} (q:Q v (σ.tok (σ.s.toks+1)).s):wpAny M0 A (getAttr (.ref x) name expr) Q E σ.s :=
 get_bind gd.base (h.inst e) bf.1 (findObj_data bf.2.2.1 f.f f.g f.t) bf.2.1 (wpAny_call (slot_get (s:={ σ.s with toks:=σ.s.toks+1 }) gd.base (h.inst e) f.s hv (handed_on hh q)))
noncomputable def se(i:Nat)(v:Value)(o:Obj):Obj:={ o with slots:=(o.slots++Array.replicate (i+1-o.slots.size) none).setIfInBounds i (some v) }
theorem kz(gd:aj w σ){o:Obj}{x:Addr}(h:InstAt σ.h x o CB (some emptyDict)){name:Str}{i p:Nat}(f:ve name i p){v:Value}
 {Q:Unit->Shared->Prop} (q:Q () (σ.to (σ.h.update x (se i v)) (σ.s.toks+1)).s):wpAny M0 A (setAttr (.ref x) name v) Q E σ.s :=
 set_plain gd.base h bf.2.2.2.1 (osa_descr (s:={ σ.s with toks:=σ.s.toks+1 }) KF.slot_mset gd.base h bf.2.2.2.2 (by unfold takerIn; rw [f.f,Option.bind_some]; dsimp only; rw [f.t]; rfl) f.m (vf (s:={ σ.s with toks:=σ.s.toks+1 }) gd.base h f.s f.l q))
theorem qE{o:Obj}{i:Nat}{v:Value}(z:o.slots.size=11)(hi:i < 11)(j:Nat):io (se i v o) j=if j=i then some v else io o j:=by
 unfold io se
 dsimp only
 rw [z,Nat.sub_eq_zero_of_le hi,Array.replicate_zero,Array.append_empty,Array.getElem?_setIfInBounds,z]
 by_cases e:i=j
 . rw [if_pos e,if_pos hi,if_pos e.symm]; rfl
 . rw [if_neg e,if_neg λz=>e z.symm]
theorem jE{o:Obj}{i:Nat}{v:Value}(z:o.slots.size=11)(hi:i < 11):(se i v o).slots.size=11:=by
 unfold se
 dsimp only
 rw [Array.size_setIfInBounds,z,Nat.sub_eq_zero_of_le hi,Array.replicate_zero,Array.append_empty,z]
theorem mz{o:Obj}(h:o.data=.plain):o.isFreed=false:=by
 obtain⟨c,d,da,sl⟩:=o
 obtain rfl:da=.plain:=h
 rfl
theorem vg{x:Option Int}{u:Value}(h:slI x u):handedIn u=true/\RV σ w π (oI x) u:=by
 cases x with
 | none=>rw [show u=.none from h]; exact⟨rfl,rfl⟩
 | some i=>exact h.elim λt e=>by rw [e]; exact⟨rfl,t,rfl⟩
theorem zs{α:Type}{k:Key}{x:Option α}(h:x.isSome=true->live w k):handedIn (ko x.isSome (σ.α k))=true/\RV σ w π (oK k x) (ko x.isSome (σ.α k)):=by
 cases x with
 | none=>exact⟨rfl,rfl⟩
 | some i=>exact⟨rfl,h rfl,rfl⟩
theorem iz{r:Nat}{b:BS}{c:Cp}(hc:aI c=true)(e:w.bs[r]?=some b)(h:ce b c=true):live w (.comp r c):=by
 show bH w r c (aI c)
 rw [hc]; unfold bH; rw [e]; exact h
theorem lk{α:Type}{k i:Nat}{v b:α}{l:List (Nat×α)}(P:Nat->α->Prop)(h:bA i ((k,v)::l)=some b)(h1:P k v)(h2:bA i l=some b->P i b):P i b:=by
 have h:cond (Nat.beq i k) (some v) (bA i l)=some b:=tP.symm.trans h
 cases e:Nat.beq i k with
 | true=>rw [e] at h; rw [Nat.eq_of_beq_eq_true e,<- Option.some.inj h]; exact h1
 | false=>rw [e] at h; exact h2 h
noncomputable def GsP(w:W)(σ:St)(π:Str->Addr)(v:AV)(s:Nat->Option Value)(i:Nat)(o:Option AV):Prop:=o=some v->∃ u,s i=some u/\handedIn u=true/\RV σ w π v u
theorem xG{r:Nat}{b:BS}{s:Nat->Option Value}(e:w.bs[r]?=some b)(h:bR σ.α r b s){i:Nat}(z:getS r b i=some v):∃ u,s i=some u/\handedIn u=true/\RV σ w π v u:=by
 refine x12 (Option.bind_eq_some_iff.mp z) λo z (e1:o=some v)=>?_
 have P:=λ(q:Value) (a:AV) (e1:some a=some v) (h:handedIn q=true/\RV σ w π a q)=>(Option.some.inj e1▸h:handedIn q=true/\RV σ w π v q)
 refine lk (GsP w σ π v s) z (λe1=>⟨_,h.s0,P _ _ e1 ⟨rfl,iz rfl e rfl,rfl⟩⟩) (λz=>lk (GsP w σ π v s) z (λe1=>⟨_,h.s1,P _ _ e1 (zs λq=>iz rfl e q)⟩)
  (λz=>lk (GsP w σ π v s) z (λe1=>⟨_,h.s2,P _ _ e1 ⟨rfl,rfl⟩⟩) (λz=>lk (GsP w σ π v s) z (λe1=>⟨_,h.s3,P _ _ e1 ⟨rfl,rfl⟩⟩) (λz=>lk (GsP w σ π v s) z (λe1=>h.s4.elim λt q=>⟨_,q,P _ _ e1 ⟨rfl,t,rfl⟩⟩)
  (λz=>lk (GsP w σ π v s) z (λe1=>h.s5.elim λt q=>⟨_,q,P _ _ e1 ⟨rfl,t,rfl⟩⟩) (λz=>lk (GsP w σ π v s) z (λe1=>⟨_,h.s6,P _ _ e1 ⟨rfl,rfl⟩⟩) (λz=>lk (GsP w σ π v s) z (λe1=>h.s7.imp λu q=>⟨q.1,P _ _ e1 (vg q.2)⟩)
  (λz=>lk (GsP w σ π v s) z (λe1=>⟨_,h.s8,P _ _ e1 (zs λq=>iz rfl e q)⟩) (λz=>lk (GsP w σ π v s) z (λe1=>?_) (λz=>lk (GsP w σ π v s) z (λe1=>⟨_,h.s10,P _ _ e1 ⟨rfl,iz rfl e rfl,rfl⟩⟩) λz=>xNS z)))))))))) e1
 have q:=h.s9
 refine x12 (Option.map_eq_some_iff.mp e1) λx e1 e2=>?_
 rw [e1] at q
 exact q.imp λu q=>⟨q.1,e2▸vg q.2⟩
theorem aj.bld(x:aj w σ){r:Nat}{b:BS}(e:w.bs[r]?=some b)(l:live w (.bld r)):∃ o,σ.h.get? (σ.α (.bld r))=some o/\f7 σ r b o :=
 (x.at_ _ l).imp λo z=>⟨z.1,z.2.elim λb' y=>Option.some.inj (y.1.symm.trans e)▸y.2⟩
theorem vh{r:Nat}{name:Str}:Al (yZ r name) g λv g'=>g'=g/\(live g.w (.bld r)->∀ nv σ π expr,aj g.w σ->Wp n σ (getAttr (.ref (σ.α (.bld r))) name expr) (ER nv g σ v g π)) :=
 .getB λb e=>.bdo λi hi=>.opt λv hv=>⟨rfl,λl nv σ π expr gd=>by
  refine x12 (gd.bld e l) λo e1 h=>?_
  refine(qD hi).elim λp f=>?_
  refine x13 (xG (π:=π) e h.s hv) λu u1 u2 u3=>?_
  exact aY gd rfl rfl λA Q E _1 q=>xF gd e1 h f u1 u2 (q _ _ u3)⟩
theorem xH(hI:Snd n I){y name:Str}{p:Pos}:Al (Internal.bd (I.e (.Name y p) ls) λv=>zk v name) g (EOk n (.Attribute (.Name y p) name pos) ls g):=by
 refine Al.as (Al.e hI (R:=Vv) (c:=λF o=>do
  standAt pos.atName
  let r <- holding [o] (getAttr o name true)
  letTemporaryGo (.Name y p) o r
  pure r) λa g=>Al.imp (R:=λv g'=>g'=g/\∀ nv σ π u,aj g.w σ->RV σ g.w π a u->Wp n σ (getAttr u name true) (ER nv g σ v g π)) ?_ λv g' h F σ u i r=>?_) λF=>arm_eval_Attribute _ _ _ _
 . exact .vw (λr e=>vh.imp λv g' h=>⟨h.1,λnv σ π u gd ru=>by
    refine x02 (rB ru e) λl e148_1=>?_
    subst e148_1
    exact h.2 l nv σ π true gd⟩) λ_1=>.bdo λc e=>.opt λv hv=>⟨rfl,λnv σ π u gd ru=>by
    rw [ds e] at ru
    obtain rfl:=ru
    refine x13 (cls hv) λu c1 _1 c2=>?_
    exact aY gd rfl rfl λA Q E _1 q=>c2 _ _ _ _ _ gd.base (q _ _ ((RV.of c1.1).mpr (c1.2 _ _ gd)))⟩
 . rw [h.1]
   refine .stand ((Wp.hold (h.2 _ σ F.π u i.gd r)).seq λu' σ1 p1 r1=>?_)
   exact Wp.bnd (Φ:=λ_1 σ2=>σ2=σ1) (c:=letTemporaryGo (.Name y p) u u') (show Wp n σ1 (pure ()) _ from .pure rfl) λ_1 σ2 e=>by rw [e]; exact .ret p1.good rfl rfl r1
theorem Al.putB1{r:Nat}{b:BS}{P:Unit->G->Prop}(h:P () ⟨g.w.setB r b,true⟩):Al (Internal.putB r b) g P:=λk e=>⟨_,_,h,e⟩
theorem Al.putB{α:Type}{r:Nat}{b:BS}{f:Unit->EM α}{P:α->G->Prop}(h:Al (f ()) ⟨g.w.setB r b,true⟩ P):Al (Internal.bd (Internal.putB r b) f) g P:=h
theorem aM{r:Nat}{b b':BS}(e:w.bs[r]?=some b):(w.setB r b').bs[r]?=some b':=by
 show(w.bs.set r b')[r]?=_
 rw [List.getElem?_set,if_pos rfl,if_pos (List.getElem?_eq_some_iff.mp e).1]
theorem bq{r r':Nat}{b':BS}(h:r≠r'):(w.setB r b').bs[r']?=w.bs[r']?:=by
 show(w.bs.set r b')[r']?=_
 rw [List.getElem?_set,if_neg h]
theorem anyB{o:Option BS}{c:Cp}(h:(o.any λb=>ce b c)=true):∃ b,o=some b/\ce b c=true:=by
 cases o with
 | none=>cases h
 | some b=>exact⟨b,rfl,h⟩
theorem df{w':W}(hm:w'.mn.isSome=true->w.mn.isSome=true)(hx:∀ r:Nat,(w'.bx[r]?).isSome=true->(w.bx[r]?).isSome=true)(hb:∀ (r:Nat) b',w'.bs[r]?=some b'->∃ b,w.bs[r]?=some b/\(nv=false->∀ c,ce b' c=true->ce b c=true)) :
 ∀ q,live w' q->rM q=false\/nv=false->live w q
 | .bld r,l,_1=>by
  refine(Option.isSome_iff_exists.mp (show(w'.bs[r]?).isSome=true from l)).elim λb' e=>?_
  refine x12 (hb r b' e) λb e _1=>?_
  show(w.bs[r]?).isSome=true
  rw [e]; rfl
 | .comp r c,l,hv=>by
  have l:bH w' r c (aI c):=l
  show bH w r c (aI c)
  cases hc:aI c with
  | false=>rw [hc] at l; exact⟨l.1,hm l.2⟩
  | true =>
   rw [hc] at l
   refine x12 (anyB l) λb' e h=>?_
   refine x12 (hb r b' e) λb e k=>?_
   unfold bH; rw [e]; exact k (hv.resolve_left λz=>nomatch hc.symm.trans z) c h
 | .mine,l,_1=>hm l
 | .box r,l,_1=>hx r l
structure BCh(nv:Bool)(b b':BS):Prop where
 f:∀ c,ce b' c=true->ce b c=true
 t:nv=false->∀ c,ce b c=true->ce b' c=true
theorem AA{r r':Nat}{b b' b2:BS}(e:w.bs[r]?=some b)(h:(w.setB r b').bs[r']?=some b2):r'=r/\b2=b'\/r≠r'/\w.bs[r']?=some b2:=by
 by_cases z:r=r'
 . rw [<- z,aM e] at h; exact .inl ⟨z.symm,(Option.some.inj h).symm⟩
 . rw [bq z] at h; exact .inr ⟨z,h⟩
theorem BCh.live{r:Nat}{b b':BS}(h:BCh nv b b')(e:w.bs[r]?=some b)(q:Key)(l:live (w.setB r b') q):live w q :=
 df (nv:=false) (w:=w) (w':=w.setB r b') id (λ_1=>id) (λr' b2 e2=>(AA e e2).elim (λz=>⟨b,z.1▸e,λ_1 c x=>h.f c (z.2▸x)⟩) λz=>⟨b2,z.2,λ_1 _2=>id⟩) q l (.inr rfl)
theorem BCh.back{r:Nat}{b b':BS}(h:BCh nv b b')(e:w.bs[r]?=some b)(q:Key)(l:Internal.live w q)(v:rM q=false\/nv=false):Internal.live (w.setB r b') q :=
 df (w:=w.setB r b') (w':=w) id (λ_1=>id) (λr' b2 e2=>(Classical.em (r=r')).elim (λz=>⟨b',by rw [<- z]; exact aM e,λy c x=>h.t y c (by rw [<- z,e] at e2; exact Option.some.inj e2▸x)⟩) λz=>⟨b2,(bq z).trans e2,λ_1 _2=>id⟩) q l v
theorem vj{r:Nat}{b b':BS}{q0:Key}(e:w.bs[r]?=some b)(hB:q0≠.bld r->∀ o,f7 σ r b o->f7 σ r b' o)(hC:∀ c o,q0≠.comp r c->ce b' c=true->dc σ r b c o->dc σ r b' c o):∀ q o,q≠q0->live (w.setB r b') q->Rep σ w q o->Rep σ (w.setB r b') q o
 | .bld r',o,hq,l,x=>x.elim λb2 x=>(Classical.em (r=r')).elim (λz=>⟨b',by rw [<- z]; exact aM e,by
  rw [<- z] at hq x ⊢
  exact hB hq.symm o (Option.some.inj (e.symm.trans x.1)▸x.2)⟩) λz=>⟨b2,(bq z).trans x.1,x.2⟩
 | .comp r' c,o,hq,l,x=>by
  have l:bH (w.setB r b') r' c (aI c):=l
  have x:b9 σ w r' c o (aI c):=x
  show b9 σ (w.setB r b') r' c o (aI c)
  cases hc:aI c with
  | false=>rw [hc] at x; exact x
  | true =>
   rw [hc] at x l
   refine x12 x λb2 e2 x=>?_
   by_cases z:r=r'
   . rw [<- z] at hq x l e2 ⊢
     refine x12 (anyB l) λb3 e3 h3=>?_
     rw [aM e] at e3
     exact⟨b',aM e,hC c o hq.symm (Option.some.inj e3▸h3) (Option.some.inj (e.symm.trans e2)▸x)⟩
   . exact⟨b2,(bq z).trans e2,x⟩
 | .mine,_1,_2,_3,x=>x
 | .box _1,_2,_3,_4,x=>x
theorem dZ{r:Nat}{b b':BS}{q0:Key}{h':Heap}{t:Nat}(x:aj g.w σ)(e:g.w.bs[r]?=some b)(l0:live g.w q0)(ch:BCh nv b b')(sb:But (σ.α q0) σ.h h')(hn:∃ o',h'.get? (σ.α q0)=some o'/\Rep σ (g.w.setB r b') q0 o')
 (hB:q0≠.bld r->∀ o,f7 σ r b o->f7 σ r b' o) (hC:∀ c o,q0≠.comp r c->ce b' c=true->dc σ r b c o->dc σ r b' c o):au nv g σ ⟨g.w.setB r b',true⟩ (σ.to h' t) :=
 Upd.post (q0:=q0) ⟨l0,ch.live e,sb,hn,vj e hB hC⟩ x rfl (ch.back e)
noncomputable def upS(i:Nat)(u:Value)(s:Nat->Option Value)(j:Nat):Option Value:=if j=i then some u else s j
theorem bR.of{α:Key->Addr}{r:Nat}{b:BS}{s s':Nat->Option Value}(h:bR α r b s)(e:∀ j,s' j=s j):bR α r b s':=by rw [show s'=s from funext e]; exact h
noncomputable def ed(α:Key->Addr)(r:Nat)(u:Value)(s:Nat->Option Value)(i:Nat)(b:BS):Prop:=bR α r b (upS i u s)
theorem xI{α:Key->Addr}{r:Nat}{b b':BS}{s:Nat->Option Value}{x:Int}{u:Value}(h:bR α r b s)(hu:∃ t,u=.int x t){i:Nat}(z:putI b x i=some b'):bR α r b' (upS i u s) :=
 lk (ed α r u s) z ⟨h.s0,h.s1,h.s2,h.s3,hu.imp λ_1=>congrArg some,h.s5,h.s6,h.s7,h.s8,h.s9,h.s10⟩ λz =>
 lk (ed α r u s) z ⟨h.s0,h.s1,h.s2,h.s3,h.s4,hu.imp λ_1=>congrArg some,h.s6,h.s7,h.s8,h.s9,h.s10⟩ λz =>
 lk (ed α r u s) z ⟨h.s0,h.s1,h.s2,h.s3,h.s4,h.s5,h.s6,⟨u,rfl,hu⟩,h.s8,h.s9,h.s10⟩ λz =>
 lk (ed α r u s) z ⟨h.s0,h.s1,h.s2,h.s3,h.s4,h.s5,h.s6,h.s7,h.s8,⟨u,rfl,hu⟩,h.s10⟩ λz=>xNS z
theorem xJ{α:Key->Addr}{r:Nat}{b b':BS}{s:Nat->Option Value}{x:Bool}(h:bR α r b s){i:Nat}(z:tX b x i=some b'):bR α r b' (upS i (.bool x) s) :=
 lk (ed α r (.bool x) s) z ⟨h.s0,h.s1,rfl,h.s3,h.s4,h.s5,h.s6,h.s7,h.s8,h.s9,h.s10⟩ λz =>
 lk (ed α r (.bool x) s) z ⟨h.s0,h.s1,h.s2,rfl,h.s4,h.s5,h.s6,h.s7,h.s8,h.s9,h.s10⟩ λz =>
 lk (ed α r (.bool x) s) z ⟨h.s0,h.s1,h.s2,h.s3,h.s4,h.s5,rfl,h.s7,h.s8,h.s9,h.s10⟩ λz=>xNS z
theorem xK{α:Key->Addr}{r:Nat}{b b':BS}{s:Nat->Option Value}(h:bR α r b s){i:Nat}(z:tY b i=some b'):bR α r b' (upS i .none s) :=
 lk (ed α r .none s) z ⟨h.s0,rfl,h.s2,h.s3,h.s4,h.s5,h.s6,h.s7,h.s8,h.s9,h.s10⟩ λz =>
 lk (ed α r .none s) z ⟨h.s0,h.s1,h.s2,h.s3,h.s4,h.s5,h.s6,⟨_,rfl,rfl⟩,h.s8,h.s9,h.s10⟩ λz =>
 lk (ed α r .none s) z ⟨h.s0,h.s1,h.s2,h.s3,h.s4,h.s5,h.s6,h.s7,rfl,h.s9,h.s10⟩ λz =>
 lk (ed α r .none s) z ⟨h.s0,h.s1,h.s2,h.s3,h.s4,h.s5,h.s6,h.s7,h.s8,⟨_,rfl,rfl⟩,h.s10⟩ λz=>xNS z
structure Sam(nv:Bool)(b b':BS):Prop where
 by_:b'.bytes=b.bytes
 vt:b'.vt=b.vt
 cv:b'.cv=b.cv\/nv=true/\b'.cv=none
 ss:b'.ss=b.ss\/nv=true/\b'.ss=none
theorem vk{b b':BS}{x:Int}{i:Nat}(z:putI b x i=some b'):Sam nv b b' :=
 lk (λ_1 b'=>Sam nv b b') z ⟨rfl,rfl,.inl rfl,.inl rfl⟩ λz=>lk (λ_1 b'=>Sam nv b b') z ⟨rfl,rfl,.inl rfl,.inl rfl⟩ λz=>lk (λ_1 b'=>Sam nv b b') z ⟨rfl,rfl,.inl rfl,.inl rfl⟩ λz=>lk (λ_1 b'=>Sam nv b b') z ⟨rfl,rfl,.inl rfl,.inl rfl⟩ λz=>xNS z
theorem sf{b b':BS}{x:Bool}{i:Nat}(z:tX b x i=some b'):Sam nv b b' :=
 lk (λ_1 b'=>Sam nv b b') z ⟨rfl,rfl,.inl rfl,.inl rfl⟩ λz=>lk (λ_1 b'=>Sam nv b b') z ⟨rfl,rfl,.inl rfl,.inl rfl⟩ λz=>lk (λ_1 b'=>Sam nv b b') z ⟨rfl,rfl,.inl rfl,.inl rfl⟩ λz=>xNS z
theorem si{b b':BS}(hn:nv=true){i:Nat}(z:tY b i=some b'):Sam nv b b' :=
 lk (λ_1 b'=>Sam nv b b') z ⟨rfl,rfl,.inr ⟨hn,rfl⟩,.inl rfl⟩ λz=>lk (λ_1 b'=>Sam nv b b') z ⟨rfl,rfl,.inl rfl,.inl rfl⟩ λz=>lk (λ_1 b'=>Sam nv b b') z ⟨rfl,rfl,.inl rfl,.inr ⟨hn,rfl⟩⟩ λz=>lk (λ_1 b'=>Sam nv b b') z ⟨rfl,rfl,.inl rfl,.inl rfl⟩ λz=>xNS z
theorem gone{α:Type}{x y:Option α}(h:y=x\/nv=true/\y=none):(y.isSome=true->x.isSome=true)/\(nv=false->x.isSome=true->y.isSome=true):=by
 rcases h with h | h
 . rw [h]; exact⟨id,λ_1=>id⟩
 . rw [h.2,h.1]; exact⟨nofun,nofun⟩
theorem Sam.ch{b b':BS}(h:Sam nv b b'):BCh nv b b':=⟨λc=>by
 cases c <;> first | exact id | exact(gone h.cv).1 | exact(gone h.ss).1,λz c=>by
 cases c <;> first | exact id | exact(gone h.cv).2 z | exact(gone h.ss).2 z⟩
theorem Sam.rep{r:Nat}{b b':BS}{o:Obj}(h:Sam nv b b'){c:Cp}(l:ce b' c=true)(x:dc σ r b c o):dc σ r b' c o:=by
 cases c with
 | bytes=>unfold dc at x ⊢; rw [h.by_]; exact x
 | vt=>unfold dc at x ⊢; rw [h.vt]; exact x
 | cv =>
  unfold dc at x ⊢
  rcases h.cv with e | e
  . rw [e]; exact x
  . unfold ce at l; rw [e.2] at l; exact xFT l
 | ss =>
  unfold dc at x ⊢
  rcases h.ss with e | e
  . rw [e]; exact x
  . unfold ce at l; rw [e.2] at l; exact xFT l
 | _=>exact xFT l
noncomputable def PutR(nv:Bool)(r:Nat)(b b':BS)(i:Nat)(v:AV)(w:W):Prop:=Sam nv b b'/\∀ σ π u s,RV σ w π v u->bR σ.α r b s->bR σ.α r b' (upS i u s)
theorem xL{r:Nat}{b b':BS}{i:Nat}{v:AV}(hn:isNone v=true->nv=true)(z:t8 b i v=some b'):PutR nv r b b' i v w:=by
 unfold t8 at z
 cases h1:vI v with
 | some x=>rw [h1] at z; rw [gy h1]; exact⟨vk z,λσ π u s ru h=>xI h ru z⟩
 | none =>
  rw [h1] at z; dsimp only at z
  cases h2:vBo v with
  | some x=>rw [h2] at z; rw [hY h2]; exact⟨sf z,λσ π u s ru h=>by rw [show u=.bool x from ru]; exact xJ h z⟩
  | none =>
   rw [h2] at z; dsimp only at z
   cases h3:isNone v <;> rw [h3] at z
   . cases z
   . rw [dS h3]; exact⟨si (hn h3) z,λσ π u s ru h=>by rw [show u=.none from ru]; exact xK h z⟩
theorem xM{r:Nat}{name:Str}(hn:isNone v=true->nv=true):Al (setB r name v) g λ_1 g'=>(live g.w (.bld r)->∀ σ π u,aj g.w σ->RV σ g.w π v u->Wp n σ (setAttr (.ref (σ.α (.bld r))) name u) (PR nv g σ g' λ_1 _2=>True)) :=
 .getB λb e=>.bdo λi hi=>.bdo λb' hb=>.putB1 λl σ π u gd ru=>by
  refine(qD hi).elim λp f=>?_
  refine x12 (gd.bld e l) λo e1 h=>?_
  have pr:PutR nv r b b' i v g.w:=xL hn hb
  refine .any λA Q E _1 q=>kz gd (h.inst e1) f (q () (σ.to _ _) ⟨dZ (q0:=.bld r) gd e l pr.1.ch (SameBut.but (Heap.SameBut.update ..)) ⟨_,Heap.get?_update_self _ e1 ?_,b',aM e,?_⟩ (λz=>(z rfl).elim) λc o' _1 l' x=>pr.1.rep l' x,trivial⟩)
  . exact mz h.p
  . exact⟨h.c,h.p,jE h.z f.l,h.d,(pr.2 σ π u _ ru h.s).of λj=>qE h.z f.l j⟩
theorem oQ(hI:Snd n I){o:Expr}{name:Str}{e:Expr}{p:Pos}:Al (qg I ls o name e) g (SOk n (.Assign [.Attribute o name p] e pos) ls g):=.wh λhc =>
 (hI.e e ls g).bd λv g1 h1=>(Al.behind λg0=>hI.e o ls g0).bd λov g2 h2=>.wh λhn=>.bdo λr er=>(xM (nv:=ao ls.v) (n:=n) λz=>by rw [z] at hn; simpa using hn).bd λ_1 g3 h=>.ok λF σ i=>by
  rw [plainObj_exec_Assign_Attribute _ _ _ _ _ (aZ hc)]
  exact .stand ((h1 F σ i).seqS λu σ1 p1 r1=>.seqS (nv:=ao ls.v) (g1:=g3) (R:=λ_1 _2=>True) ((Wp.hold (h2 F σ1 u (i.post p1) r1)).seq λy σ2 p2 r2=>by
   refine x02 (rB r2.2 er) λl e316_1=>?_
   subst e316_1
   exact .stand ((Wp.hold (h l σ2 F.π u p2.good r2.1)).seq (d:=λ_1=>release _ _) λ_1 σ3 p3 _2=>λA Q E rm q=>cn (q () σ3 ⟨.refl p3.good,trivial⟩))) λ_1 σ3 p3 _2=>.retS rfl ((i.post p1).post p3))
end
end
end
section
open PySem PySem.W PyProof.Rows PySem.Calls
section
set_option tactic.hygienic true in
theorem cM:∀{names:List (Str×NameKind)}{m:Nat}{acc:List (Str×Addr)}{x:Str},((∃ c,acc.lookup x=some c)\/(x,NameKind.cell)∈names)->∃ c,(cellsFrom m names acc).lookup x=some c
 | [],_1,_2,_3,h=>h.elim id λz=>nomatch z
 | (y,kd)::r,m,acc,x,h=>by
  unfold cellsFrom
  split
  . refine cM ?_
    by_cases e:x=y
    . exact .inl ⟨m,by rw [e,List.lookup_cons,beq_self_eq_true]⟩
    . exact h.elim (λh=>.inl (h.imp λc h=>by rw [List.lookup_cons,beq_eq_false_iff_ne.mpr e]; exact h)) λh=>(List.mem_cons.mp h).elim (λh=>absurd (Prod.mk.inj h).1 e) .inr
  . rename_i hk
    exact cM (h.imp id λh=>(List.mem_cons.mp h).elim (λh=>absurd (by rw [<- (Prod.mk.inj h).2]; rfl) hk) id)
theorem jF{kk:Str->Option NameKind}{x:Str}:∀{b:List (Str×Value)}{m:Str->Option Value},x ∉ b.map (·.1)->bindL kk b m x=m x
 | [],_1,_2=>rfl
 | (y,v)::r,m,h=>by
  unfold bindL
  rw [jF λz=>h (.tail _ z)]
  split
  . exact if_neg λ(e:x=y)=>h (by rw [e]; exact .head _)
  . rfl
theorem jG{kk:Str->Option NameKind}{x:Str}:∀{b:List (Str×Value)}{m:Str->Option Value},x ∉ b.map (·.1)->bindC kk b m x=m x
 | [],_1,_2=>rfl
 | (y,v)::r,m,h=>by
  unfold bindC
  rw [jG λz=>h (.tail _ z)]
  split
  . rfl
  . exact if_neg λ(e:x=y)=>h (by rw [e]; exact .head _)
theorem mA{kk:Str->Option NameKind}{x:Str}(hk:kk x=some .local){v:Value}:∀{b:List (Str×Value)}{m:Str->Option Value},(b.map (·.1)).Nodup->(x,v)∈b->bindL kk b m x=some v
 | (y,u)::r,m,nd,h=>by
  rw [List.map_cons,List.nodup_cons] at nd
  unfold bindL
  rcases List.mem_cons.mp h with h | h
  . cases h
    rw [jF nd.1,if_pos hk]; exact if_pos rfl
  . exact mA hk nd.2 h
theorem mC{kk:Str->Option NameKind}{x:Str}(hk:kk x=some .cell){v:Value}:∀{b:List (Str×Value)}{m:Str->Option Value},(b.map (·.1)).Nodup->(x,v)∈b->bindC kk b m x=some v
 | (y,u)::r,m,nd,h=>by
  rw [List.map_cons,List.nodup_cons] at nd
  unfold bindC
  rcases List.mem_cons.mp h with h | h
  . cases h
    rw [jG nd.1,if_neg (by rw [hk]; nofun)]; exact if_pos rfl
  . exact mC hk nd.2 h
noncomputable abbrev π0:Str->Addr:=λ_1=>0
noncomputable def gr(σ:St)(w:W):List (Str×LV)->List (Str×Value)->Prop
 | [],b=>b=[]
 | (x,v)::r,b=>∃ a u q,v=.v a/\b=(x,u)::q/\RV σ w π0 a u/\aX a=true/\gr σ w r q
structure FnOk(f:Addr)(fd:FuncData)(body:List Stmt):Prop where
 at_:∃ o,K0.lookup f=some o/\o.data=.func fd
 keep:keepIn K0 (.ref f)=true
 bodyE:fd.body=.stmts body
 gl:fd.globals=mainGlobals
 bl:fd.builtins=builtinsNs
 clo:fd.closure=[]
 code:codeIn K0 fd.code fd.qualname=true
 kind:fd.scope.kind=.function
 co:fd.scope.isCoroutine=false
 gen:fd.scope.isGenerator=false
 noFree:∀ x,fd.scope.names.lookup x≠some .free
noncomputable def vm(fd:FuncData)(m:Nat)(f:Addr)(a:Addr):Prop:=a=m\/∃ x,(callEnvC fd m f).cells.lookup x=some a
structure fg(σ:St)(w:W)(fd:FuncData)(lv:List (Str×LV))(b:List (Str×Value)):Prop where
 bd:gr σ w lv b
 nd:(b.map (·.1)).Nodup
 kd:∀ x∈b,fd.scope.names.lookup x.1=some .local\/fd.scope.names.lookup x.1=some .cell
section
variable {w:W}{σ σ':St}{g g' g1:G}{nv:Bool}{n:Nat}{π:Str->Addr}{v a b:AV}{ls:Loc}{I:Ev}{pos:Pos}{fd:FuncData}{f:Addr}{body:List Stmt}
theorem RV.pi{π':Str->Addr}{u:Value}(n:aX a=true)(r:RV σ w π a u):RV σ w π' a u:=by
 cases a <;> first | exact r | cases n
theorem gr.look{x:Str}{v:LV}:∀{l:List (Str×LV)}{b:List (Str×Value)},gr σ w l b->ah x l=some v->∃ a u,v=.v a/\(x,u)∈b/\RV σ w π0 a u/\aX a=true
 | (y,v')::r,b,h,hl=>by
  refine x35 h λa u q e1 e e2 e3 hr=>?_
  rw [e]
  rw [bn] at hl
  cases hs:sq x y <;> rw [hs] at hl
  . exact(hr.look hl).imp λa z=>z.imp λu z=>⟨z.1,.tail _ z.2.1,z.2.2⟩
  . exact⟨a,u,(Option.some.inj hl).symm.trans e1,by rw [bZ.mp hs]; exact .head _,e2,e3⟩
theorem aj.fresh(gd:aj w σ){a:Addr}(ha:σ.h.objs.size<=a):¬ σ.S a/\∀ q,live w q->σ.α q≠a:=⟨λz=>(gd.frz a z).elim λo e=>absurd (Heap.lt_size e) (Nat.not_lt.mpr ha),λq l z=>(gd.at_ q l).elim λo e=>absurd (Heap.lt_size (z▸e.1)) (Nat.not_lt.mpr ha)⟩
theorem enter(fo:FnOk f fd body){s1:Shared}{lv:List (Str×LV)}{b:List (Str×Value)}(gd:aj w σ)(bo:fg σ w fd lv b)
 (ic:InCallC σ.s (callEnvC fd σ.h.objs.size f).locals (bindL (callEnvC fd σ.h.objs.size f).kindOf b λ_1=>none) (callEnvC fd σ.h.objs.size f).cells (bindC (callEnvC fd σ.h.objs.size f).kindOf b λ_1=>none) s1) :
 Mv w σ w ⟨σ.S,σ.α,s1⟩/\Inv ⟨callEnvC fd σ.h.objs.size f,π0,vm fd σ.h.objs.size f⟩ ⟨lv,fd.scope.names⟩ w ⟨σ.S,σ.α,s1⟩:=by
 have keep:=ic.toInCall.keep
 refine x21 ic.toInCall.same λh1 tk e=>?_
 have po:au true ⟨w,false⟩ σ ⟨w,false⟩ ⟨σ.S,σ.α,s1⟩:=by rw [e] at keep ⊢; exact .ext gd rfl rfl keep (λ_1 x=>x) (λ_1 x=>.inl x) rfl rfl
 have kq:bW σ ⟨σ.S,σ.α,s1⟩:=⟨λ_1 x=>x,λa o _1 e=>keep a o e⟩
 have lk:∀ x v,ah x lv=some v->∃ a u,v=.v a/\(x,u)∈b/\RV ⟨σ.S,σ.α,s1⟩ w π0 a u:=λx v e=>(bo.bd.look e).imp λa z=>z.imp λu z=>⟨z.1,z.2.1,z.2.2.1.quiet kq rfl⟩
 have priv:∀ a,σ.h.objs.size<=a->(∃ o,s1.heap.get? a=some o)->aO ⟨σ.S,σ.α,s1⟩ w a:=λa ha x=>⟨(gd.fresh ha).1,(gd.fresh ha).2,x⟩
 have cel:∀ x c,(callEnvC fd σ.h.objs.size f).cells.lookup x=some c->σ.h.objs.size<=c:=λx c e=>Nat.le_of_lt (ic.above x c (mem_of_lookup e))
 have cP:∀ x c,(callEnvC fd σ.h.objs.size f).cells.lookup x=some c->aO ⟨σ.S,σ.α,s1⟩ w c:=λx c e=>priv c (cel x c e) ((ic.cell x c e).imp λo z=>z.1)
 have own:∀{P:Prop} x v,ah x lv=some v->eT v=true->P:=λx v e o=>(bo.bd.look e).elim λa z=>z.elim λu z=>(by rw [z.1] at o; cases o)
 refine⟨po.mv,po.good,⟨fo.kind,fo.gl,fo.bl,λx kd e=>.inl (by rw [dY] at e; exact e),λx v e=>?_,.inl rfl,λx ek _1=>?_,λx c e _1=>.inr ⟨x,e⟩,λx y c e e'=>name_of_addr ic.apart (mem_of_lookup e) (mem_of_lookup e'),λx v e o=>own x v e o,λx y v u e o=>own x v e o⟩,⟨λa h=>?_,λx c e _1=>⟨cP x c e,_,ic.cell x c e⟩,⟨_,ic.toInCall.ns,λx v e ek=>?_⟩,λx c v e ek hx=>?_⟩⟩
 . refine x23 (lk x v e) λa u _1 m _2=>?_
   exact(bo.kd _ m).elim (λz=>⟨by show ah x fd.scope.names≠none; rw [dY,z]; nofun,.inl z⟩) λz=>⟨by show ah x fd.scope.names≠none; rw [dY,z]; nofun,.inr (.inl z)⟩
 . exact cM (.inr (mem_of_lookup (ek.resolve_right λz=>fo.noFree x z)))
 . exact h.elim (λz=>z▸priv _ (Nat.le_refl _) (ic.toInCall.ns.imp λo z=>z.elim λ_1 z=>z.elim λ_1 z=>z.1)) λz=>z.elim λx e=>cP x a e
 . refine x23 (lk x v e) λa u e1 m r1=>?_
   exact⟨u,mA ek bo.nd m,by rw [e1]; exact r1⟩
 . refine x23 (lk x v hx) λa u e1 m r1=>?_
   exact⟨u,mC (kk:=(callEnvC fd σ.h.objs.size f).kindOf) (x:=x) ((bo.kd _ m).resolve_left ek) bo.nd m▸ic.cell x c e,by rw [e1]; exact r1⟩
theorem bz.in1{A:Around}(r:bz (n+1) A):bz n A.in1:=⟨Nat.le_of_succ_le r.1,Nat.le_trans (by show A.units+1+30*n<=A.units+(30*n+30); rw [Nat.add_assoc,Nat.add_comm 1]; exact Nat.add_le_add_left (Nat.add_le_add_left (by decide) _) _) r.2.1,r.2.2⟩
theorem bz.deeper{A:Around}{env:Env}(r:bz (n+1) A):bz n (A.deeper env) :=
 ⟨Nat.le_trans (by show A.depth+1+n<=A.depth+(n+1); rw [Nat.add_assoc,Nat.add_comm 1]; exact Nat.le_refl _) r.1,Nat.le_trans (by show A.units+3+30*n<=A.units+(30*n+30); rw [Nat.add_assoc,Nat.add_comm 3]; exact Nat.add_le_add_left (Nat.add_le_add_left (by decide) _) _) r.2.1,r.2.2.1,r.2.2.2.1,r.2.2.2.2.elim λl h=>⟨env::l,by show A.frames.map _=_; rw [h]; rfl⟩⟩
noncomputable def qF(f:Flow):Value:=match f with | .ret v=>v | _1=>.none
noncomputable def vn:Fl->Option AV
 | .rt v=>some v
 | .nx=>some .none
 | _1=>none
theorem xN{f:Flow}:∀{x:Fl},vn x=some v->fe σ w π x f->RV σ w π v (qF f)
 | .nx,e,h=>by cases e; rw [show f=.next from h]; rfl
 | .rt _1,e,h=>by cases e; obtain⟨u,rfl,r⟩:=h; exact r
theorem vo(fo:FnOk f fd body){lv:List (Str×LV)}{args:Args}{x:Fl×Loc}(hx:BOk n body ⟨lv,fd.scope.names⟩ g x g')(hv:vn x.1=some v)(hr:aX v=true)(gd:aj g.w σ)
 (hb:Wp n σ (bindArgs fd args) (PR true g σ g λb σ1=>fg σ1 g.w fd lv b)):CWp (n+1) σ (.call (.ref f) args) (ER true g σ v g' π):=λA Q rm q=>by
 refine x12 fo.at_ λo ho hd=>?_
 refine cA (Nat.lt_of_lt_of_le (Nat.lt_of_lt_of_le (Nat.lt_add_of_pos_right (Nat.succ_pos n)) rm.1) (by decide)) (gd.base _ _ ho) hd fo.co fo.gen fo.bodyE (codeRec_of gd.base fo.code) ?_
 refine hb A.in1 _ _ rm.in1 λb σ1 p1=>?_
 rw [fo.clo]
 refine .of (wpAny_newFunctionEnv_cells fo.kind (λy hy=>(p1.rv.kd y hy).imp id λz=>⟨z,?_⟩) λenv he s2 ic=>?_)
 . exact(cM (m:=σ1.h.objs.size+1) (acc:=[]) (.inr (mem_of_lookup z))).elim λc hc=>by rw [hc]; rfl
 subst he
 refine x02 (enter fo p1.po.good p1.rv ic) λmv i=>?_
 refine⟨lim mv.good.base,hA ?_⟩
 refine hx _ _ i _ _ _ rm.deeper λfl σ3 p3=>?_
 refine x23 p3.ex λπ' X' hX e1 _1=>?_
 refine q (qF fl) σ3 ⟨p1.po.trans ⟨?_,p3.po.calm,nofun⟩,RV.pi hr (xN hv e1)⟩
 have m:=p3.po.mv
 have fr:∀ {a},vm fd σ1.h.objs.size f a->σ1.h.get? a=none:=λ{a} z=>by
  have le:σ1.h.objs.size<=a:=z.elim (λz=>z▸Nat.le_refl _) λz=>z.elim λx hc=>Nat.le_of_lt (ic.above x a (mem_of_lookup hc))
  cases e:σ1.h.get? a with
  | none=>rfl
  | some o=>exact absurd (Heap.lt_size e) (Nat.not_lt.mpr le)
 exact⟨m.sub,λa o e no=>m.pres a o (mv.pres a o e no) (λz=>nomatch e.symm.trans (fr z)) no,λa o e=>(mv.grow a o e).elim λo' e'=>m.grow a o' e',λa h=>(m.fnew a h).imp id mv.fresh,λq l=>(m.anew q l).imp id λz=>z.elim mv.fresh fr,m.astab,m.good,m.gens.trans mv.gens,m.os.trans mv.os⟩
noncomputable abbrev g00(w:W):G:=⟨w,false⟩
noncomputable def gO(w:W):Option W->G
 | none=>⟨w,false⟩
 | some w'=>⟨w',true⟩
structure ΩOk(n:Nat)(Ω:Om):Prop where
 ok:∀ f vs w k,aQ vs=true->Ω f vs w k->∃ v o,k v o/\aX v=true/\keepIn K0 (.ref f)=true/\∀ π σ us,aj w σ->RVL σ w π vs us->CWp n σ (.call (.ref f) ⟨us,[]⟩) (ER true (g00 w) σ v (gO w o) π)
 kw:∀ vs va w k,aQ (vs++[va])=true->Ω kwF (vs++[va]) w k->∃ v o,k v o/\aX v=true/\keepIn K0 (.ref kwF)=true/\∀ π σ us ua,aj w σ->RVL σ w π vs us->RV σ w π va ua ->
  CWp n σ (.call (.ref kwF) ⟨us,[(Str.ofString "file_identifier",ua)]⟩) (ER true (g00 w) σ v (gO w o) π)
variable {Ω:Om}{F:Fr'}
theorem CWp.mono{c:Code}{Φ Ψ:Value->St->Prop}(x:CWp n σ c Φ)(h:∀ b σ',Φ b σ'->Ψ b σ'):CWp n σ c Ψ:=λA Q r q=>x A Q r λb σ' p=>q b σ' (h b σ' p)
noncomputable def sj(n:Nat)(nv:Bool)(f:Nat)(C:St->(Str->Addr)->Code->Prop)(g:G)(v:AV)(g':G):Prop:=keepIn K0 (.ref f)=true/\∀ σ π c,aj g.w σ->C σ π c->CWp n σ c (ER nv g σ v g' π)
theorem said{f:Nat}{vs:List AV}{C:St->(Str->Addr)->Code->Prop}(h:∀ k,aQ vs=true->Ω f vs g.w k->∃ v o,k v o/\aX v=true/\keepIn K0 (.ref f)=true/\∀ π σ c,aj g.w σ->C σ π c->CWp n σ c (ER true (g00 g.w) σ v (gO g.w o) π)):Al (gm Ω ls f vs) g (sj n (ao ls.v) f C g):=.wh λhn=>λk e=>by
 refine x24 (h _ hn e) λv o h1 _1 kp run=>?_
 cases o with
 | none=>exact⟨v,g,⟨kp,λσ π c gd r=>(run π σ c gd r).mono λu σ' p=>⟨⟨p.po.mv,λz=>⟨z,rfl,(p.po.calm rfl).2.2⟩,λ_1 q l=>⟨l,by rw [(p.po.calm rfl).2.2]⟩⟩,p.rv⟩⟩,h1⟩
 | some w'=>exact(Al.wh (P:=sj n (ao ls.v) f C g) λhn=>.setW (.ok ⟨kp,λσ π c gd r=>(run π σ c gd r).mono λu σ' p=>⟨⟨p.po.mv,nofun,λz=>nomatch hn.symm.trans z⟩,p.rv⟩⟩)) k h1
noncomputable abbrev zt(g:G)(f:Nat)(vs:List AV)(σ:St)(π:Str->Addr)(c:Code):Prop:=∃ us,c=.call (.ref f) ⟨us,[]⟩/\RVL σ g.w π vs us
theorem iA(hΩ:ΩOk n Ω){f:Nat}{vs:List AV}:Al (gm Ω ls f vs) g (sj n (ao ls.v) f (zt g f vs) g):=said λk hn e=>(hΩ.ok _ _ _ _ hn e).imp λv y=>y.imp λo z=>⟨z.1,z.2.1,z.2.2.1,λπ σ c gd r=>r.elim λus r=>r.1▸z.2.2.2 π σ us gd r.2⟩
theorem vp(hΩ:ΩOk n Ω){vs:List AV}{va:AV}:Al (gm Ω ls kwF (vs++[va])) g (sj n (ao ls.v) kwF (λσ π c=>∃ us ua,c=.call (.ref kwF) ⟨us,[(Str.ofString "file_identifier",ua)]⟩/\RVL σ g.w π vs us/\RV σ g.w π va ua) g) :=
 said λk hn e=>(hΩ.kw _ _ _ _ hn e).imp λv y=>y.imp λo z=>⟨z.1,z.2.1,z.2.2.1,λπ σ c gd r=>r.elim λus r=>r.elim λua r=>r.1▸z.2.2.2 π σ us ua gd r.2.1 r.2.2⟩
theorem sj.run{f:Nat}{vs:List AV}(h:sj n nv f (zt g f vs) g v g')(gd:aj g.w σ){us:List Value}(r:RVL σ g.w π vs us):CWp n σ (.call (.ref f) ⟨us,[]⟩) (ER nv g σ v g' π):=h.2 σ π _ gd ⟨us,rfl,r⟩
noncomputable abbrev qG(f:Value):Prop:=∀ h,K0.In h->∃ q,(q=Keeper.frame\/q=Keeper.machine\/q=Keeper.boundFrame)/\Looks M0 h (keeperOf f) q
theorem iB{f:Value}(hf:∀ a,f≠.ref a):qG f:=λh X=>⟨.machine,.inr (.inl rfl),by cases f <;> first | exact Looks.now | exact absurd rfl (hf _)⟩
theorem oR{f:Nat}(hk:keepIn K0 (.ref f)=true):qG (.ref f):=λh X=>keeps_K hk h X
theorem cw{f:Value}{first:List Value}{as:List (Bool×Sem Value)}{R:Value->St->Prop}{R1:List Value->St->Prop}(hp:as.any (·.1)=false)(hk:qG f)
 (ha:Wp n σ (spliced as) (PR nv g σ g1 R1)) (hc:∀ us σ1,au nv g σ g1 σ1->R1 us σ1->Wp n σ1 (call f (first++us)) (PR nv g1 σ1 g' R)):Wp n σ (callWith pos f first as []) (PR nv g σ g' R):=λA Q E rm q =>
 jp (P:=K0.In) hp hk (ha A _ E rm λus σ1 p=>⟨p.po.good.base,hc us σ1 p.po p.rv A Q E rm λb σ' p2=>q b σ' ⟨p.po.trans p2.po,p2.rv⟩⟩)
theorem eE(hI:Snd n I)(pos:Pos)(es:List Expr):Al (evL I ls es) g λvs g'=>LOk n pos es ls g vs g'/\∀ env,(backTo pos (starEach es env)).any (·.1)=false:=(gH hI pos es g).imp λvs g' h=>⟨h.2,λenv=>oF env h.1⟩
theorem iC{o:Expr}{name:Str}{apos:Pos}{as:List Expr}{ks:List Keyword}{env:Env}(ho:(pZ o).isNone=true):eval (.Call (.Attribute o name apos) as ks pos) env=(do
 let ov <- eval o env
 standAt apos.atName
 methodCall o name apos pos env ov (as.length+ks.length) (backTo pos (starEach as env)) (backToKw pos (keywordEach ks env))):=by
 have e:attributeBase o name env (eval o env)=eval o env:=by cases o <;> first | rfl | cases ho
 show(do
  let ov <- attributeBase o name env (eval o env)
  standAt apos.atName
  methodCall o name apos pos env ov (as.length+ks.length) (backTo pos (starEach as env)) (backToKw pos (keywordEach ks env)))=_
 rw [e]
theorem iE:∀{as:List (Bool×Sem Value)},as.any (·.1)=false->as.all (λx=>!x.1)=true
 | [],_1=>rfl
 | a::r,h=>by
  rw [List.any_cons,Bool.or_eq_false_iff] at h
  rw [List.all_cons,h.1,iE h.2]; rfl
theorem vq:∀{es:List Expr}{env:Env},(backTo pos (starEach es env)).length=es.length
 | [],_1=>rfl
 | e::r,env=>by
  have:starEach (e::r) env=(du e,(match e with | .Starred e _1=>eval e env | e=>eval e env))::starEach r env:=by cases e <;> rfl
  rw [this]
  exact congrArg Nat.succ vq
theorem cN{o:Expr}{name:Str}{apos:Pos}{env:Env}{u:Value}{cnt:Nat}{as:List (Bool×Sem Value)}{ks:List (Option Str×Sem Value)}{fm:Bool}{R0:Value×List Value->St->Prop}{R:Value->St->Prop}(hf:methodCallForm cnt as ks=fm)(hp:methodCallPos fm o env apos pos=pure pos)
 (hm:Wp n σ (calleeOf fm o env u name) (PR nv g σ g R0)) (hc:∀ p σ1,au nv g σ g σ1->R0 p σ1->Wp n σ1 (callWith pos p.1 p.2 as ks) (PR nv g σ1 g' R)):Wp n σ (methodCall o name apos pos env u cnt as ks) (PR nv g σ g' R):=by
 unfold methodCall
 rw [hf]
 refine(Wp.hold hm).seq λpr σ1 p1 r1=>?_
 dsimp only
 rw [hp]
 exact .bnd (Wp.pure (Φ:=λp σ2=>p=pos/\σ2=σ1) ⟨rfl,rfl⟩) λp σ2 e=>by rw [e.1,e.2]; exact hc pr σ1 p1 r1
theorem kB{cnt:Nat}{as:List (Bool×Sem Value)}{ks:List (Option Str×Sem Value)}(h1:as.any (·.1)=false)(h2:ks.all (·.1.isSome)=true)(h3:cnt<=21):methodCallForm cnt as ks=true:=by
 unfold methodCallForm
 rw [iE h1,h2]
 have h4:(if ks.isEmpty=true then 0 else 1)<=1:=by split <;> decide
 exact decide_eq_true (Nat.lt_of_le_of_lt (Nat.add_le_add h3 h4) (by decide))
theorem oS{o:Expr}{apos:Pos}{env:Env}(hl:(apos.endLine==pos.line)=true):methodCallPos true o env apos pos=pure pos:=by unfold methodCallPos; rw [hl]; rfl
theorem eU{o:Expr}{name:Str}{apos:Pos}{env:Env}{as:List Expr}{u fn:Value}{first:List Value}{g2:G}{R1:List Value->St->Prop}{R:Value->St->Prop}(hl:(apos.endLine==pos.line)=true)(hn:as.length<=20)(ns:(backTo pos (starEach as env)).any (·.1)=false)
 (hm:∀ pl,Wp n σ (getMethod u name pl) (PR nv g σ g λp σ1=>p=(fn,first)/\σ1.α=σ.α)) (hk:qG fn) (ha:∀ σ1,au nv g σ g σ1->σ1.α=σ.α->Wp n σ1 (spliced (backTo pos (starEach as env))) (PR nv g σ1 g2 R1))
 (hc:∀ us σ1 σ2,au nv g σ g σ1->au nv g σ1 g2 σ2->R1 us σ2->Wp n σ2 (call fn (first++us)) (PR nv g2 σ2 g' R)):Wp n σ (methodCall o name apos pos env u (as.length+([]:List Keyword).length) (backTo pos (starEach as env)) (backToKw pos (keywordEach [] env))) (PR nv g σ g' R) :=
 cN (kB ns rfl (Nat.le_succ_of_le hn)) (oS hl) (hm _) λp σ1 p1 e=>by
  rw [e.1]
  exact cw ns hk (ha σ1 p1 e.2) λus σ3 p3 r3=>hc us σ1 σ3 p1 p3 r3
theorem iF{r:Nat}{name:Str}{f:Nat}(hf:ah name fG=some f)(l:live g.w (.bld r))(gd:aj g.w σ)(pl:Sem Bool):Wp n σ (getMethod (.ref (σ.α (.bld r))) name pl) (PR nv g σ g λp σ1=>p=(.ref f,[.ref (σ.α (.bld r))])/\σ1.α=σ.α):=by
 refine(Option.isSome_iff_exists.mp (show(g.w.bs[r]?).isSome=true from l)).elim λb e=>?_
 refine x12 (gd.bld e l) λo e1 h=>?_
 exact .any λA Q E rm q=>method_fn gd.base (h.inst e1) bf.1 bf.2.1 (uJ hf).1 (uJ hf).2.1 rfl (q _ σ ⟨.refl gd,rfl,rfl⟩)
theorem RVL.cons{u:Value}{vs:List AV}{us:List Value}(r:RV σ w π a u)(q:RVL σ w π vs us):RVL σ w π (a::vs) (u::us):=⟨u,us,rfl,r,q⟩
theorem kC{r:Nat}(h:vB a=some r):vol a=false:=by rw [vB_e h]; rfl
noncomputable def MOk(n:Nat)(pos:Pos)(ls:Loc)(g:G)(v:AV)(name:Str)(as:List Expr)(ks:List Keyword)(u:AV)(g':G):Prop:=∀ (o:Expr) (apos:Pos),(apos.endLine==pos.line)=true->as.length<=20 ->
 RnV n ls g v (λF x=>methodCall o name apos pos F.env x (as.length+ks.length) (backTo pos (starEach as F.env)) (backToKw pos (keywordEach ks F.env))) (Vv u) g'
theorem mD(hΩ:ΩOk n Ω)(hI:Snd n I){name:Str}{as:List Expr}{v:AV}{r:Nat}(hv:vB v=some r):Al (Internal.bd (evL I ls as) λvs=>Internal.bd (opt (ah name fG)) λf=>gm Ω ls f (v::vs)) g (MOk n pos ls g v name as []) :=
 (eE hI pos as).bd λvs g1 h=>.bdo λf hf=>(iA hΩ).imp λu g' s o apos hl hn F σ x i rx=>by
  refine x02 (rB rx hv) λl e228_1=>?_
  subst e228_1
  exact eU hl hn (h.2 F.env) (iF hf l i.gd) (oR s.1) (λσ1 p1 _1=>h.1 F σ1 (i.post p1)) λus σ1 σ2 p1 p2 r2=>CWp.call (s.run p2.good (.cons (RV.post (i.post p1).gd p2 (.inl (kC hv)) (RV.post i.gd p1 (.inl (kC hv)) rx)) r2))
end
end
end
section
open PySem PySem.W PyProof.Rows PySem.Calls
section
section
variable {M:Model}{A:Around}{E:Value->Shared->Prop}{s:Shared}{pos:Pos}{f:Value}{first:List Value}{Q:Value->Shared->Prop}
theorem jH{P:Heap->Prop}{args:List (Bool×Sem Value)}{keywords:List (Option Str×Sem Value)}
 (hk:∀ h,P h->∃ k,(k=Keeper.frame\/k=Keeper.machine\/k=Keeper.boundFrame)/\Looks M h (keeperOf f) k)
 (h:wpC M A (evalArgs f true args keywords) (λa s₁=>P s₁.heap/\wpC M A (call f (first++a.pos) a.kw) Q E s₁) E s):wpC M A (callWith pos f first args keywords) Q E s:=by
 unfold callWith
 refine ad (ag (ai h (λa s₁ h₁=>ad (aq ?_)) λ_1 _2 x=>x))
 refine x12 (hk _ h₁.1) λk hk' L=>?_
 dsimp only
 refine ad (Looks.hereC L ?_)
 have tail:∀{t:Sem Value},wpC M A t Q E s₁->wpC M A (t >>= λr=>holding [r] point >>= λ_1=>pure r) Q E s₁ :=
  λht=>ad (ai ht (λr s₂ hr=>ad (ag (.of (wpAny_point (ae hr))))) λ_1 _2 x=>x)
 have marked (mk:Value):wpC M A (callMarked mk f (first++a.pos) a.kw) Q E s₁:=by unfold callMarked; exact lI h₁.2
 have oper (vs:List Value):wpC M A (operate vs (call f (first++a.pos) a.kw)) Q E s₁:=dP h₁.2
 cases (args.any (·.1) || keywords.any (·.1.isNone)) <;> rcases hk' with rfl | rfl | rfl <;> dsimp only <;>
  first | exact tail h₁.2 | exact tail (marked _) | exact tail (oper _) | (split <;> first | exact tail h₁.2 | exact tail (marked _))
theorem oT{as:List (Bool×Sem Value)}{kn:Str}{t:Sem Value}{Q:Args->Shared->Prop}(hp:as.any (·.1)=false)
 (h:wpC M A (spliced as) (λvs s'=>wpC M A (evalAll [t]) (λks s''=>Q ⟨vs,[kn].zip ks⟩ s'') E s') E s):wpC M A (evalArgs f true as [(some kn,t)]) Q E s:=by
 unfold evalArgs
 have fin:∀ (vs:List Value) s',wpC M A (evalAll [t]) (λks s''=>Q ⟨vs,[kn].zip ks⟩ s'') E s'->wpC M A (do let ks <- evalAll [t]; let l <- (pure vs:Sem (List Value)); pure (⟨l,[kn].zip ks⟩:Args)) Q E s' :=
  λvs s' h=>ad (ai h (λks s'' h=>ad (ae (ae h))) λ_1 _2 z=>z)
 cases as with
 | nil=>exact ad (m:=spliced []) (ai h (λvs s' h'=>ag (fin vs s' h')) λ_1 _2 x=>x)
 | cons a r =>
  obtain⟨b,x⟩:=a
  obtain rfl:b=false:=(Bool.or_eq_false_iff.mp hp).1
  show wpC M A (spliced ((false,x)::r) >>= _) Q E s
  exact ad (ai h (λvs s' h'=>ag (fin vs s' h')) λ_1 _2 x=>x)
theorem kD{p:Addr}{f self:Value}{pos:List Value}{kw:List (Str×Value)}{R:Result->Shared->Prop}{prog:Program}{w:World}(ho:s.heap.get? p=some (methodObj f self))
 (h:aT (model prog w) A (.call f ⟨self::pos,kw⟩) R s):aT (model prog w) A (.call (.ref p) ⟨pos,kw⟩) R s:=by
 refine aH rfl ?_
 show wpC _ A.in1 (callAny (.ref p) _) _ _ _
 unfold callAny
 refine ad (.of (wpAny_load ho ?_))
 cases f <;> exact ae ⟨rfl,h⟩
theorem fN:typeLookup (.type "tuple") "__iter__"=pure (some (.builtin "tuple.__iter__")):=by rw [typeLookup_type,builtinLookup_eq_fast]; kernel_rfl
end
section
variable {w:W}{σ σ':St}{g g' g1:G}{nv:Bool}{n:Nat}{π:Str->Addr}{v a b:AV}{ls:Loc}{I:Ev}{pos:Pos}{Ω:Om}{F:Fr'}
theorem oU{a:AV}(h:cI a=true):vol a=false:=by
 cases a <;> first | rfl | exact xFT h
theorem RVL.of:∀{vs:List AV}{us:List Value},bC vs=true->RDs σ vs us->RVL σ w π vs us
 | [],_1,_2,e=>e
 | a::r,_,hd,e=>by
  unfold bC at hd
  cases d:cI a <;> rw [d] at hd
  . cases hd
  . exact e.imp λv e=>e.imp λq e=>⟨e.1,(RV.of d).mpr e.2.1,RVL.of hd e.2.2⟩
theorem RVL.post{vs:List AV}{us:List Value}(gd:aj g.w σ)(p:au nv g σ g' σ')(hd:bC vs=true)(r:RVL σ g.w π vs us):RVL σ' g'.w π vs us:=RVL.of hd (RDs.keep (p.mv.keep gd) (RVL.data hd r))
theorem RDs.length:∀{vs:List AV}{us:List Value},RDs σ vs us->us.length=vs.length
 | [],_1,h=>by rw [h]; rfl
 | a::r,_,e=>e.elim λv e=>e.elim λq e=>by rw [e.1]; exact congrArg Nat.succ (RDs.length e.2.2)
theorem sk(hΩ:ΩOk n Ω)(hI:Snd n I){name:Str}{as:List Expr}{k:Keyword}{v:AV}{r:Nat}(hv:vB v=some r):Al (uw Ω I ls v name as k) g (MOk n pos ls g v name as [k]) :=
 .bdo λkn hk=>.wh λhs=>(eE hI pos as).bd λvs g1 h=>.wh λhd=>(hI.e k.value ls g1).bd λkv g2 h2=>.bdo λf hf=>.wh λhfk=>by
  obtain rfl:=Nat.eq_of_beq_eq_true hfk
  exact(vp hΩ (vs:=v::vs)).imp λu g' s o apos hl hn F σ x i rx=>by
   refine x02 (rB rx hv) λl e77_1=>?_
   subst e77_1
   obtain⟨ka,ke,kp⟩:=k
   obtain rfl:ka=some kn:=hk
   obtain rfl:=bm.mp hs
   refine cN (kB (h.2 F.env) rfl (Nat.succ_le_succ hn)) (oS hl) (iF hf l i.gd _) λp σ1 p1 e=>?_
   rw [e.1]
   intro A Q E rm q
   refine jH (P:=K0.In) (oR s.1) (oT (h.2 F.env) ?_)
   refine h.1 F σ1 (i.post p1) A _ E rm λus σ2 p2=>?_
   have i2:=(i.post p1).post p2.po
   unfold evalAll
   refine ad (ad (h2 F σ2 i2 A _ E rm λua σ3 p3=>ad (aq (ae ?_))))
   unfold evalAll
   refine ad (ag (ae (ae ?_)))
   have P:=p1.trans (p2.po.trans p3.po)
   exact⟨p3.po.good.base,CWp.call (s.2 _ F.π _ p3.po.good ⟨_,_,rfl,.cons (RV.post i.gd P (.inl (kC hv)) rx) (RVL.post i2.gd p3.po hd p2.rv),p3.rv⟩) A Q E rm λb σ' p4=>q b σ' ⟨p2.po.trans (p3.po.trans p4.po),p4.rv⟩⟩
theorem vu{r:Nat}{name:Str}{f:Nat}(hf:ah name fG=some f)(l:live g.w (.bld r))(gd:aj g.w σ){expr:Bool}:Wp n σ (getAttr (.ref (σ.α (.bld r))) name expr) (PR nv g σ g λu σ1=>∃ q,u=.ref q/\σ1.S q/\σ1.h.get? q=some (methodObj (.ref f) (.ref (σ.α (.bld r))))):=by
 refine(Option.isSome_iff_exists.mp (show(g.w.bs[r]?).isSome=true from l)).elim λb e=>?_
 refine x12 (gd.bld e l) λo e1 h=>?_
 exact .any λA Q E rm q=>get_bind gd.base (h.inst e1) bf.1 (uJ hf).2.2.1 bf.2.1 (wpAny_call (fn_get (s:={ σ.s with toks:=σ.s.toks+1 }) gd.base (uJ hf).2.1 (handed_on rfl (q _ (σ.new (methodObj (.ref f) (.ref (σ.α (.bld r)))) (σ.s.toks+1)) ⟨.new gd rfl rfl rfl,_,rfl,.inr rfl,Heap.get?_push_size _ rfl⟩))))
theorem sn{A:Around}{E:Value->Shared->Prop}{s:Shared}{f:Value}{x:Sem Value}{r:List (Bool×Sem Value)}{Q:Args->Shared->Prop}(h:wpC M0 A (spliced ((false,x)::r)) (λvs s'=>Q ⟨vs,[]⟩ s') E s):wpC M0 A (evalArgs f true ((false,x)::r) []) Q E s:=by
 unfold evalArgs
 show wpC M0 A (spliced ((false,x)::r) >>= _) Q E s
 exact ad (ai h (λvs s' h'=>ag (ad (ae (ad (ae (ae h')))))) λ_1 _2 x=>x)
theorem AB{α:Type}{A:Around}{E:Value->Shared->Prop}{s:Shared}{c:Bool}{a b:Sem α}{Q:α->Shared->Prop}(hc:c=true)(h:wpC M0 A a Q E s):wpC M0 A (if c=true then a else b) Q E s:=by rw [if_pos hc]; exact h
theorem oV{c1 c2:Sem Value}{p:Pos}{A:Around}{E:Value->Shared->Prop}{Q:List Value->Shared->Prop}{s:Shared}
 (h:wpC M0 A c1 (λu s1=>wpC M0 A c2 (λut s2=>∃ a ws,ut=.ref a/\IsTup s2.heap a (List.toArray ws)/\ws.length<=1000/\∀ h',(∀ b o,s2.heap.get? b=some o->h'.get? b=some o)->Q (u::ws) { s2 with heap:=h' }) E s1) E s):wpC M0 A (spliced [(false,c1),(true,do let v <- c2; standAt p; pure v)]) Q E s:=by
 rw [spliced]
 refine ad (ai h (λu s1 h=>?_) λ_1 _2 x=>x)
 simp only [Bool.false_eq_true,if_false]
 refine ad (ae (ad (ag ?_)))
 rw [spliced]
 refine ad (ad (ai h (λut s2 h=>ad (aq (ae ?_))) λ_1 _2 x=>x))
 refine x24 h λa ws e111_2 la hl q=>?_
 clear h
 subst e111_2
 simp only [if_true]
 refine ad ?_
 unfold notIterableAtAll
 refine ad (.of (wpAny_specialOf la.typeIs fN ?_))
 refine AB rfl (ae ?_)
 rw [if_neg (by exact Bool.false_ne_true)]
 refine yM (id la) λot ot1 ot2 nt ot3=>?_
 refine ad (.of (wpAny_collect_seq a (.inr rfl) ot1 ot2 ot3 (λh' keep=>?_) (by rw [sizeLine_eq]; exact le16 hl)))
 refine ad (ag ?_)
 rw [spliced]
 refine ae (ae (ae ?_))
 have:=q h' keep
 simpa using this
theorem AC{as:List Expr}{p:Expr×Expr}(h:lZ as=true)(e:two as=some p):du p.2=true:=by rw [jC e] at h; exact h
set_option tactic.hygienic true in
theorem mE(hΩ:ΩOk n Ω)(hI:Snd n I){name:Str}{a e:Expr}{v:AV}{r:Nat}(hv:vB v=some r):Al (lY Ω I ls v name a e) g (MOk n pos ls g v name [a,e] []) :=
 .bdo λq hq=>.bdo λx hx=>.wh λha=>(hI.e a ls g).bd λva g1 h1=>(hI.e q.1 ls g1).bd λvt g2 h2=>.bdo λvs hvs=>.wh λhd=>.bdo λf hf=>(iA hΩ).imp λu g' s o apos hl hn F σ xv i rx=>by
  refine x02 (rB rx hv) λl e128_1=>?_
  subst e128_1
  refine x02 (aw hd) λd1 d2=>?_
  refine x02 (aw d2) λd2 d3=>?_
  obtain rfl:=xj hq
  have hf1:methodCallForm ([a,Expr.Starred q.1 q.2].length+([]:List Keyword).length) (backTo pos (starEach [a,.Starred q.1 q.2] F.env)) (backToKw pos (keywordEach [] F.env))=false:=by
   rw [ck (Bool.not_eq_true' _ |>.mp ha)]; rfl
  refine cN (R0:=λp σ1=>∃ m,p=(.ref m,[])/\σ1.S m/\σ1.h.get? m=some (methodObj (.ref f) (.ref (σ.α (.bld r))))) hf1 rfl ?_ λp σ1 p1 r1=>?_
  . show Wp n σ (do pure (<- getAttr (.ref (σ.α (.bld r))) name true,[])) _
    exact(vu hf l i.gd).seq λb σ1 p1 r1=>.ret p1.good rfl rfl (r1.imp λm z=>⟨by rw [z.1],z.2⟩)
  . refine x13 r1 λm e137_1 mS m1=>?_
    clear r1
    subst e137_1
    obtain⟨fo,fd,hf1,hf2⟩:∃ o fd,K0.lookup f=some o/\o.data=.func fd:=by
     have:=(uJ hf).2.2.2
     unfold fnIn at this
     split at this
     . rename_i e; exact⟨_,_,e,rfl⟩
     . cases this
    intro A Q E rm k
    have i1:=i.post p1
    refine jH (P:=λh=>h.get? m=some (methodObj (.ref f) (.ref (σ.α (.bld r))))/\K0.In h) (λh X=>⟨.boundFrame,.inr (.inr rfl),(Looks.ld (part:=none) X.1).andThen ((Looks.ld (part:=none) (X.2 _ _ hf1)).andThen (by rw [hf2]; exact .now))⟩) ?_
    rw [ck (Bool.not_eq_true' _ |>.mp ha)]
    refine sn (oV (h1 F σ1 i1 A _ E rm λua σ2 p2=>h2 F σ2 (i1.post p2.po) A _ E rm λut σ3 p3=>?_))
    have i2:=i1.post p2.po
    obtain⟨ta,ws,rfl,sa,la,ra⟩:RD σ3 (.tup vs) ut:=by have:=p3.rv; rw [show vt=.tup vs from tS hvs] at this; exact this
    refine⟨ta,ws,rfl,la,(RDs.length ra).symm▸Nat.le_of_ble_eq_true d3,λh' keep=>?_⟩
    have p4:au (ao ls.v) g2 σ3 g2 (σ3.to h' σ3.s.toks):=.stay p3.po.good rfl rfl keep
    have P23:=p2.po.trans p3.po
    have P34:=p3.po.trans p4
    have hm:=keep _ _ ((P23.mv.keep i1.gd).same _ _ mS m1)
    refine⟨⟨hm,p4.good.base⟩,cq (kD hm ?_)⟩
    refine s.run (π:=F.π) p4.good (.cons (RV.post i.gd ((p1.trans P23).trans p4) (.inl (kC hv)) rx) (.cons (RV.post i2.gd P34 (.inl (oU d1)) p2.rv) (RVL.of d2 (RDs.keep (p4.mv.keep p3.po.good) ra)))) A _ rm λb σ' p5=>k b σ' ⟨(P23.trans p4).trans p5.po,p5.rv⟩
theorem oW(hΩ:ΩOk n Ω)(hI:Snd n I){name:Str}{as:List Expr}{ks:List Keyword}{v:AV}{r:Nat}(hv:vB v=some r):Al (qf Ω I ls v name as ks) g (MOk n pos ls g v name as ks) :=
 .vw (λk e=>by rw [one_e e]; exact sk hΩ hI hv) λ_1=>.wh λhk=>by
  obtain rfl:ks=[]:=by cases ks <;> first | rfl | cases hk
  exact .ei (λ_1=>.bdo λp e=>by rw [jC e]; exact mE hΩ hI hv) λ_1=>mD hΩ hI hv
end
end
end
section
open PySem PySem.W PyProof.Rows PySem.Calls
section
structure iG(it:Addr)(st:Bool)(O:Addr->Prop)(P:W->St->List AV->Prop):Prop where
 keep:∀ w σ w' σ' xs,bW σ σ'->(st=true->w'=w/\σ'.α=σ.α)->(∀ b,O b->σ'.h.get? b=σ.h.get? b)->σ'.h.get? it=σ.h.get? it->P w σ xs->P w' σ' xs
 next:∀ w σ x r A (Q:Option Value->Shared->Prop) E,aj w σ->P w σ (x::r)->¬ σ.S it->(∀ q,live w q->σ.α q≠it) ->
  (∀ h' u t,But it σ.h h'->P w (σ.to h' t) r->cI x=true->RD (σ.to h' t) x u->(∃ o,h'.get? it=some o)->Q (some u) (σ.to h' t).s)->wpAny M0 A (pyNext (.ref it)) Q E σ.s
 fin:∀ w σ A (Q:Option Value->Shared->Prop) E,A.handled=none->aj w σ->P w σ []->(∀ h',But it σ.h h'->Q none (σ.to h' σ.s.toks).s)->wpAny M0 A (pyNext (.ref it)) Q E σ.s
 cell:∀ w σ xs v,P w σ xs->¬ σ.h.IsCell it v
theorem mF(c:Int):∀ (n:Nat) (a:Int),(dM a c n).length=n
 | 0,_1=>rfl
 | n+1,a=>congrArg Nat.succ (mF c n (a+c))
section
variable {w w':W}{σ σ':St}{g g' g1 g2:G}{nv:Bool}{n:Nat}{π:Str->Addr}{v a b:AV}{ls:Loc}{I:Ev}{pos:Pos}{F F0:Fr'}{X:Addr->Prop}{p it:Addr}{h':Heap}{t:Nat}{st:Bool}{P:W->St->List AV->Prop}
theorem RD.data{u:Value}:∀{a:AV},RD σ a u->cI a=true
 | .none,_1=>rfl
 | .bool _1,_2=>rfl
 | .int _1,_2=>rfl
 | .str _1,_2=>rfl
 | .bytes _1,_2=>rfl
 | .barr _1,_2=>rfl
 | .ty _1,_2=>rfl
 | .bi _1,_2=>rfl
 | .top _1,_2=>rfl
 | .key _1,h=>h.elim
 | .lref _1,h=>h.elim
 | .rng ..,_1=>rfl
 | .ints _1,_2=>rfl
 | .itup _1,_2=>rfl
 | .list _1,_2=>rfl
 | .tup _1,_2=>rfl
theorem RDs.at:∀{as:List AV}{vs:List Value}{j:Nat}{a:AV},RDs σ as vs->as[j]?=some a->∃ v,vs[j]?=some v/\RD σ a v
 | x::r,_,0,a,h,e=>h.elim λv h=>h.elim λq h=>⟨v,by rw [h.1]; rfl,Option.some.inj e▸h.2.1⟩
 | x::r,_,j+1,a,h,e=>h.elim λv h=>h.elim λq h=>(RDs.at h.2.2 (show r[j]?=some a from e)).imp λu z=>⟨by rw [h.1]; exact z.1,z.2⟩
theorem RDs.ints:∀{xs:List Int}{vs:List Value},IntsAre vs xs->RDs σ (xs.map .int) vs
 | [],_1,h=>by cases h; rfl
 | x::r,_,h=>by cases h with | cons _1 t q=>exact⟨_,_,rfl,⟨t,rfl⟩,RDs.ints q⟩
theorem eF{α:Type}:∀{ys:List α}{j:Nat}{x:α}{r:List α},x::r=ys.drop j->ys[j]?=some x/\r=ys.drop (j+1)/\j < ys.length
 | y::ys,0,x,r,e=>by cases e; exact⟨rfl,rfl,Nat.succ_pos _⟩
 | y::ys,j+1,x,r,e=>⟨(eF (ys:=ys) (j:=j) e).1,(eF (ys:=ys) (j:=j) e).2.1,Nat.succ_lt_succ (eF (ys:=ys) (j:=j) e).2.2⟩
 | [],_1,_2,_3,e=>by rw [List.drop_nil] at e; cases e
theorem drop_nil{α:Type}:∀{ys:List α}{j:Nat},[]=ys.drop j->ys[j]?=none
 | [],_1,_2=>rfl
 | y::ys,j+1,e=>drop_nil (ys:=ys) (j:=j) e
noncomputable def qH(it:Addr)(w:W)(σ:St)(xs:List AV):Prop:=∃ x c m,IsRangeIter σ.h it x (m:Nat) c/\xs=(dM x c m).map .int
noncomputable def qI(it:Addr)(O:Addr->Prop)(w:W)(σ:St)(xs:List AV):Prop:=∃ l i us ys,σ.h.IsListIter it l i/\(σ.S l\/O l)/\σ.h.IsList l (List.toArray us)/\RDs σ ys us/\xs=ys.drop i
theorem zu(it:Addr){O:Addr->Prop}:iG it st O (qH it) where
 keep w σ w' σ' xs k _ _ e h:=h.imp λx h=>h.imp λc h=>h.imp λm h=>⟨e.trans h.1,h.2⟩
 next w σ x r A Q E gd h hS hq k:=by
  refine x32 h λy c m i e=>?_
  cases m with
  | zero=>cases e
  | succ m =>
   injection e with e1 e2
   subst e1 e2
   refine wpAny_pyNext_range_item i (Int.natCast_pos.mpr (Nat.succ_pos m)) λh' i' hb=>k h' _ _ (SameBut.but hb) ⟨y+c,c,m,?_,rfl⟩ rfl ⟨_,rfl⟩ ⟨_,i'⟩
   rw [show((m+1:Nat):Int)-1=m from by rw [Int.natCast_add]; exact Int.add_sub_cancel _ _] at i'; exact i'
 fin w σ A Q E hh gd h k:=by
  refine x32 h λy c m i e=>?_
  cases m with
  | zero=>exact wpAny_pyNext_range_end hh i (Int.le_refl _) k
  | succ m=>cases e
 cell w σ xs v h c:=by
  refine x32 h λy _1 m i e=>?_
  refine x12 c λo c1 c2=>?_
  rw [<- Option.some.inj (i.symm.trans c1)] at c2
  cases c2
theorem zv(it:Addr){O:Addr->Prop}(nO:¬ O it):iG it st O (qI it O) where
 keep w σ w' σ' xs k _ ho e h:=h.imp λl h=>h.imp λi h=>h.imp λus h=>h.imp λys h=>⟨h.1.imp λo z=>⟨e.trans z.1,z.2⟩,h.2.1.imp (k.sub _) id,h.2.1.elim (λs=>k.list s h.2.2.1) λs=>h.2.2.1.imp λo z=>⟨(ho _ s).trans z.1,z.2⟩,RDs.keep k h.2.2.2.1,h.2.2.2.2⟩
 next w σ x r A Q E gd h hS hq k:=by
  refine x45 h λl j us ys i sl il rd e=>?_
  refine x03 (eF e) λe1 e2 hlt=>?_
  refine x12 (RDs.at rd e1) λu hu ru=>?_
  refine wpAny_pyNext_list_item i il (x:=u) (by simpa using hu) λh' i' hb=>?_
  have kp:bW σ (σ.to h' σ.s.toks):=But.keep (SameBut.but hb) hS
  exact k h' u σ.s.toks (SameBut.but hb) ⟨l,j+1,us,ys,i',sl,sl.elim (λs=>kp.list s il) λs=>il.imp λo z=>⟨hb.2 l (λz=>nO (z▸s)) |>.trans z.1,z.2⟩,RDs.keep kp rd,e2⟩ (RD.data ru) (RD.keep kp ru) (i'.imp λo z=>z.1)
 fin w σ A Q E hh gd h k:=by
  refine x45 h λl j us ys i sl il rd e=>?_
  refine wpAny_pyNext_list_end hh i il ?_ k
  have:=drop_nil e
  rw [List.getElem?_eq_none_iff,<- RDs.length rd] at this
  simpa using this
 cell w σ xs v h c:=by
  obtain⟨l,j,us,ys,⟨o',i1,i2,i3⟩,_⟩:=h
  refine x12 c λo c1 c2=>?_
  rw [<- Option.some.inj (i1.symm.trans c1),i3] at c2
  cases c2
noncomputable def kE(st:Bool)(xs:List AV)(w:W)(σ:St)(u:Value)(σ':St):Prop:=∃ it P,u=.ref it/\σ.h.get? it=none/\(∃ o,σ'.h.get? it=some o)/\σ'.α=σ.α/\(∀ a,σ'.S a->σ.S a)/\iG it st (λ_1=>False) P/\P w σ' xs
theorem mG{c:Sem Value}{o:Obj}{xs:List AV}{P:W->St->List AV->Prop}(gd:aj g.w σ)(hf:o.isFreed=false)(hP:iG σ.h.objs.size st (λ_1=>False) P)(h:∀ (A:Around) (Q:Value->Shared->Prop) (E:Value->Shared->Prop),(∀ t,Q (.ref σ.h.objs.size) (σ.to (σ.h.push o) t).s)->wpAny M0 A c Q E σ.s)
 (k:∀ t,P g.w (σ.to (σ.h.push o) t) xs):Wp n σ c (PR nv g σ g (kE st xs g.w σ)) :=
 .any λA Q E _1 q=>h A Q E λt=>q _ (σ.to (σ.h.push o) t) ⟨.stay gd rfl rfl λ_1 _2 e=>Heap.get?_push_of_some _ e,_,P,rfl,get?_size,⟨_,Heap.get?_push_size _ hf⟩,rfl,λ_1=>id,hP,k t⟩
theorem jI{xs:List AV}{a:Addr}{us:List Value}(gd:aj g.w σ)(sa:σ.S a)(la:σ.h.IsList a us.toArray)(rd:RDs σ xs us):Wp n σ (pyIter (.ref a)) (PR nv g σ g (kE st xs g.w σ)) :=
 mG (P:=qI σ.h.objs.size λ_1=>False) gd rfl (zv _ id) (λA Q E q=>wpAny_pyIter_list la (q σ.s.toks)) λt=>⟨a,0,us,xs,⟨_,Heap.get?_push_size _ rfl,rfl,rfl⟩,.inl sa,la.push _,RDs.keep (.tok λ_1 _2 z=>Heap.get?_push_of_some _ z) rd,rfl⟩
theorem vx:Al (uq v) g λxs g'=>g'=g/\∀ nv σ π u,aj g.w σ->RV σ g.w π v u->Wp n σ (pyIter u) (PR nv g σ g (kE st xs g.w σ)) :=
 .vw (λxs e=>.ok ⟨rfl,λnv σ π u gd r=>by
  rw [vL_e e] at r
  refine x24 r λa us e102_2 sa la rd=>?_
  clear r
  subst e102_2
  exact jI gd sa la rd⟩)
 λ_1=>.vw (λxs e=>.ok ⟨rfl,λnv σ π u gd r=>by
  refine x24 (rIs r e) λa us e105_2 sa la ia=>?_
  subst e105_2
  exact jI gd sa la (RDs.ints ia)⟩)
 λ_1=>.bdo λq e=>.ok ⟨rfl,λnv σ π u gd r=>by
  rw [yW e] at r
  obtain⟨a,c,m⟩:=q
  obtain⟨r,b,t,u',z,rfl,sr,ir,sz,sm⟩:=r
  exact mG (P:=qH σ.h.objs.size) gd rfl (zu _) (λA Q E q=>wpAny_pyIter_range ir sm (q _)) λt=>⟨a,c,m,by rw [<- sz]; exact Heap.get?_push_size _ rfl,rfl⟩⟩
theorem Inv.lone(i:Inv F ls w σ)(hP:aO σ w p)(hX:¬ F.X p)(hc:∀ v,¬ σ.h.IsCell p v)(hb:But p σ.h h'):Inv F ls w (σ.to h' t):=by
 have lr:∀ {x v u},ah x ls.v=some v->LR σ w F.π x v u->LR (σ.to h' t) w F.π x v u:=λ{x v u} hx l=>by
  cases v with
  | v b=>exact RV.quiet (hb.keep hP.1) rfl l
  | own xs=>exact⟨l.1,l.2.imp λo e=>⟨hb _ o (λz=>hX (z▸i.fs.ownB x _ hx rfl)) e.1,e.2⟩⟩
  | ownB b=>exact⟨l.1,hb _ _ (λz=>hX (z▸i.fs.ownB x _ hx rfl)) l.2⟩
 have cl:∀ {c v},σ.h.IsCell c v->h'.IsCell c v:=λ{c v} z=>z.imp λo e=>⟨hb c o (λq=>hc v (q▸z)) e.1,e.2⟩
 have pv:∀ {c},aO σ w c->c≠p->aO (σ.to h' t) w c:=λ{c} q z=>⟨q.1,q.2.1,q.2.2.imp λo e=>hb c o z e⟩
 exact⟨i.gd.lone hP.1 hP.2.1 hb,i.fs,λa h=>pv (i.fd.xP a h) λz=>hX (z▸h),λx c e d=>⟨pv (i.fd.celP x c e d).1 λz=>(i.fd.celP x c e d).2.elim λv q=>hc v (z▸q),(i.fd.celP x c e d).2.imp λv=>cl⟩,
  i.fd.loc.imp λm h=>⟨h.1.imp λo e=>e.imp λes e=>e.imp λep e=>⟨hb _ o (λz=>hX (z▸i.fs.locB)) e.1,e.2⟩,λx v e k=>(h.2 x v e k).imp λu h=>⟨h.1,lr e h.2⟩⟩,λx c v e hk hx=>(i.fd.cel x c v e hk hx).imp λu h=>⟨cl h.1,lr hx h.2⟩⟩
theorem Inv.sub{l':List (Str×LV)}(i:Inv F ls w σ)(h:∀ x v,ah x l'=some v->ah x ls.v=some v):Inv F ⟨l',ls.sc⟩ w σ :=
 ⟨i.gd,⟨i.fs.fn,i.fs.gl,i.fs.bl,i.fs.kinds,λx v e=>i.fs.dom x v (h x v e),i.fs.locB,i.fs.celL,i.fs.celB,i.fs.celI,λx v e=>i.fs.ownB x v (h x v e),λx y v u e o e'=>i.fs.ownI x y v u (h x v e) o (h y u e')⟩,
  ⟨i.fd.xP,i.fd.celP,i.fd.loc.imp λm z=>⟨z.1,λx v e=>z.2 x v (h x v e)⟩,λx c v e hk hx=>i.fd.cel x c v e hk (h x v hx)⟩⟩
theorem oX{l:List (Str×LV)}{x:Str}{v:LV}{r:List (Str×LV)}(h:ah x (yP l r)=some v):ah x l=some v :=
 x12 (List.mem_filterMap.mp (cG h)) λp _1 e=>x12 (Option.map_eq_some_iff.mp e) λu e1 e2=>by rw [<- (Prod.mk.inj e2).1,<- (Prod.mk.inj e2).2]; exact e1
theorem Inv.back{l0:Loc}(i:Inv F ls w σ):Inv F (Internal.back l0 ls) w σ:=i.sub λx v=>oX
theorem aL.lone2{σ0:St}{g0:G}(q:aL X g0 σ0 g σ)(hn:σ0.h.get? p=none)(hP:¬ σ.S p)(hq:∀ q,live g.w q->σ.α q≠p)(hb:But p σ.h h'):aL X g0 σ0 g (σ.to h' t) :=
 have ne:∀ {b o},σ0.h.get? b=some o->b≠p:=λe z=>(nomatch (z▸e).symm.trans hn)
 ⟨⟨q.mv.sub,λb o e x no=>hb b o (ne e) (q.mv.pres b o e x no),λb o e=>(q.mv.grow b o e).imp λo' e'=>hb b o' (ne e) e',q.mv.fnew,q.mv.anew,q.mv.astab,q.mv.good.lone hP hq hb,q.mv.gens,q.mv.os⟩,q.calm⟩
theorem aO.smv(q:aO σ w p)(hX:¬ X p)(m:SMv X w σ w' σ'):aO σ' w' p/\σ'.h.get? p=σ.h.get? p :=
 q.2.2.elim λo e=>⟨⟨λh=>(m.fnew p h).elim q.1 λy=>(nomatch e.symm.trans y),λk l h=>(m.anew k l).elim (λy=>q.2.1 k y.1 (y.2.symm.trans h)) λy=>y.elim (λy=>(nomatch (h▸y).symm.trans e)) λy=>hX (h▸y),o,m.pres p o e hX q.2.1⟩,(m.pres p o e hX q.2.1).trans e.symm⟩
structure Acc(F0:Fr')(g0:G)(σ0:St)(F:Fr')(ls:Loc)(g:G)(σ:St):Prop where
 po:aL F0.X g0 σ0 g σ
 x:∀ a,F.X a->F0.X a\/σ0.h.get? a=none
 e:F.env=F0.env
 i:Inv F ls g.w σ
theorem aL.fresh{σ0:St}{g0:G}(q:aL X g0 σ0 g σ){a:Addr}(h:σ.h.get? a=none):σ0.h.get? a=none:=q.mv.fresh h
theorem Acc.step{σ0:St}{g0:G}{x:Fl×Loc}{f:Flow}(a:Acc F0 g0 σ0 F ls g σ)(r:SR F g σ x g' f σ'):∃ F',Acc F0 g0 σ0 F' x.2 g' σ'/\fe σ' g'.w F'.π x.1 f/\∀ a,F'.X a->F.X a\/σ.h.get? a=none :=
 r.ex.elim λπ' h=>h.elim λX' h=>⟨⟨F.env,π',X'⟩,⟨a.po.trans a.x r.po,λb z=>(h.1 b z).elim (a.x b) λz=>.inr (a.po.fresh z),a.e,⟨r.po.mv.good,h.2.2.1,h.2.2.2⟩⟩,h.2.1,h.1⟩
theorem Acc.post{σ0:St}{g0:G}(a:Acc F0 g0 σ0 F ls g σ)(p:au (ao ls.v) g σ g' σ'):Acc F0 g0 σ0 F ls g' σ':=⟨a.po.trans a.x p.toS,a.x,a.e,a.i.post p⟩
theorem Acc.out{σ0:St}{g0:G}{fl:Fl}{f:Flow}(a:Acc F0 g0 σ0 F ls g σ)(h:fe σ g.w F.π fl f):SR F0 g0 σ0 (fl,ls) g f σ:=⟨a.po,F.π,F.X,a.x,h,by rw [<- a.e]; exact a.i.fs,by rw [<- a.e]; exact a.i.fd⟩
noncomputable def Aft(z:Fl×Loc)(k:Loc->Prop)(r:AV->Prop):Prop:=match z.1 with
 | .nx=>k z.2
 | .ct=>k z.2
 | .bk=>False
 | .rt v=>r v
noncomputable def vy(n:Nat)(st:Bool)(body:List Stmt)(ls:Loc)(g:G)(z:Fl×Loc)(g':G):Prop:=∀ F σ,Inv F ls g.w σ->Wp n σ (execs body F.env) λf σ'=>SR F g σ z g' f σ'/\(st=true->g'.w=g.w/\σ'.α=σ.α)
noncomputable def mH(n:Nat)(st:Bool)(x:Str)(body:List Stmt)(y:Fl×Loc)(g':G):List AV->Loc->G->Prop
 | [],ls,g=>y=(.nx,ls)/\g=g'
 | i::r,ls,g=>ls.may x=true/\∃ z g2,vy n st body (ls.put x (.v i)) g z g2/\Aft z (λl=>mH n st x body y g' r (back ls l) g2) λv=>y=(.rt v,⟨[],z.2.sc⟩)/\g'=g2
theorem kF{z:Fl×Loc}{rt:Bool}{next:Loc->EM (Fl×Loc)}{K:Loc->G->Fl×Loc->G->Prop}(h:∀ l,Al (next l) g λy g'=>K l g y g'):Al (qd z rt next) g λy g'=>Aft z (λl=>K l g y g') λv=>y=(.rt v,⟨[],z.2.sc⟩)/\g'=g:=by
 obtain⟨fl,l⟩:=z
 cases fl with
 | nx=>exact h l
 | ct=>exact h l
 | bk=>exact .no
 | rt v=>exact .wh λ_1=>.ok ⟨rfl,rfl⟩
theorem qJ(hI:Snd n I){x:Str}{body:List Stmt}:∀ (xs:List AV) (ls:Loc) (g:G),Al (ji I x body xs ls) g λy g'=>mH n false x body y g' xs ls g
 | [],ls,g=>.ok ⟨rfl,rfl⟩
 | i::r,ls,g=>.asg λhm=>(ff hI body _ g).bd λz g2 h=>(kF (K:=λl g2 y g'=>mH n false x body y g' r (back ls l) g2) λl=>qJ hI r (back ls l) g2).imp λy g' k=>⟨hm,z,g2,λF σ i=>(h F σ i).mono λf σ' r=>⟨r,nofun⟩,k⟩
theorem bz.mark{A:Around}(r:bz n A):bz n (A.mark none):=⟨r.1,r.2.1,(by show(none:Option Value).or A.handled=none; rw [r.2.2.1]; rfl),r.2.2.2⟩
theorem Inv.xS(i:Inv F ls w σ){a:Addr}(h:σ.S a):¬ F.X a:=λz=>(i.fd.xP a z).1 h
theorem qK(hP:iG it st (λ_1=>False) P){x:Str}{px:Pos}{body:List Stmt}{y:Fl×Loc}{σ0:St}{g0:G}{A:Around}{R:Result->Shared->Prop}(hit:σ0.h.get? it=none)(hr:bz n A)
 (fin:∀ f σ',SR F0 g0 σ0 y g' f σ'->R (.ok f) σ'.s){xs:List AV} (hx:mH n st x body y g' xs ls g) (a:Acc F0 g0 σ0 F ls g σ) (hX:¬ F.X it) (hi:P g.w σ xs) (hp:aO σ g.w it):aT M0 A (.forLoop (.Name x px) (.ref it) body [] F0.env) R σ.s:=by
 refine jg (λm s'=>∃ xs ls g F σ,σ.s=s'/\m=xs.length/\mH n st x body y g' xs ls g/\Acc F0 g0 σ0 F ls g σ/\¬ F.X it/\P g.w σ xs/\aO σ g.w it) ?_ xs.length ⟨xs,ls,g,F,σ,rfl,rfl,hx,a,hX,hi,hp⟩ (λ_1=>rfl)
 intro m s' h0
 refine x57 h0 λxs ls g F σ e1 e2 hx a hX hi hp=>?_
 clear h0
 subst e1
 subst e2
 cases xs with
 | nil =>
  refine x02 hx λe183_0 e183_1=>?_
  clear hx
  subst e183_0
  subst e183_1
  refine .of (hP.fin g.w σ A _ _ hr.2.2.1 a.i.gd hi λh' hb=>.of (wpAny_execs_nil ?_))
  exact fin .next (σ.to h' σ.s.toks) (Acc.out ⟨a.po.lone2 hit hp.1 hp.2.1 hb,a.x,a.e,a.i.lone hp hX (λv=>hP.cell _ _ _ v hi) hb⟩ rfl)
 | cons i r =>
  refine tE hx λhm z g2 bo af=>?_
  refine .of (hP.next g.w σ i r A _ _ a.i.gd hi hp.1 hp.2.1 λh' u t' hb hi' hdx hru hex=>?_)
  have i1:=a.i.lone (t:=t') hp hX (λv=>hP.cell _ _ _ v hi) hb
  have a1:Acc F0 g0 σ0 F ls g (σ.to h' t'):=⟨a.po.lone2 hit hp.1 hp.2.1 hb,a.x,a.e,i1⟩
  have hp1:aO (σ.to h' t') g.w it:=⟨hp.1,hp.2.1,hex⟩
  dsimp only
  rw [PySem.assign_Name,<- a.e]
  refine ad (aq ?_)
  refine fM (n:=n) (lv:=.v i) (u:=u) hm i1 ((RV.of hdx).mpr hru) nofun A _ _ hr λ_1 σ2 p2=>?_
  have s2:=hp1.smv hX p2.1.mv
  have a2:Acc F0 g0 σ0 F (ls.put x (.v i)) g σ2:=⟨a1.po.trans a1.x p2.1,a1.x,a1.e,p2.2.1⟩
  have hi2:P g.w σ2 r:=hP.keep g.w (σ.to h' t') g.w σ2 r (p2.1.keep i1.gd λa=>i1.xS) (λ_1=>⟨rfl,p2.2.2⟩) (λ_1 z=>z.elim) s2.2 hi'
  refine bo F σ2 p2.2.1 A _ _ hr λfl σ3 p3=>?_
  refine x13 (a2.step p3.1) λF3 a3 e3 x3=>?_
  have s3:=s2.1.smv hX p3.1.po.mv
  have hX3:¬ F3.X it:=λz=>(x3 it z).elim hX λz'=>s2.1.2.2.elim λo e=>(nomatch e.symm.trans z')
  have hi3:P g2.w σ3 r:=hP.keep g.w σ2 g2.w σ3 r (p3.1.po.keep p2.2.1.gd λa=>p2.2.1.xS) p3.2 (λ_1 z=>z.elim) s3.2 hi2
  obtain⟨fx,l2⟩:=z
  cases fx with
  | nx=>rw [show fl=.next from e3]; exact⟨r.length,Nat.lt_succ_self _,r,_,g2,F3,σ3,rfl,rfl,af,⟨a3.po,a3.x,a3.e,a3.i.back⟩,hX3,hi3,s3.1⟩
  | ct=>rw [show fl=.cont from e3]; exact⟨r.length,Nat.lt_succ_self _,r,_,g2,F3,σ3,rfl,rfl,af,⟨a3.po,a3.x,a3.e,a3.i.back⟩,hX3,hi3,s3.1⟩
  | bk=>exact af.elim
  | rt v =>
   refine x02 af λe210_0 e210_1=>?_
   clear af
   subst e210_0
   subst e210_1
   refine x12 e3 λu e211_1 ru=>?_
   clear e3
   subst e211_1
   exact fin (.ret u) σ3 (Acc.out (fl:=.rt v) ⟨a3.po,a3.x,a3.e,a3.i.sub nofun⟩ ⟨u,rfl,ru⟩)
theorem aU(gd:aj w σ){it:Addr}(h:σ.h.get? it=none):¬ σ.S it/\∀ q,live w q->σ.α q≠it:=⟨λz=>(gd.frz it z).elim λo e=>(nomatch e.symm.trans h),λq l z=>(gd.at_ q l).elim λo e=>(nomatch (z▸e.1).symm.trans h)⟩
theorem xO{x:Str}{px:Pos}{body:List Stmt}{y:Fl×Loc}{c:Sem Value}{xs:List AV}(i:Inv F ls g.w σ)(hc:Wp n σ c (PR (ao ls.v) g σ g (kE st xs g.w σ)))
 (hx:mH n st x body y g' xs ls g):Wp n σ (do let it <- c; runOwn (.forLoop (.Name x px) it body [] F.env) F.env) (SR F g σ y g'):=λA Q E rm q=>ad (hc A _ E rm λu σ2 p2=>by
 refine x27 p2.rv λit P e217_2 q1 q2 q4 q5 hP hi=>?_
 subst e217_2
 have i2:=i.post p2.po
 have pv:=aU i.gd q1
 exact eY (qK (F0:=F) (σ0:=σ) hP q1 rm.mark (λf σ' r=>q f σ' r) hx ⟨p2.po.toS,λ_1=>.inl,rfl,i2⟩ (λz=>(i.fd.xP it z).2.2.elim λo e=>(nomatch e.symm.trans q1)) hi ⟨λz=>pv.1 (q5 it z),λk l=>by rw [q4]; exact pv.2 k l,q2⟩))
theorem AD(hI:Snd n I){x:Str}{px:Pos}{e:Expr}{body:List Stmt}(he:(!cY e)=true):Al (Internal.bd (I.e e ls) λv=>Internal.bd (uq v) λxs=>ji I x body xs ls) g (SOk n (.For (.Name x px) e body [] pos) ls g) :=
 (hI.e e ls g).bd λv g1 h=>(vx (st:=false)).bd λxs g2 h2=>(qJ hI xs ls g2).imp λy g' k F σ i=>by
  obtain⟨rfl,h2⟩:=h2
  have hs:∀ x,foldedSetIterable e F.env x=pure x:=by intro x; cases e <;> first | rfl | cases he
  rw [exec_For]
  refine .stand ((h F σ i).seqS λu σ1 p1 r1=>?_)
  rw [hs]
  exact .bnd (Wp.pure (Φ:=λp σ2=>p=u/\σ2=σ1) ⟨rfl,rfl⟩) λu' σ2 e=>by
   rw [e.1,e.2]
   exact .stand (xO (i.post p1) (.hold (h2 _ σ1 F.π u p1.good r1)) k)
noncomputable def vz(n:Nat)(t:Expr)(body:List Stmt)(y:Fl×Loc)(g':G):Nat->Loc->G->Prop
 | 0,ls,g=>TOk n t ls g false g'/\y=(.nx,ls)
 | k+1,ls,g=>∃ g1 z g2,TOk n t ls g true g1/\BOk n body ls g1 z g2/\Aft z (λl=>vz n t body y g' k (Internal.back ls l) g2) λv=>y=(.rt v,⟨[],z.2.sc⟩)/\g'=g2
theorem jJ(hI:Snd n I){t:Expr}{body:List Stmt}:∀ (k:Nat) (ls:Loc) (g:G),Al (dy I t body k ls) g λy g'=>vz n t body y g' k ls g
 | 0,ls,g=>(hI.t t ls g).bd λb g1 h=>.wh λhb=>.ok ⟨by rw [Bool.not_eq_true' _ |>.mp hb] at h; exact h,rfl⟩
 | k+1,ls,g=>(hI.t t ls g).bd λb g1 h=>.wh λhb=>(ff hI body ls g1).bd λz g2 h2=>(kF (K:=λl g2 y g'=>vz n t body y g' k (Internal.back ls l) g2) λl=>jJ hI k (Internal.back ls l) g2).imp λy g' k=>⟨g1,z,g2,by rw [hb] at h; exact h,h2,k⟩
theorem vA{t:Expr}{body:List Stmt}{y:Fl×Loc}{σ0:St}{g0:G}{A:Around}{R:Result->Shared->Prop}(hr:bz n A)(fin:∀ f σ',SR F0 g0 σ0 y g' f σ'->R (.ok f) σ'.s){m:Nat}(hx:vz n t body y g' m ls g)(a:Acc F0 g0 σ0 F ls g σ) :
 aT M0 A (.whileLoop t body [] F0.env) R σ.s:=by
 refine gx (λm s'=>∃ ls g F σ,σ.s=s'/\vz n t body y g' m ls g/\Acc F0 g0 σ0 F ls g σ) ?_ m ⟨ls,g,F,σ,rfl,hx,a⟩
 intro m s' h0
 refine x43 h0 λls g F σ e1 hx a=>?_
 clear h0
 subst e1
 rw [<- a.e]
 cases m with
 | zero =>
  refine x02 hx λh e245_1=>?_
  clear hx
  subst e245_1
  refine h F σ a.i A _ _ hr λb σ2 p2=>?_
  rw [p2.rv]
  exact .of (wpAny_execs_nil (fin .next σ2 ((a.post p2.po).out rfl)))
 | succ m =>
  refine x33 hx λg1 z g2 h bo af=>?_
  refine h F σ a.i A _ _ hr λb σ2 p2=>?_
  rw [p2.rv]
  have a2:=a.post p2.po
  refine bo F σ2 a2.i A _ _ hr λfl σ3 p3=>?_
  refine x13 (a2.step p3) λF3 a3 e3 _1=>?_
  obtain⟨fx,l2⟩:=z
  cases fx with
  | nx=>rw [show fl=.next from e3]; exact⟨m,Nat.lt_succ_self m,_,g2,F3,σ3,rfl,af,a3.po,a3.x,a3.e,a3.i.back⟩
  | ct=>rw [show fl=.cont from e3]; exact⟨m,Nat.lt_succ_self m,_,g2,F3,σ3,rfl,af,a3.po,a3.x,a3.e,a3.i.back⟩
  | bk=>exact af.elim
  | rt v =>
   refine x02 af λe262_0 e262_1=>?_
   clear af
   subst e262_0
   subst e262_1
   refine x12 e3 λu e263_1 ru=>?_
   clear e3
   subst e263_1
   exact fin (.ret u) σ3 (Acc.out (fl:=.rt v) ⟨a3.po,a3.x,a3.e,a3.i.sub nofun⟩ ⟨u,rfl,ru⟩)
theorem vD(hI:Snd n I){t:Expr}{body:List Stmt}:Al (Internal.bd turns λk=>dy I t body k ls) g (SOk n (.While t body [] pos) ls g) :=
 .turn λk=>(jJ hI k ls _).imp λy g' h F σ i=>by
  rw [exec_While]
  exact .stand λA Q E rm q=>eY (vA (F0:=F) (g0:=g) (σ0:=σ) rm.mark (λf σ' r=>q f σ' r) h ⟨au.toS (au.same (nv:=true) i.gd rfl rfl),λ_1=>.inl,rfl,i⟩)
end
end
end
section
open PySem PySem.W PyProof.Rows PySem.Calls
section
section
variable {prog:Program}{w:World}{A:Around}{E:Value->Shared->Prop}{s:Shared}
theorem vE{base:Expr}{o r:Value}{Q:Unit->Shared->Prop}(q:Q () s):wpAny (model prog w) A (letTemporaryGo base o r) Q E s:=by
 exact wpAny_letTemporaryGo q
end
section
variable {w w':W}{σ σ':St}{g g' g1 g2:G}{nv:Bool}{n:Nat}{π:Str->Addr}{v a b:AV}{ls:Loc}{I:Ev}{pos:Pos}{F:Fr'}
theorem mI{value slice:Expr}{o i:Value}{T id:String}{R:Value->St->Prop}(hT:σ.s.TypeIs o T)(hl:typeLookup (.type T) "__getitem__"=pure (some (.builtin id)))(ho:o≠.builtin "sys.modules#opaque")
 (h:Wp n σ (getItem o i) (PR nv g σ g' R)):Wp n σ (do
  let r <- subscripted slice (<- getitemInPython o) o i
  letTemporaryGo value o r
  pure r) (PR nv g σ g' R):=λA Q E rm q=>by
 rw [getitemInPython_of_ne ho]
 refine ad (.of (wpAny_bind (wpAny_specialOf hT hl (wpAny_pure ?_))))
 have e:∃ ops,subscripted slice false o i=operate ops (getItem o i):=by
  cases slice with
  | Slice a b c=>cases c <;> exact⟨_,rfl⟩
  | _=>exact⟨_,rfl⟩
 refine e.elim λops e=>?_
 rw [e]
 exact ad (dP (h A _ E rm λr σ' p=>ad (.of (vE (ae (q r σ' p))))))
theorem Inv.ownL(i:Inv F ls w σ){x:Str}{lv:LV}(h:ls.get x=some lv):∃ u,LR σ w F.π x lv u:=by
 rcases(i.fs.dom x _ h).2 with d | d
 . exact i.fd.loc.elim λm z=>(z.2 x _ h d).imp λu z=>z.2
 . exact(i.fs.celL x d (i.fs.dom x _ h).1).elim λc e=>(i.fd.cel x c _ e (λz=>by rcases d with d | d <;> exact nomatch z.symm.trans d) h).imp λu z=>z.2
theorem Inv.own(i:Inv F ls w σ){x:Str}{xs:List Int}(h:j9 (ls.get x)=some xs):∃ o,σ.h.get? (F.π x)=some o/\bS o xs:=(i.ownL (n7 h)).elim λu z=>z.2
noncomputable def kG(ls:Loc)(g:G)(o:AV)(xs:List Int):Prop:=∀ F σ u,Inv F ls g.w σ->RV σ g.w F.π o u->∃ l vs,u=.ref l/\σ.h.IsList l (List.toArray vs)/\IntsAre vs xs
theorem jK{o:AV}:Al (n9 ls o) g λxs g'=>g'=g/\kG ls g o xs :=
 .vw (λxs e=>.ok ⟨rfl,λF σ u i r=>by
  refine x24 (rIs r e) λa vs e46_2 _1 la ia=>?_
  subst e46_2
  exact⟨a,vs,rfl,la,ia⟩⟩)
 λ_1=>.vw (λx e=>.opt λxs h=>⟨rfl,λF σ u i r=>by
  rw [hZ e] at r
  obtain rfl:=r
  refine x12 (i.own h) λo h1 h2=>?_
  exact(h2.at h1).elim λvs z=>⟨_,vs,rfl,z⟩⟩)
 λ_1=>.bdo λq e=>(Al.comp (Q:=λxs g'=>g'=g/\kG ls g o xs) (f:=Internal.ok) λxs hx=>.ok ⟨rfl,λF σ u i r=>by
  refine x02 (rC r e) λl e54_1=>?_
  subst e54_1
  exact(hx.l σ l i.gd).elim λvs z=>⟨_,vs,rfl,z⟩⟩:Al (Internal.bd (be q.1 q.2) Internal.ok) g _) |> λh=>by
   have:Internal.bd (be q.1 q.2) Internal.ok=be q.1 q.2:=by
    rfl
   exact this▸h
theorem gJ{α:Type}{xs:List α}{c:Fr'->Value->Sem Value}(h:xs.length<=16777216->∀ (A:Around) (Q:Value->Shared->Prop) E F σ u,Inv F ls g.w σ->RV σ g.w F.π a u->(∀ t t',Q (.int xs.length t) (σ.tok t').s)->wpAny M0 A (c F u) Q E σ.s):Al (og xs) g λv g'=>RnV n ls g a c (Vv v) g' :=
 .dem λob=>(.ok λF σ u i r=>aY i.gd rfl rfl λA Q E _1 q=>h ob A Q E F σ u i r λt t'=>q t' _ ⟨t,rfl⟩)
theorem lt63{m:Nat}(h:m<=16777216):(m:Int) < 2 ^ 63:=Int.lt_of_le_of_lt (Int.ofNat_le.mpr h) (by decide)
theorem qL{xs:List Int}(hx:kG ls g a xs):Al (og xs) g λv g'=>RnV n ls g a (λ_1 u=>call (.builtin "len") [u]) (Vv v) g':=gJ λhl A Q E F σ u i r q=>by
 refine x23 (hx F σ u i r) λl vs e64_2 la ia=>?_
 subst e64_2
 have e:vs.toArray.size=xs.length:=ia.length
 exact Calls.call_len_list la (by rw [e]; exact lt63 hl) (by rw [e]; exact q _ _)
theorem vF:Al (y5 ls a) g λv g'=>RnV n ls g a (λ_1 u=>call (.builtin "len") [u]) (Vv v) g' :=
 .vw (λx e=>gJ λhl A Q E F σ u i r q=>by
  refine(rBy r e).elim λt e69_1=>?_
  subst e69_1
  exact len_bytes (Nat.le_trans hl (by decide)) (q _ _))
 λ_1=>.vw (λx e=>gJ λhl A Q E F σ u i r q=>by
  rw [vL_e e] at r
  refine x24 r λl vs e73_2 _1 la rd=>?_
  clear r
  subst e73_2
  have e:vs.toArray.size=x.length:=RDs.length rd
  exact Calls.call_len_list la (by rw [e]; exact lt63 hl) (by rw [e]; exact q _ _))
 λ_1=>.vw (λq e=>.ei (λhc=>.getB λb hb=>gJ λhl A Q E F σ u i r k=>by
  refine x02 (rC r e) λl e77_1=>?_
  subst e77_1
  obtain⟨r,c⟩:=q
  obtain rfl:=iw hc
  refine x12 (i.gd.cb l rfl hb) λo h1 e80_2=>?_
  subst e80_2
  exact Ac h1 (Nat.le_trans hl (by decide)) (k _ _))
  λ_1=>.comp λxs hx=>qL λF σ u i r=>by
   refine x02 (rC r e) λl e83_1=>?_
   subst e83_1
   exact(hx.l σ l i.gd).elim λvs z=>⟨_,vs,rfl,z⟩)
 λ_1=>jK.bd λxs g1 h=>by rw [h.1]; exact qL h.2
noncomputable def iH(n:Nat)(ls:Loc)(g:G)(a b:AV)(v:AV)(g':G):Prop:=∀ F σ uo ui,Inv F ls g.w σ->RV σ g.w F.π a uo->RV σ g.w F.π b ui->∃ Tn id,typeLookup (.type Tn) "__getitem__"=pure (some (.builtin id))/\σ.s.TypeIs uo Tn/\uo≠.builtin "sys.modules#opaque"/\Wp n σ (getItem uo ui) (ER (ao ls.v) g σ v g' F.π)
theorem Item.list{l:Addr}{its:Array Value}{ui:Value}{Φ:Value->St->Prop}(hl:σ.h.IsList l its)(h:Wp n σ (getItem (.ref l) ui) Φ):∃ Tn id,typeLookup (.type Tn) "__getitem__"=pure (some (.builtin id))/\σ.s.TypeIs (.ref l) Tn/\Value.ref l≠.builtin "sys.modules#opaque"/\Wp n σ (getItem (.ref l) ui) Φ :=
 ⟨"list",_,list_getitem_lookup,hl.typeIs,nofun,h⟩
theorem Item.dict{d:Addr}{kvs:List (Str×Value)}{x:Str}{t:Tok}{u:Value}(gd:aj g.w σ)(ew:g'.w=g.w)(er:g'.wr=g.wr)(hd:σ.h.DictOf gz d kvs)(hu:valueAt kvs x=some u)(hr:RV σ g'.w π v u) :
 ∃ Tn id,typeLookup (.type Tn) "__getitem__"=pure (some (.builtin id))/\σ.s.TypeIs (.ref d) Tn/\Value.ref d≠.builtin "sys.modules#opaque"/\Wp n σ (getItem (.ref d) (.str x t)) (ER nv g σ v g' π) :=
 ⟨"dict",_,slot_dict_getitem.lookup,hd.typeIs,nofun,aY gd ew er λA Q E _1 q=>wpAny_getItem_of (strKind_is _ _ _ _) hd.mapOf hu (q _ u hr)⟩
theorem xQ{l:Addr}{vs:List Value}{xs:List Int}{i:Int}{t:Tok}{j:Nat}{A:Around}{Q:Value->Shared->Prop}{E:Value->Shared->Prop}(il:σ.h.IsList l vs.toArray)(ia:IntsAre vs xs)(hj:j < xs.length)(hz:xs.length<=16777216)(he:i=j)(q:∀ t,Q (.int (xs.getD j 0) t) σ.s):wpAny M0 A (getItem (.ref l) (.int i t)) Q E σ.s:=by
 have hl:j < vs.length:=by rw [ia.length]; exact hj
 refine(IntsAre.at ia j hl).elim λu hu=>?_
 rw [he]
 exact wpAny_getItem_list (x:=vs[j]) il (Int.natCast_nonneg j) (Int.lt_of_le_of_lt (Int.ofNat_le.mpr (Nat.le_trans (Nat.le_of_lt hj) hz)) (by decide)) (by simp [hl]) (hu▸q u)
theorem vG{k:Int}{m:Nat}(h:0<=k+m)(z:m<=16777216):-(m:Int)<=k/\-(2 ^ 63:Int)<=k:=by lia
theorem mJ{o i:AV}{xs:List Int}{k:Int}(hi:vI i=some k)(hx:kG ls g o xs):Al (lV xs k) g (iH n ls g o i):=.br <| by
 cases o3:decide (k < 0) with
 | true =>
  refine .dem λob=>(.ok λF σ uo ui iv ro ri=>?_)
  refine x23 (hx F σ uo iv ro) λl vs e104_2 la ia=>?_
  subst e104_2
  refine(rI ri hi).elim λt e105_1=>?_
  subst e105_1
  refine x02 ob λo1 o2=>?_
  have h0:k < 0:=of_decide_eq_true o3
  refine(Int.eq_ofNat_of_zero_le o1).elim λj hj=>?_
  have hjl:j < vs.length:=by rw [ia.length]; exact Int.ofNat_lt.mp (hj▸(by have:=Int.add_lt_add_right h0 xs.length; rwa [Int.zero_add] at this))
  refine(IntsAre.at ia j hjl).elim λu hu=>?_
  refine Item.list la (aY iv.gd rfl rfl λA Q E _1 q=>wpAny_getItem_list_neg (x:=vs[j]) la h0 ?_ ?_ ?_ (q σ.s.toks _ ⟨u,?_⟩))
  . rw [show vs.toArray.size=xs.length from ia.length]; exact(vG o1 o2).1
  . exact(vG o1 o2).2
  . rw [show vs.toArray.size=xs.length from ia.length,hj]; simp [hjl]
  . rw [hu]; unfold bc; rw [hj]; rfl
 | false =>
  refine .dem λob=>(.ok λF σ uo ui iv ro ri=>?_)
  refine x23 (hx F σ uo iv ro) λl vs e118_2 la ia=>?_
  subst e118_2
  refine(rI ri hi).elim λt e119_1=>?_
  subst e119_1
  refine x02 ob λo1 o2=>?_
  have h0:¬ k < 0:=of_decide_eq_false o3
  refine(Int.eq_ofNat_of_zero_le (Int.not_lt.mp h0)).elim λj hj=>?_
  rw [hj] at o1
  exact Item.list la (aY iv.gd rfl rfl λA Q E _1 q=>xQ la ia (Int.ofNat_lt.mp o1) o2 hj λt=>q σ.s.toks _ ⟨t,by unfold bc; rw [hj]; rfl⟩)
theorem xR{α:Type}{i:Int}{k:α->Prop}{vs:List α}:∀{j:Nat},pN i k j vs->∃ (m:Nat) (v:α),i=((j+m:Nat):Int)/\vs[m]?=some v/\k v:=by
 induction vs with
 | nil=>exact λ{j} h=>False.elim h
 | cons v r ih =>
  intro j h
  have h:cnd (decide (i=j)) (k v) (pN i k (j+1) r):=h
  cases e:decide (i=j) with
  | true=>rw [e] at h; exact⟨0,v,of_decide_eq_true e,rfl,h⟩
  | false =>
   rw [e] at h
   refine x22 (ih h) λm u h1 h2=>?_
   exact⟨m+1,u,by rw [h1,Nat.add_assoc,Nat.add_comm 1],h2⟩
theorem qM{vs:List AV}{i:Int}{R:AV->G->Prop}(h:∀ (m:Nat) v,i=(m:Int)->m<=1000->vs[m]?=some v->R v g):Al (wh (Nat.ble vs.length 1000) (pick vs i)) g R:=.wh λhl k e =>
 (xR e).elim λm e=>e.elim λv e=>⟨v,g,h m v (by rw [e.1,Nat.zero_add]) (Nat.le_trans (Nat.le_of_lt (List.getElem?_eq_some_iff.mp e.2.1).1) (Nat.le_of_ble_eq_true hl)) e.2.1,e.2.2⟩
theorem xT{x:Bx}{u:Value}{t:Tok}(hu:RD σ (.ints x.items) u):∀{k:Int},y0 x k=some v->∃ (j:Nat) (y:Value),k=(j:Int)/\j < 1000/\#[u,.int x.pos t][j]?=some y/\RV σ w π v y
 | .ofNat 0,e=>by cases e; exact⟨0,u,rfl,by decide,rfl,hu⟩
 | .ofNat 1,e=>by cases e; exact⟨1,_,rfl,by decide,rfl,t,rfl⟩
theorem oY{j:Nat}(h:j<=1000):(j:Int) < 2 ^ 63:=Int.lt_of_le_of_lt (Int.ofNat_le.mpr h) (by decide)
theorem li{s:Str}{n:String}{j i:Nat}{l:List (String×Nat)}(P:Str->Nat->Prop)(h:dI s ((n,j)::l)=some i)(h1:P (Str.ofString n) j)(h2:dI s l=some i->P s i):P s i:=by
 have h:cond (sl s n) (some j) (dI s l)=some i:=tP.symm.trans h
 cases e:sl s n with
 | true=>rw [e] at h; rw [bm.mp e,<- Option.some.inj h]; exact h1
 | false=>rw [e] at h; exact h2 h
noncomputable def MaP(σ:St)(w:W)(π:Str->Addr)(m:Mn)(t:Tok)(v:AV)(s:Str)(i:Nat):Prop:=n8 m i=some v->∃ u,valueAt (bp σ.α m t) s=some u/\RV σ w π v u
theorem cO{m:Mn}{t:Tok}{s:Str}{i:Nat}{a:AV}{u:Value}(h1:n8 m i=some a)(h2:valueAt (bp σ.α m t) s=some u)(h3:RV σ w π a u):MaP σ w π m t v s i:=λe=>⟨u,h2,Option.some.inj (h1.symm.trans e)▸h3⟩
theorem vH{m:Mn}{t:Tok}{s:Str}{i:Nat}(hm:w.mn=some m)(h:dI s y3=some i):MaP σ w π m t v s i:=by
 have lv:∀ c,aI c=false->live w (.comp 0 c):=λc hc=>by
  show bH w 0 c (aI c)
  rw [hc]; exact⟨rfl,by rw [hm]; rfl⟩
 exact li (MaP σ w π m t v) h (cO rfl (by kernel_rfl) ⟨lv _ rfl,rfl⟩) λh=>li (MaP σ w π m t v) h (cO (u:=.int m.align t) rfl (by kernel_rfl) ⟨t,rfl⟩) λh=>li (MaP σ w π m t v) h (cO rfl (by kernel_rfl) ⟨lv _ rfl,rfl⟩) λh =>
  li (MaP σ w π m t v) h (cO rfl (by kernel_rfl) ⟨lv _ rfl,rfl⟩) λh=>li (MaP σ w π m t v) h (cO rfl (by kernel_rfl) ⟨lv _ rfl,rfl⟩) λh=>li (MaP σ w π m t v) h (cO rfl (by kernel_rfl) ⟨lv _ rfl,rfl⟩) λh =>
  li (MaP σ w π m t v) h (cO (u:=.bool m.forced) rfl (by kernel_rfl) rfl) λh=>xNS h
theorem vJ{o i:AV}{s:Str}(hi:vS i=some s):Al (y4 o s) g (iH n ls g o i):=.ei (λho=>.getM λm hm=>.bdo λj hj=>.opt λv hv F σ uo ui iv ro ri=>by
 rw [ii ho] at ro
 refine x02 ro λl e155_1=>?_
 clear ro
 subst e155_1
 refine(rS ri hi).elim λt e156_1=>?_
 subst e156_1
 refine tF (iv.gd.at_ _ l) λo o1 m' t' o2 o3=>?_
 rw [Option.some.inj (o2.symm.trans hm)] at o3
 refine x12 (vH (σ:=σ) (t:=t') (π:=F.π) hm hj hv:∃ u,_/\_) λu h1 h2=>?_
 exact Item.dict iv.gd rfl rfl (Heap.dictOf_iff.mpr ⟨o,o1,o3⟩) h1 h2)
 λ_1=>.bdo λq e=>.dic λl hl=>.dem λob=>(.ok λF σ uo ui iv ro ri=>by
  refine x02 (rC ro e) λlv e162_1=>?_
  subst e162_1
  refine(rS ri hi).elim λt e163_1=>?_
  subst e163_1
  refine x12 (hl σ lv iv.gd) λkvs hd hv=>?_
  rcases ar.getS (x:=s) hv with ⟨e1,e2⟩ | ⟨i,t',e1,e2⟩
  . have:=ob; rw [e1] at this; cases this
  . exact Item.dict iv.gd rfl rfl hd e2 ⟨t',by rw [e1]; rfl⟩)
theorem xU{o i:AV}:Al (item ls o i) g (iH n ls g o i):=.vw (λs e=>vJ e) λ_1=>.bdo λk hk=>.vw (λr e=>.getX λx hx=>.opt λv hv F σ uo ui iv ro ri=>by
 rw [vX_e e] at ro
 refine x02 ro λl e170_1=>?_
 clear ro
 subst e170_1
 refine(rI ri hk).elim λt e171_1=>?_
 subst e171_1
 refine lx (iv.gd.at_ _ l) λo o1 x' o2 u t' hu o3=>?_
 rw [Option.some.inj (o2.symm.trans hx)] at hu o3
 refine x24 (xT (t:=t') (w:=g.w) (π:=F.π) hu hv) λj y e174_2 h1 h2 h3=>?_
 subst e174_2
 exact Item.list (o3.at o1) (aY iv.gd rfl rfl λA Q E _1 q=>wpAny_getItem_list (o3.at o1) (Int.natCast_nonneg j) (oY (Nat.le_of_lt h1)) h2 (q σ.s.toks y h3)))
 λ_1=>.vw (λvs ev=>qM λm v em hm e F σ uo ui iv ro ri=>by
  rw [vL_e ev] at ro
  refine x24 ro λl us e178_2 _1 la rd=>?_
  clear ro
  subst e178_2
  refine(rI ri hk).elim λt e179_1=>?_
  subst e179_1
  refine x12 (RDs.at rd e) λu hu ru=>?_
  rw [em]
  exact Item.list la (aY iv.gd rfl rfl λA Q E _1 q=>wpAny_getItem_list (x:=u) la (Int.natCast_nonneg m) (oY hm) (by simpa using hu) (q σ.s.toks u ((RV.of (RD.data ru)).mpr ru))))
 λ_1=>.vw (λvs ev=>qM λm v em hm e F σ uo ui iv ro ri=>by
  rw [tS ev] at ro
  refine x24 ro λl us e185_2 _1 la rd=>?_
  clear ro
  subst e185_2
  refine(rI ri hk).elim λt e186_1=>?_
  subst e186_1
  refine x12 (RDs.at rd e) λu hu ru=>?_
  rw [em]
  refine⟨"tuple",_,PySem.F.slot_tuple_getitem.lookup,la.typeIs,nofun,aY iv.gd rfl rfl λA Q E _1 q=>PyProof.Rows.getItem_tuple (j:=m) (x:=u) la (Int.le_trans (by decide) (Int.natCast_nonneg m)) (oY hm) ?_ (by simpa using hu) (q σ.s.toks u ((RV.of (RD.data ru)).mpr ru))⟩
  unfold seqIndex?
  rw [if_neg (Int.not_lt.mpr (Int.natCast_nonneg m))]
  simp [(List.getElem?_eq_some_iff.mp hu).1])
 λ_1=>jK.bd λxs g1 h=>by rw [h.1]; exact mJ hk h.2
theorem kH(hI:Snd n I){o i:Expr}:Al (Internal.two2 I ls o i (item ls)) g (EOk n (.Subscript o i pos) ls g):=by
 refine Al.as (Al.two2 hI (R:=Vv) (c:=λF uo ui=>do
  standAt pos
  let r <- subscripted i (<- getitemInPython uo) uo ui
  letTemporaryGo o uo r
  pure r) λa b g=>(xU (n:=n)).imp λv g' h F σ x y iv rx ry=>?_) λF=>arm_eval_Subscript ..
 refine x24 (h F σ x y iv rx ry) λTn id hl hT hne hr=>?_
 exact .stand (mI hT hl hne hr)
end
end
end
section
open PySem PySem.W PyProof.Rows PySem.Calls
section
theorem eV{x:Array UInt8}{u:Tok}{T:String}(hne:(Value.type "bytes"==Value.type T)=false)(hty:typeOf (.type T)=pure (.type "type"))(hsub:isSubtype (.type "bytes") (.type T)=pure false) :
 Answers (λs=>s.TypeIs (.bytes x u) "bytes") (.bytes x u) (.type T) false :=
 λ_1 _2 _3 _4 _5 _6 s hs=>by
  obtain⟨h,g,d,t,os⟩:=s
  exact isinstance_nested_false_bytes hne hty hsub (hs.2 (t+1))
theorem zw{m:String}(h:tn3 m=true):m="str"\/m="bytes"\/m="bytearray":=by
 unfold tn3 at h
 simpa [or_assoc] using h
theorem xV{x:Str}{u:Tok}{m:String}(h:tn3 m=true):Answers (λs=>s.TypeIs (.str x u) "str") (.str x u) (.type m) (m=="str"):=by
 rcases zw h with rfl | rfl | rfl
 . exact Answers.of_true PySem.F.isi_meta_str PySem.F.sub_str_str
 . exact Answers.of_false_str (by decide) PySem.F.isi_meta_bytes PySem.F.sub_str_bytes
 . exact Answers.of_false_str (by decide) PySem.F.isi_meta_bytearray PySem.F.sub_str_bytearray
theorem so{x:Array UInt8}{u:Tok}{m:String}(h:tn3 m=true):Answers (λs=>s.TypeIs (.bytes x u) "bytes") (.bytes x u) (.type m) (m=="bytes"):=by
 rcases zw h with rfl | rfl | rfl
 . exact eV (by decide) PySem.F.isi_meta_str (by rw [isSubtype_type]; kernel_rfl)
 . exact Answers.of_true PySem.F.isi_meta_bytes (by rw [isSubtype_type]; kernel_rfl)
 . exact eV (by decide) PySem.F.isi_meta_bytearray (by rw [isSubtype_type]; kernel_rfl)
theorem oZ{u:Value}{P:Shared->Prop}{k:String}(h:∀ m,tn3 m=true->Answers P u (.type m) (m==k)):∀{ns:List String},ns.all tn3=true->AnswersAll P u (ns.map Value.type) (ns.map (·==k))
 | [],_1=>trivial
 | m::r,e=>⟨h m (aw e).1,oZ h (aw e).2⟩
section
variable {w w':W}{σ σ':St}{g g' g1 g2:G}{nv:Bool}{n:Nat}{π:Str->Addr}{v a b:AV}{ls:Loc}{I:Ev}{pos:Pos}{F:Fr'}
noncomputable def CR(n:Nat)(ls:Loc)(g:G)(f:Value)(vs:List AV)(v:AV)(g':G):Prop:=∀ F σ us,Inv F ls g.w σ->RVL σ g.w F.π vs us->Wp n σ (call f us) (ER (ao ls.v) g σ v g' F.π)
theorem cr1{f:Value}{vs:List AV}(e:one vs=some a)(h:RnV n ls g a (λ_1 u=>call f [u]) (Vv v) g'):CR n ls g f vs v g':=λF σ us i r=>by
 rw [one_e e] at r
 refine x23 r λu q e38_2 ru e38_4=>?_
 clear r
 subst e38_2
 subst e38_4
 exact h F σ u i ru
theorem cr2{f:Value}{vs:List AV}{p:AV×AV}(e:two vs=some p)(h:RnV2 n ls g p.1 p.2 (λ_1 x y=>call f [x,y]) (Vv v) g'):CR n ls g f vs v g':=λF σ us i r=>by
 rw [jC e] at r
 refine jo r λx _1 e45_2 rx y _2 e45_6 ry e45_8=>?_
 clear r
 subst e45_2
 subst e45_6
 subst e45_8
 exact h F σ x y i rx ry
theorem extV{c:Sem Value}(gd:aj g.w σ)(ew:g'.w=g.w)(er:g'.wr=g.wr)(h:∀ (A:Around) (Q:Value->Shared->Prop) (E:Value->Shared->Prop),bz n A->(∀ u h' tk,(∀ b o,σ.h.get? b=some o->h'.get? b=some o)->RV (σ.to h' tk) g'.w π v u->Q u (σ.to h' tk).s)->wpAny M0 A c Q E σ.s):Wp n σ c (ER nv g σ v g' π) :=
 .any λA Q E r q=>h A Q E r λu h' tk keep hr=>q u (σ.to h' tk) ⟨.stay gd ew er keep,hr⟩
theorem extN{c:Sem Value}{a:Addr}(gd:aj g.w σ)(ew:g'.w=g.w)(er:g'.wr=g.wr)(h:∀ (A:Around) (Q:Value->Shared->Prop) (E:Value->Shared->Prop),bz n A->(∀ a h' tk,σ.h.get? a=none->(∃ o,h'.get? a=some o)->(∀ b o,σ.h.get? b=some o->h'.get? b=some o)->RV ⟨λb=>σ.S b\/b=a,σ.α,{ σ.s with heap:=h',toks:=tk }⟩ g'.w π v (.ref a)->Q (.ref a) { σ.s with heap:=h',toks:=tk })->wpAny M0 A c Q E σ.s):Wp n σ c (ER nv g σ v g' π) :=
 .any λA Q E r q=>h A Q E r λa h' tk hn hx keep hr=>q _ ⟨λb=>σ.S b\/b=a,σ.α,{ σ.s with heap:=h',toks:=tk }⟩ ⟨.ext gd ew er keep (λ_1=>.inl) (λb z=>z.imp id λ(e:b=a)=>by rw [e]; exact⟨hn,hx⟩) rfl rfl,hr⟩
theorem vK{u:Value}{T:String}{ns:List String}{k:String}{t:Nat}{A:Around}{Q:Value->Shared->Prop}{E:Value->Shared->Prop}(gd:aj w σ)(ht:bA t rL=some ns)(hP:σ.s.TypeIs u T)(h:AnswersAll (λs=>s.TypeIs u T) u (ns.map Value.type) (ns.map (·==k)))(q:∀ tk,Q (.bool (ns.any (·==k))) (σ.tok tk).s):wpAny M0 A (call (.builtin "isinstance") [u,.ref t]) Q E σ.s :=
 call_isinstance (isinstance_tuple h) ⟨hP,gd.base _ _ (tys ht).2,λtk=>by rw [List.any_map]; exact q tk⟩
theorem AE{a:AV}{m:String}(h:tyOf a=some m):(∃ x,a=.str x/\m="str")\/∃ x,a=.bytes x/\m="bytes":=by
 unfold tyOf at h
 cases e:vS a with
 | some x=>rw [e] at h; exact .inl ⟨x,vS_e e,(Option.some.inj h).symm⟩
 | none=>rw [e] at h; exact(Option.map_eq_some_iff.mp h).elim λx z=>.inr ⟨x,lS z.1,z.2.symm⟩
theorem xW{t:Nat}{ns:List String}{m:String}{u:Value}(ht:bA t rL=some ns)(hn:ns.all tn3=true)(gd:aj g.w σ){a:AV}(e:tyOf a=some m)(r:RV σ g.w π a u):Wp n σ (call (.builtin "isinstance") [u,.ref t]) (ER nv g σ (.bool (ns.any λx=>x==m)) g π):=by
 rcases AE e with ⟨x,z,y⟩ | ⟨x,z,y⟩ <;> rw [z] at r <;> rw [y] <;> refine r.elim λtt r=>?_ <;> rw [r]
 . exact aY gd rfl rfl λA Q E _1 q=>vK (T:="str") gd ht rfl (oZ (λm=>xV) hn) λtk=>q tk _ rfl
 . exact aY gd rfl rfl λA Q E _1 q=>vK (T:="bytes") gd ht rfl (oZ (λm=>so) hn) λtk=>q tk _ rfl
theorem min_e(a b:Int):min a b=if b < a then b else a:=by lia
theorem IntVal{x:Int}{t:Tok}{u:Value}(h:u=.int x t):RV σ w π (.int x) u:=⟨t,h⟩
theorem su{m:String}{vs:List AV}:Al (t9 ls m vs) g (CR n ls g (.builtin m) vs):=.ei (λe=>.bdo λa e1=>vF.imp λv g' h=>by rw [beq_iff_eq.mp e]; exact cr1 e1 h) λ_1=>.bdo λp e2=>.ei (λe=>(fK (c:=λx y=>call (.builtin "min") [x,y]) λx y=>.ok λnv σ π t u gd=>by
 refine .any λA Q E r q=>min_two_ints r.2.2.1 λh' tk hk=>q _ (σ.to h' tk) ⟨.stay gd rfl rfl hk,?_⟩
 rw [min_e]
 by_cases c:y < x
 . rw [if_pos c,if_pos c]; exact⟨u,rfl⟩
 . rw [if_neg c,if_neg c]; exact⟨t,rfl⟩).imp λv g' h=>by rw [beq_iff_eq.mp e]; exact cr2 e2 h.to)
 λ_1=>.ei (λe=>.vw (λt et=>.bdo λns ht=>.bdo λk hk=>.wh λhn=>.ok (by
  rw [beq_iff_eq.mp e]
  refine cr2 e2 λF σ x y i rx ry=>?_
  rw [ds et] at ry
  obtain rfl:=ry
  exact xW ht hn i.gd hk rx))
  λ_1=>.bdo λk hk=>.wh λhkb=>.bdo λx hx=>.ok (by
   rw [beq_iff_eq.mp e]
   refine cr2 e2 λF σ x y i rx ry=>?_
   rw [lT hk,beq_iff_eq.mp hkb] at ry
   obtain rfl:=ry
   rw [yS hx] at rx
   refine x13 rx λa e80_1 sa h=>?_
   clear rx
   subst e80_1
   exact aY i.gd rfl rfl λA Q E _1 q=>call_isinstance (isinstance_true (Tx:="bytearray") (by kernel_rfl) BA.sub_ba) ⟨⟨_,h,rfl⟩,q σ.s.toks _ rfl⟩))
 λ_1=>.wh λe=>.bdo λf hf=>.bdo λx hx=>.dem λob=>(.ok (by
  rw [beq_iff_eq.mp e]
  refine cr2 e2 λF σ u y i ru ry=>?_
  refine(rS ru hf).elim λt1 e85_1=>?_
  subst e85_1
  refine(rBy ry hx).elim λt2 e86_1=>?_
  subst e86_1
  refine x02 ob λhl hf=>?_
  rw [bm.mp hf]
  refine .any λA Q E rm q=>rG (by simpa using hl) λa1 a2 a3 a4 tk=>q _ (σ.new _ tk) ⟨.new i.gd rfl rfl rfl,_,_,rfl,.inr rfl,gG,?_⟩
  refine⟨_,_,rfl,⟨a1,?_⟩,_,_,rfl,⟨a2,?_⟩,_,_,rfl,⟨a3,?_⟩,_,_,rfl,⟨a4,?_⟩,rfl⟩ <;> simp))
theorem AF{i:Int}{t u z:Tok}{r:Addr}(h0:-1000000<=i)(h1:i<=1000000):Builtin.Range.rangeSize 0 i 1=(i.toNat:Int)/\Builtin.Range.small 0 i 1=true :=
 ⟨by rw [rangeSize_one]; split <;> lia,small_one (by decide) (by decide) (Int.le_trans (by decide) h0) (Int.lt_of_le_of_lt h1 (by decide))⟩
theorem AG{a:Int}(h0:-1<=a)(h1:a<=1000000):Builtin.Range.rangeSize a (-1) (-1)=((a+1).toNat:Int)/\Builtin.Range.small a (-1) (-1)=true:=by
 have sz:Builtin.Range.rangeSize a (-1) (-1)=((a+1).toNat:Int):=by
  unfold Builtin.Range.rangeSize
  simp only [show ¬ ((-1:Int) > 0) by decide,if_false]
  split <;> simp <;> lia
 refine⟨sz,?_⟩
 unfold Builtin.Range.small
 rw [sz]
 simp only [Builtin.Range.rangeFitsLong,Bool.and_eq_true,Bool.or_eq_true,decide_eq_true_eq,beq_iff_eq,show ¬ ((-1:Int) > 0) by decide,if_false]
 refine⟨⟨⟨⟨?_,?_⟩,?_⟩,?_⟩,?_⟩ <;> first | lia | decide | (right; decide) | (constructor <;> lia) | skip
theorem zx{m:String}(hv:m=m){x:Int}(ha:vI a=some x){v:AV}(h:∀ nv σ π t,aj g.w σ->Wp n σ (call (.type m) [.int x t]) (ER nv g σ v g' π)):RnV n ls g a (λ_1 u=>call (.type m) [u]) (Vv v) g':=λF σ u i r=>by
 refine(rI r ha).elim λt e104_1=>?_
 subst e104_1
 exact h _ σ F.π t i.gd
theorem eqT{m k:String}(h:(m==k)=true){R:String->Prop}(x:R k):R m:=beq_iff_eq.mp h▸x
theorem o5{m:String}:Al (pW ls m a) g λv g'=>RnV n ls g a (λ_1 u=>call (.type m) [u]) (Vv v) g' :=
 .ei (λe=>.bdo λx hx=>.ok (eqT e (R:=λm=>RnV n ls g a (λ_1 u=>call (.type m) [u]) (Vv _) _) (zx rfl hx λnv σ π t gd=>aY gd rfl rfl λA Q E _1 q=>PySem.call_int_int (q σ.s.toks _ ⟨t,rfl⟩))))
 λ_1=>.ei (λe=>.bdo λx hx=>.demD λob=>(.ok (eqT e (R:=λm=>RnV n ls g a (λ_1 u=>call (.type m) [u]) (Vv _) _) (zx rfl hx λnv σ π t gd =>
  mo (o:={ cls:=.type "range",data:=.fields #[.int 0 σ.s.toks,.int x t,.int 1 (σ.s.toks+1)] }) gd rfl rfl rfl (λA Q E _1 q=>PySem.call_range_1 (q _)) λt'=>⟨_,x,σ.s.toks,t,σ.s.toks+1,rfl,.inr rfl,IsRange.new ..,AF (t:=t) (u:=t) (z:=t) (r:=0) ob.1 ob.2⟩))))
 λ_1=>.ei (λe=>.bdo λy hy=>.bdo λxs hx=>.dem λob=>(.ok (eqT e (R:=λm=>RnV n ls g a (λ_1 u=>call (.type m) [u]) (Vv _) _) λF σ u i r=>by
  rw [hZ hy] at r
  obtain rfl:=r
  refine x12 (i.own hx) λo h1 h2=>?_
  refine x12 (h2.at h1) λvs la ia=>?_
  refine extN (a:=0) i.gd rfl rfl λA Q E rm q=>call_tuple_list la (λh' hk=>?_) (by rw [sizeLine_eq,show vs.toArray.size=xs.length from ia.length]; exact ob)
  have hn:σ.h.get? h'.objs.size=none:=by
   cases e:σ.h.get? h'.objs.size with
   | none=>rfl
   | some o=>exact nomatch (get?_size (h:=h')).symm.trans (hk _ _ e)
  exact q h'.objs.size (h'.push (lC vs)) σ.s.toks hn ⟨_,Heap.get?_push_size _ rfl⟩ (λb o h=>Heap.get?_push_of_some _ (hk b o h)) ⟨_,vs,rfl,.inr rfl,gG,ia⟩)))
 λ_1=>.ei (λe=>.bdo λxs hx=>.dem λob=>(.ok (eqT e (R:=λm=>RnV n ls g a (λ_1 u=>call (.type m) [u]) (Vv _) _) λF σ u i r=>by
  refine x24 (rIs r hx) λl vs e123_2 sa la ia=>?_
  subst e123_2
  exact extV i.gd rfl rfl λA Q E rm q=>call_bytes_ints la ia ob.1 (by rw [sizeLine_eq,ia.length]; exact ob.2) rm.2.2.1 λh' t kk hk=>q _ h' kk hk ⟨t,by congr 1⟩)))
 λ_1=>.wh λe=>.vw (λxs hx=>.dem λob=>(.ok (eqT e (R:=λm=>RnV n ls g a (λ_1 u=>call (.type m) [u]) (Vv _) _) λF σ u i r=>by
  refine(rBy r hx).elim λt e126_1=>?_
  subst e126_1
  exact extN (a:=0) i.gd rfl rfl λA Q E rm q=>nZ rm.2.2.1 (by simpa using ob) λh' tk vs keep il ia=>q _ h' tk get?_size (il.imp λo z=>z.1) keep ⟨_,vs,rfl,.inr rfl,il,ia⟩)))
  λ_1=>.bdo λxs hx=>.dem λob=>(.ok (eqT e (R:=λm=>RnV n ls g a (λ_1 u=>call (.type m) [u]) (Vv _) _) λF σ u i r=>by
   rw [yS hx] at r
   refine x13 r λl e130_1 sa ha=>?_
   clear r
   subst e130_1
   exact extN (a:=0) i.gd rfl rfl λA Q E rm q=>xh rm.2.2.1 ha ob λh' tk vs keep il ia=>q _ h' tk get?_size (il.imp λo z=>z.1) keep ⟨_,vs,rfl,.inr rfl,il,ia⟩))
theorem sw{m:String}{vs:List AV}{p:AV×AV×AV}(e:pV vs=some p)(he:m="range"):Al (Internal.bd (opt (vI p.1)) λa=>Internal.bd (opt (vI p.2.1)) λb=>Internal.bd (opt (vI p.2.2)) λc=>Internal.bd (demD (b=-1/\c=-1/\-1<=a/\a<=1000000)) λ_1=>ok (.rng a (-1) (a+1).toNat)) g (CR n ls g (.type m) vs) :=
 .bdo λx hx=>.bdo λy hy=>.bdo λz hz=>.demD λob=>(.ok λF σ us i r=>by
  rw [qw e] at r
  obtain⟨u1,_,rfl,r1,u2,_,rfl,r2,u3,_,rfl,r3,rfl⟩:=r
  refine(rI r1 hx).elim λt1 e136_1=>?_
  subst e136_1
  refine(rI r2 hy).elim λt2 e137_1=>?_
  subst e137_1
  refine(rI r3 hz).elim λt3 e138_1=>?_
  subst e138_1
  refine x04 ob λe139_0 e139_1 o1 o2=>?_
  clear ob
  subst e139_0
  subst e139_1
  rw [he]
  exact mo (o:={ cls:=.type "range",data:=.fields #[.int x t1,.int (-1) t2,.int (-1) t3] }) i.gd rfl rfl rfl (λA Q E _1 q=>PySem.call_range_3 (by decide) (q _) (.inl (by have:=gX (x:=-1-x) (y:=-1) (by decide); simpa using this))) λt'=>⟨_,-1,t1,t2,t3,rfl,.inr rfl,IsRange.new ..,AG o1 o2⟩)
noncomputable def CB1(n:Nat)(ls:Loc)(g:G)(f:AV)(vs:List AV)(v:AV)(g':G):Prop:=vol f=false/\(∀ σ w π u,RV σ w π f u->∀ a,u≠.ref a)/\∀ σ π u,RV σ g.w π f u->CR n ls g u vs v g'
theorem CB1.ty{f:AV}{vs:List AV}{m:String}(e:vTy f=some m)(h:CR n ls g (.type m) vs v g'):CB1 n ls g f vs v g':=by
 rw [lT e]
 exact⟨rfl,λσ w π u r a z=>(nomatch (show u=Value.type m from r).symm.trans z),λσ π u r=>by rw [show u=Value.type m from r]; exact h⟩
theorem vM{f:AV}{vs:List AV}:Al (y6 ls f vs) g (CB1 n ls g f vs):=.vw (λm e=>su.imp λv g' h=>by
 rw [yV e]
 exact⟨rfl,λσ w π u r a z=>(nomatch (show u=Value.builtin m from r).symm.trans z),λσ π u r=>by rw [show u=Value.builtin m from r]; exact h⟩)
 λ_1=>.bdo λm e=>.vw (λa ha=>o5.imp λv g' h=>.ty e (cr1 ha h)) λ_1=>.bdo λp hp=>.wh λhm=>(sw hp (beq_iff_eq.mp hm)).imp λv g' h=>.ty e h
variable {Ω:Om}
theorem sx{f:Expr}{as:List Expr}(hf:jv f=none)(env:Env):eval (.Call f as [] pos) env=(do callWith pos (<- eval f env) [] (backTo pos (starEach as env)) []):=by
 cases f <;> first | rfl | cases hf
theorem vO(hΩ:ΩOk n Ω)(hI:Snd n I){f:Expr}{as:List Expr}(hf:jv f=none):Al (zi Ω I ls f as) g (EOk n (.Call f as [] pos) ls g) :=
 Al.as ((hI.e f ls g).bd λfv g1 h1=>(eE hI pos as).bd λvs g2 h2=>.vw (λa e=>(iA hΩ).imp λv g' s=>h1.e (c:=λF u=>callWith pos u [] (backTo pos (starEach as F.env)) []) λF σ u i r=>by
  rw [ds e] at r
  obtain rfl:=r
  exact cw (h2.2 F.env) (oR s.1) (h2.1 F σ i) λus σ2 p2 r2=>CWp.call (s.run p2.good r2))
  λ_1=>vM.imp λv g' k=>h1.e (c:=λF u=>callWith pos u [] (backTo pos (starEach as F.env)) []) λF σ u i r =>
   cw (h2.2 F.env) (iB (k.2.1 σ _ F.π u r)) (h2.1 F σ i) λus σ2 p2 r2=>(k.2.2 σ2 F.π u (RV.post i.gd p2 (.inl k.1) r)) F σ2 us (i.post p2) r2) λF=>sx hf F.env
end
end
end
section
open PySem PySem.W PyProof.Rows PySem.Calls
section
theorem xX(i a z c:Int)(ha:a≠0):(i+a*(256*c*z)) / a % 256=i / a % 256:=by
 rw [Int.add_mul_ediv_left _ _ ha,Int.mul_assoc,Int.add_mul_emod_self_left]
theorem AH(w:Nat):(2:Int) ^ (8*w)=256 ^ w:=by rw [Int.pow_mul]; rfl
theorem AI{w k:Nat}(i:Int)(hk:k < w):(i / 256 ^ k % 256).toNat=(i % 2 ^ (8*w)).toNat / 256 ^ k % 256:=by
 have hN:(256:Int) ^ w=256 ^ k*(256*256 ^ (w-k-1)):=by
  rw [<- Int.pow_succ',<- Int.pow_add]; congr 1; omega
 have h0:(0:Int)<=i % 256 ^ w:=Int.emod_nonneg _ (Int.pow_ne_zero (by decide))
 have e:i / 256 ^ k % 256=i % 256 ^ w / 256 ^ k % 256:=by
  rw [Int.emod_def i (256 ^ w),Int.sub_eq_add_neg,<- Int.mul_neg,hN,Int.mul_assoc,xX _ _ _ _ (Int.pow_ne_zero (by decide))]
 rw [AH,e]
 refine(Int.eq_ofNat_of_zero_le h0).elim λm hm=>?_
 rw [hm]
 rfl
theorem vP{w:Nat}(i:Int):le w i=(PySem.Builtin.Struct.intBytes false w i).toList:=by
 unfold le PySem.Builtin.Struct.intBytes PySem.Builtin.Memoryview.toLittleEndian
 simp only [Bool.false_eq_true,if_false]
 exact List.map_congr_left λk hk=>by rw [AI i (List.mem_range.mp hk)]
theorem jj{b x:List UInt8}{h:Int}{n:Nat}(h0:0<=h)(hx:x.length=n):az b h (h+n) x=bF b x h.toNat:=by
 unfold az bF
 rw [hx,show(h+n).toNat=h.toNat+n by lia]
section
variable {w w':W}{σ σ':St}{g g' g1 g2:G}{nv:Bool}{n:Nat}{π:Str->Addr}{v a b:AV}{ls:Loc}{I:Ev}{pos:Pos}{F:Fr'}{h':Heap}{t:Nat}
theorem Al.putM1{m:Mn}{P:Unit->G->Prop}(h:P () ⟨⟨g.w.bs,some m,g.w.bx⟩,true⟩):Al (Internal.putM m) g P:=λk e=>⟨_,_,h,e⟩
theorem Al.putM{α:Type}{m:Mn}{f:Unit->EM α}{P:α->G->Prop}(h:Al (f ()) ⟨⟨g.w.bs,some m,g.w.bx⟩,true⟩ P):Al (Internal.bd (Internal.putM m) f) g P:=h
theorem fO{m m':Mn}{q0:Key}(x:aj g.w σ)(e:g.w.mn=some m)(l0:live g.w q0)(sb:But (σ.α q0) σ.h h')(hn:∃ o',h'.get? (σ.α q0)=some o'/\Rep σ ⟨g.w.bs,some m',g.w.bx⟩ q0 o')
 (hM:q0≠.mine->m'.align=m.align/\m'.forced=m.forced) (hC:∀ c o,q0≠.comp 0 c->fc σ m c o->fc σ m' c o):au nv g σ ⟨⟨g.w.bs,some m',g.w.bx⟩,true⟩ (σ.to h' t) :=
 have lv:∀ q,live ⟨g.w.bs,some m',g.w.bx⟩ q->live g.w q:=λq l=>df (nv:=false) (w:=g.w) (w':=⟨g.w.bs,some m',g.w.bx⟩) (λ_1=>by rw [e]; rfl) (λ_1=>id) (λr b e=>⟨b,e,λ_1 _2=>id⟩) q l (.inr rfl)
 have lk:∀ q,live g.w q->live ⟨g.w.bs,some m',g.w.bx⟩ q:=λq l=>df (nv:=false) (w:=⟨g.w.bs,some m',g.w.bx⟩) (w':=g.w) (λ_1=>rfl) (λ_1=>id) (λr b e=>⟨b,e,λ_1 _2=>id⟩) q l (.inr rfl)
 have hr:∀ q o,q≠q0->live ⟨g.w.bs,some m',g.w.bx⟩ q->Rep σ g.w q o->Rep σ ⟨g.w.bs,some m',g.w.bx⟩ q o:=λq o hq l z=>match q,hq,z with
  | .bld _1,_2,z=>z
  | .box _1,_2,z=>z
  | .mine,hq,z=>z.elim λm1 z=>z.elim λt z=>⟨m',t,rfl,by
   have y:=hM hq.symm
   rw [<- Option.some.inj (e.symm.trans z.1)] at z
   unfold bp at z ⊢
   rw [y.1,y.2]; exact z.2⟩
  | .comp r c,hq,z=>by
   have z:b9 σ g.w r c o (aI c):=z
   show b9 σ _ r c o (aI c)
   cases hc:aI c with
   | true=>rw [hc] at z; exact z
   | false =>
    rw [hc] at z
    refine yaea z λh1 m1 h2 h3=>?_
    rw [h1] at hq
    exact⟨h1,m',rfl,hC c o hq.symm (Option.some.inj (h2.symm.trans e)▸h3)⟩
 Upd.post (q0:=q0) ⟨l0,lv,sb,hn,hr⟩ x rfl λq l _1=>lk q l
theorem cU.upd{o o':Obj}{its its':Array Value}{k:Nat}(h:cU o its)(c:o'.cls=o.cls)(d:o'.dict=o.dict)(e:o'.data=.seq its' k):cU o' its':=⟨c.trans h.c,d.trans h.d,k,e⟩
theorem gK{r:Nat}{c:Cp}{m:Mn}{o:Obj}(hc:aI c=false)(hr:r=0)(h:fc σ m c o){w:W}(hm:w.mn=some m):Rep σ w (.comp r c) o:=by
 show b9 σ w r c o (aI c)
 rw [hc]; exact⟨hr,m,hm,h⟩
theorem fP{r:Nat}{c:Cp}{b:BS}{o:Obj}(hc:aI c=true)(h:dc σ r b c o){w:W}(hb:w.bs[r]?=some b):Rep σ w (.comp r c) o:=by
 show b9 σ w r c o (aI c)
 rw [hc]; exact⟨b,hb,h⟩
theorem dC{r:Nat}{c:Cp}(hc:aI c=false)(l:live w (.comp r c)):r=0:=by
 have l:bH w r c (aI c):=l
 rw [hc] at l; exact l.1
theorem sy{m:Mn}{xs ys:List Int}{o:Obj}{c:Cp}(h:dq m c=some xs)(z:bS o ys):fc σ (lP m ys c) c o:=by
 cases c <;> first | exact xNS h | exact z
theorem vQ{m:Mn}{xs:List Int}{c:Cp}(h:dq m c=some xs):c=.rear\/c=.stand\/c=.made:=by
 cases c <;> first | exact .inl rfl | exact .inr (.inl rfl) | exact .inr (.inr rfl) | cases h
theorem mM{m:Mn}{xs ys:List Int}{o:Obj}{c d:Cp}(h:dq m c=some xs)(n:c≠d)(z:fc σ m d o):fc σ (lP m ys c) d o:=by
 rcases vQ h with rfl | rfl | rfl <;> cases d <;> first | exact z | exact(n rfl).elim
theorem vR{m:Mn}{xs ys:List Int}{c:Cp}(h:dq m c=some xs):(lP m ys c).align=m.align/\(lP m ys c).forced=m.forced:=by
 cases c <;> first | exact xNS h | exact⟨rfl,rfl⟩
theorem iI{q:Nat×Cp}{ys:List Int}:Al (gE q.1 q.2 ys) g λ_1 g'=>∀ nv σ h' t,live g.w (.comp q.1 q.2)->aj g.w σ->But (σ.α (.comp q.1 q.2)) σ.h h'->(∃ o',h'.get? (σ.α (.comp q.1 q.2))=some o'/\bS o' ys)->au nv g σ g' (σ.to h' t):=by
 obtain⟨r,c⟩:=q
 refine .ei (λe=>.getB λb hb=>.bdo λxs hx=>.putB1 λnv σ h' t l gd sb hn=>?_) λe=>.getM λm hm=>.bdo λxs hx=>.putM1 λnv σ h' t l gd sb hn=>?_
 . obtain rfl:=oA e
   refine dZ (q0:=.comp r .cv) gd hb l ⟨λc=>?_,λ_1 c=>?_⟩ sb (hn.imp λo z=>⟨z.1,fP (c:=.cv) (b:={ b with cv:=some ys }) rfl ⟨ys,rfl,z.2⟩ (aM hb)⟩) (λ_1 o h=>⟨h.c,h.p,h.z,h.d,{ h.s with s1:=by rw [h.s.s1,hx]; rfl }⟩) λc o n _1=>?_
   . cases c <;> first | exact id | exact λ_1=>by show b.cv.isSome=true; rw [hx]; rfl
   . cases c <;> first | exact id | exact λ_1=>rfl
   . cases c <;> first | exact id | exact(n rfl).elim
 . have hv:aI c=false:=ix hx
   have r0:r=0:=dC hv l
   exact fO (q0:=.comp r c) gd hm l sb (hn.imp λo z=>⟨z.1,gK hv r0 (sy hx z.2) rfl⟩) (λ_1=>vR hx) λd o n=>mM hx λ(z:c=d)=>n (by rw [r0,z])
noncomputable def zy(b:Bool)(u:Value):List Value:=match b with
 | true=>[u]
 | false=>[]
structure iJ(name:Str)(o:AV)(fv:Value)(slf:Bool):Prop where
 noRef:∀ a,fv≠.ref a
 get:∀ w σ π u A (Q:Value×List Value->Shared->Prop) E pl,aj w σ->RV σ w π o u->(∀ t,Q (fv,zy slf u) (σ.tok t).s)->wpAny M0 A (getMethod u name pl) Q E σ.s
noncomputable def MB(n:Nat)(ls:Loc)(g:G)(o:AV)(name:Str)(vs:List AV)(v:AV)(g':G):Prop:=∃ fv slf,iJ name o fv slf/\(∀ F σ u us,Inv F ls g.w σ->RV σ g.w F.π o u->RVL σ g.w F.π vs us->Wp n σ (call fv (zy slf u++us)) (ER (ao ls.v) g σ v g' F.π))
theorem fc.listO{m:Mn}{o:Obj}{c:Cp}(h:rR c=true)(z:fc σ m c o):∃ its,cU o its:=by
 cases c <;> first | exact xFT h | exact z.elim λvs z=>⟨_,z.1⟩
theorem vT{c:Cp}(h:rR c=true):aI c=false:=by
 cases c <;> first | rfl | exact xFT h
theorem xY{r:Nat}{c:Cp}(hv:aI c=false)(l:live w (.comp r c)):∃ m,w.mn=some m:=by
 have l:bH w r c (aI c):=l
 rw [hv] at l
 exact Option.isSome_iff_exists.mp l.2
theorem aj.ml(x:aj w σ){r:Nat}{c:Cp}(l:live w (.comp r c))(h:rR c=true):∃ o its,σ.h.get? (σ.α (.comp r c))=some o/\cU o its :=
 (xY (vT h) l).elim λm hm=>(x.cm l (vT h) hm).imp λo z=>(z.2.listO h).imp λits y=>⟨z.1,y⟩
theorem eG{q:Nat×Cp}{name:Str}{nm id:String}(e:vC a=some q)(hl:rR q.2=true)(hn:name=Str.ofString nm)(slot:Slot "list" nm id)(hty:typeOf (.builtin id)=pure (.type "method_descriptor")):iJ name a (.builtin id) true :=
 ⟨nofun,λw σ π u A Q E pl gd r k=>by
  refine x02 (rC r e) λl e116_1=>?_
  subst e116_1
  refine x22 (gd.ml l hl) λo its h1 h2=>?_
  rw [hn]
  exact getMethod_builtin ⟨o,h1,h2.c⟩ PySem.F.plainAttrs_list slot hty (λb e=>by cases e; exact⟨o,h1,h2.d⟩) (k σ.s.toks)⟩
theorem mb1{o:AV}{name:Str}{fv:Value}(m:iJ name o fv true)(h:∀ F σ u x,Inv F ls g.w σ->RV σ g.w F.π o u->RV σ g.w F.π a x->Wp n σ (call fv [u,x]) (ER (ao ls.v) g σ v g' F.π)):MB n ls g o name [a] v g':=⟨fv,true,m,λF σ u us i ru r=>by
 refine x23 r λx q e121_2 rx e121_4=>?_
 clear r
 subst e121_2
 subst e121_4
 exact h F σ u x i ru rx⟩
theorem cK.len:∀{rows:List (List Int)}{vs:List Value},cK σ rows vs->vs.length=rows.length
 | [],_1,e=>by rw [e]; rfl
 | _1::_,_,h=>h.elim λv h=>h.elim λq h=>by rw [h.1]; exact congrArg Nat.succ (cK.len h.2.2)
theorem cK.app{x:List Int}{u:Value}(hu:RD σ (.ints x) u):∀{rows:List (List Int)}{vs:List Value},cK σ rows vs->cK σ (rows++[x]) (vs++[u])
 | [],_1,e=>by rw [e]; exact⟨u,[],rfl,hu,rfl⟩
 | _1::_,_,h=>h.elim λv h=>h.elim λq h=>⟨v,q++[u],by rw [h.1]; rfl,h.2.1,cK.app hu h.2.2⟩
theorem xZ{q:Nat×Cp}{name:Str}{i:Int}{o:AV}(e:vC o=some q)(ha:vI a=some i):Al (wh (sl name "append"&&!lQ q.2) (Internal.bd (be q.1 q.2) λxs=>Internal.bd (dem (xs.length<=16777215)) λ_1=>Internal.bd (gE q.1 q.2 (xs++[i])) λ_1=>ok .none)) g (MB n ls g o name [a]) :=
 .wh λh=>.comp λxs hx=>.dem λob=>(iI.bd λ_1 g1 hp=>.ok (mb1 (eG e (hx.ml (Bool.not_eq_true' _ |>.mp (aw h).2)) (bm.mp (aw h).1) PySem.F.slot_list_append PySem.F.type_list_append) λF σ u x iv ru rx=>by
  refine x02 (rC ru e) λl e131_1=>?_
  subst e131_1
  refine(rI rx ha).elim λti e132_1=>?_
  subst e132_1
  refine dG (hx.o σ l iv.gd) λo h1 vs h2 ia=>?_
  refine h2.s.elim λk hd=>?_
  refine .any λA Q E rm q=>dm h1 h2.c hd (by rw [show vs.toArray.size=xs.length from ia.length]; exact ob) λh' sb hn=>?_
  refine eX hn λo' n1 n2 n3 k' n4=>?_
  refine q .none (σ.to h' σ.s.toks) ⟨?_,rfl⟩
  have P:=hp (ao ls.v) σ h' σ.s.toks l iv.gd (SameBut.but sb) ⟨o',n1,vs++[.int i ti],(h2.upd n2 n3 n4:cU o' (vs.toArray.push _)) |> (by simpa using ·),ia.append (.cons i ti .nil)⟩
  exact⟨P.mv,P.calm,P.held⟩))
open Classical in
theorem mN{x:List Int}:∀{rows:List (List Int)}{vs:List Value},cK σ rows vs->(vs.findIdx λy=>decide (RD σ (.ints x) y))=(rows.findIdx λy=>decide (y=x))/\True
 | [],_1,h=>by rw [show _=[] from h]; exact⟨rfl,trivial⟩
 | z::r,_,h=>by
  refine x23 h λv q e144_2 r1 r2=>?_
  clear h
  subst e144_2
  rw [List.findIdx_cons,List.findIdx_cons,(mN r2).1,show decide (RD σ (.ints x) v)=decide (z=x) from decide_eq_decide.mpr (qx r1)]
  exact⟨rfl,trivial⟩
theorem AJ{q:Nat×Cp}{name:Str}{x:List Int}{o:AV}(e:vC o=some q)(ha:vIs a=some x):Al (wh (sl name "extend"&&kc q.2) (Internal.bd getM λm=>Internal.bd (dem (m.rear.length+x.length<=16777216)) λ_1=>Internal.bd (putM { m with rear:=m.rear++x }) λ_1=>ok .none)) g (MB n ls g o name [a]) :=
 .wh λh=>.getM λm hm=>.dem λob=>(.putM (.ok (by
  obtain⟨r,c⟩:=q
  refine x02 (aw h) λhn hc=>?_
  obtain rfl:c=.rear:=uM hc
  refine mb1 (eG e rfl (bm.mp hn) PySem.F.slot_list_extend PySem.F.type_list_extend) λF σ u y iv ru ry=>?_
  refine x02 (rC ru e) λl e153_1=>?_
  subst e153_1
  refine x24 (rIs ry ha) λb ws e154_2 sa la ia=>?_
  subst e154_2
  refine dG (iv.gd.cm l rfl hm) λo h1 vs h2 i0=>?_
  refine h2.s.elim λk hd=>?_
  refine .any λA Q E rm q=>nS h1 h2.c hd la (by rw [show vs.toArray.size=m.rear.length from i0.length,show ws.toArray.size=x.length from ia.length]; exact ob) λh' sb hn=>?_
  refine eX hn λo' n1 n2 n3 k' n4=>?_
  refine q .none (σ.to h' σ.s.toks) ⟨fO (q0:=.comp r .rear) iv.gd hm l (SameBut.but sb) ⟨o',n1,gK (c:=.rear) (m:={ m with rear:=m.rear++x }) rfl (dC rfl l) ⟨vs++ws,by simpa using h2.upd n2 n3 n4,i0.append ia⟩ rfl⟩ (λ_1=>⟨rfl,rfl⟩) λd o n z=>?_,rfl⟩
  rw [show r=0 from dC rfl l] at n
  cases d <;> first | exact z | exact(n rfl).elim)))
theorem x9{q:Nat×Cp}{name:Str}{o:AV}(e:vC o=some q)(hr:kb q.2=true):Al (Internal.bd (opt (vIs a)) λx=>ei (sl name "append") (Internal.bd getM λm=>Internal.bd (dem (m.rows.length<=16777215)) λ_1=>Internal.bd (putM { m with rows:=m.rows++[x] }) λ_1=>ok .none)
 (wh (sl name "index") (Internal.bd getM λm=>Internal.bd (dem (dT m.rows x=true/\m.rows.length<=16777216)) λ_1=>ok (.int (m.rows.findIdx λy=>decide (y=x)))))) g (MB n ls g o name [a]):=.bdo λx ha=>by
 obtain⟨r,c⟩:=q
 obtain rfl:c=.rows:=mq hr
 refine .ei (λhn=>.getM λm hm=>.dem λob=>(.putM (.ok (mb1 (eG e rfl (bm.mp hn) PySem.F.slot_list_append PySem.F.type_list_append) λF σ u y iv ru ry=>?_)))) λ_1=>.wh λhn=>.getM λm hm=>.dem λob=>(.ok (mb1 (eG e rfl (bm.mp hn) PySem.F.slot_list_index PySem.F.type_list_index) λF σ u y iv ru ry=>?_))
 . refine x02 (rC ru e) λl e167_1=>?_
   subst e167_1
   have ry':RD σ (.ints x) y:=by rw [lR ha] at ry; exact ry
   refine dG (iv.gd.cm l rfl hm) λo h1 vs h2 i0=>?_
   refine h2.s.elim λk hd=>?_
   refine .any λA Q E rm q=>dm h1 h2.c hd (by rw [show vs.toArray.size=m.rows.length from i0.len]; exact ob) λh' sb hn=>?_
   refine eX hn λo' n1 n2 n3 k' n4=>?_
   refine q .none (σ.to h' σ.s.toks) ⟨fO (q0:=.comp r .rows) iv.gd hm l (SameBut.but sb) ⟨o',n1,gK (c:=.rows) (m:={ m with rows:=m.rows++[x] }) rfl (dC rfl l) ⟨vs++[y],by simpa using h2.upd n2 n3 n4,i0.app ry'⟩ rfl⟩ (λ_1=>⟨rfl,rfl⟩) λd o n z=>?_,rfl⟩
   rw [show r=0 from dC rfl l] at n
   cases d <;> first | exact z | exact(n rfl).elim
 . refine x02 (rC ru e) λl e176_1=>?_
   subst e176_1
   refine x24 (rIs ry ha) λb ws e177_2 sa la ia=>?_
   subst e177_2
   refine dG (iv.gd.cm l rfl hm) λo h1 vs h2 i0=>?_
   refine aY iv.gd rfl rfl λA Q E rm q=>?_
   refine x02 (qy (A:=A.in1) la ia rm.lt1 i0) λf1 f2=>?_
   refine x02 (mN (x:=x) i0) λf3 f4=>?_
   refine rp (h2.at h1) (λy hy=>f1 y (Array.mem_toList_iff.mpr hy)) (f2.trans ob.1) (by rw [show vs.toArray.size=m.rows.length from i0.len]; exact ob.2) (q _ _ ⟨σ.s.toks,?_⟩)
   rw [show(vs.toArray.toList.findIdx _:Nat)=_ from f3]
theorem o6{a:Addr}{ws:List Value}{x:List Int}{h:Heap}(la:IsTup h a ws.toArray)(ia:IntsAre ws x):uH.is h x a:=by
 obtain⟨o,e,c,n,d⟩:=la
 refine⟨o,_,n,e,c,d,?_⟩
 show PySem.ItemsAre _ x ws
 clear e c d
 induction ia with
 | nil=>exact .nil
 | cons i t r ih=>exact .cons (by show Value.isInt i (.int i t)=true; simp [Value.isInt]) ih
theorem sB{d a:Addr}{ks:List Int}{xs:List (List Int×Addr×Value)}{A:Around}{s:Shared}{Q:Value->Shared->Prop}{E:Value->Shared->Prop}(hu:A.units+1 < cLine)(hkey:uH.is s.heap ks a)(hd:(d==sysModules)=false)(hm:s.heap.DictOfH uH d xs)
 (h:Q (((atKey xs ks).map (·.2)).getD .none) { s with toks:=s.toks+(ks.length+1) }):wpAny M0 A (call (.builtin "dict.get") [.ref d,.ref a]) Q E s :=
 call_meetsIn PySem.F.slot_dict_get hm.typeIs PySem.F.entry_dict_get (PySem.F.args_dict_get_2 _ _) (meetsH_dict_get _ d a hd) ⟨tupleKind_room_in1 hu,ks,xs,hkey,hm,h⟩
theorem ar.getH(x:List Int){xs:List (List Int×Addr×Value)}{l:List (List Int×Int)}(h:ar (kvsOf xs) l):(aN x l=none/\(atKey xs x).map (·.2)=none)\/∃ i t,aN x l=some i/\(atKey xs x).map (·.2)=some (.int i t):=by
 rw [<- valueAt_kvsOf]
 exact h.get
theorem AK{q:Nat×Cp}{name:Str}{o:AV}(e:vC o=some q)(hr:isVt q.2=true):Al (Internal.bd (opt (vIt a)) λx=>wh (sl name "get") (Internal.bd (getB q.1) λb=>Internal.bd (br (aN x b.vt).isSome) λthere=>match there with
 | true=>ok (.int ((aN x b.vt).getD 0))
 | false=>ok .none)) g (MB n ls g o name [a]):=.bdo λx ha=>.wh λhn=>.getB λb hb=>.br <| by
 obtain⟨r,c⟩:=q
 obtain rfl:c=.vt:=uN hr
 have m:iJ name o (.builtin "dict.get") true:=⟨nofun,λw σ π u A Q E pl gd ru k=>by
  refine x02 (rC ru e) λl e210_1=>?_
  subst e210_1
  refine x12 (anyB (show bH w r .vt true from l)) λb h0 _1=>?_
  refine yeae (gd.cb l rfl h0) λo h1 xs h2=>?_
  rw [bm.mp hn]
  exact getMethod_builtin ⟨o,h1,h2.ex.1⟩ PySem.F.plainAttrs_dict PySem.F.slot_dict_get PySem.F.type_dict_get (λc e=>by cases e; exact⟨o,h1,h2.ex.2.1⟩) (k σ.s.toks)⟩
 have run:∀ v,((aN x b.vt).isSome=true->v=.int ((aN x b.vt).getD 0))->((aN x b.vt).isSome=false->v=.none)->MB n ls g o name [a] v g:=λv v1 v2=>mb1 m λF σ u y iv ru ry=>by
  refine x02 (rC ru e) λl e216_1=>?_
  subst e216_1
  rw [yT ha] at ry
  refine x24 ry λta ws e218_2 sa la ia=>?_
  clear ry
  subst e218_2
  refine yeae (iv.gd.cb l rfl hb) λo h1 xs h2=>?_
  refine x22 h2.es λes ep de ee=>?_
  refine aY iv.gd rfl rfl λA Q E rm q=>sB (ks:=x) rm.lt1 (o6 la ia) (iv.gd.noSys l) ⟨o,es,ep,h1,h2.ex,de,ee,λx hx=>(h2.ks x hx).2,h2.nd⟩ (q _ _ ?_)
  rcases ar.getH x h2.iv with ⟨e1,e2⟩ | ⟨i,t,e1,e2⟩
  . rw [e2,v2 (by rw [e1]; rfl)]; exact rfl
  . rw [e2,v1 (by rw [e1]; rfl),e1]; exact⟨t,rfl⟩
 cases hd:(aN x b.vt).isSome with
 | true=>exact .ok (run _ (λ_1=>rfl) λz=>nomatch hd.symm.trans z)
 | false=>exact .ok (run _ (λz=>nomatch hd.symm.trans z) λ_1=>rfl)
theorem vU{q:Nat×Cp}{name:Str}{o:AV}(e:vC o=some q):Al (y7 q.1 q.2 name a) g (MB n ls g o name [a]) :=
 .ei (x9 e) λ_1=>.ei (AK e) λ_1=>.vw (λi ha=>xZ e ha) λ_1=>.bdo λx ha=>AJ e ha
theorem vV{s:Str}{name:Str}{o:AV}(e:vS o=some s):Al (y8 s name a) g (MB n ls g o name [a]):=.bdo λec ha=>.wh λhn=>.dem λob=>(.ok (mb1 (fv:=.builtin "str.encode") ⟨nofun,λw σ π u A Q E pl gd r k=>by
 refine(rS r e).elim λt e231_1=>?_
 subst e231_1
 rw [bm.mp (aw hn).1]
 exact getMethod_builtin (T:="str") rfl PySem.F.plainAttrs_str PySem.F.slot_str_encode PySem.F.type_str_encode (λc e=>by cases e) (k σ.s.toks)⟩ λF σ u x i ru rx=>by
 refine(rS ru e).elim λt e234_1=>?_
 subst e234_1
 refine(rS rx ha).elim λt2 e235_1=>?_
 subst e235_1
 rw [bm.mp (aw hn).2]
 exact aY i.gd rfl rfl λA Q E _1 q=>rF ob.1 ob.2 (q _ _ ⟨σ.s.toks,rfl⟩)))
noncomputable def zz(i:Int)(u:Value):Bool->Prop
 | true=>∃ bb,u=.bool bb/\i=if bb=true then 1 else 0
 | false=>∃ t,u=.int i t
theorem ya{i:Int}{u:Value}{bl:Bool}{a:AV}(e:cu bl a=some i)(r:RV σ w π a u):zz i u bl:=by
 cases bl with
 | true =>
  refine(Option.map_eq_some_iff.mp e).elim λp z=>?_
  rw [hY z.1] at r
  exact⟨p,r,by rw [<- z.2]; cases p <;> rfl⟩
 | false=>rw [gy e] at r; exact r
theorem qN{r:Nat}{b:BS}{x:List UInt8}(gd:aj g.w σ)(l:live g.w (.comp r .bytes))(e:g.w.bs[r]?=some b)(sb:But (σ.α (.comp r .bytes)) σ.h h')(hn:h'.get? (σ.α (.comp r .bytes))=some (cB x)):au nv g σ ⟨g.w.setB r { b with bytes:=x },true⟩ (σ.to h' t):=by
 refine dZ (q0:=.comp r .bytes) gd e l ⟨λc=>?_,λ_1 c=>?_⟩ sb ⟨_,hn,fP (c:=.bytes) (b:={ b with bytes:=x }) rfl rfl (aM e)⟩ (λ_1 o h=>⟨h.c,h.p,h.z,h.d,⟨h.s.s0,h.s.s1,h.s.s2,h.s.s3,h.s.s4,h.s.s5,h.s.s6,h.s.s7,h.s.s8,h.s.s9,h.s.s10⟩⟩) λc o n _1=>?_
 . cases c <;> exact id
 . cases c <;> exact id
 . cases c <;> first | exact id | exact(n rfl).elim
theorem sC{c:Nat}{name:Str}(e:f6 a=some c)(hn:sl name "pack_into"=true){bs:List UInt8}{tt:Tok}(h:K0.lookup c=some (bN bs tt)):iJ name a (.builtin "_struct.Struct.pack_into") true:=⟨nofun,λw σ π u A Q E pl gd ru k=>by
 rw [ds e] at ru
 obtain rfl:=ru
 rw [bm.mp hn]
 exact getMethod_builtin ⟨_,gd.base _ _ h,rfl⟩ ST.plain ST.slot_pack ST.type_pack (λc e=>by cases e; exact⟨_,gd.base _ _ h,rfl⟩) (k σ.s.toks)⟩
theorem AL{w:Nat}{c:Char}{i:Int}(h:dU w c.isLower false i):gY w c i:=by revert h; unfold dU gY; cases c.isLower <;> exact id
theorem iK{w:Nat}{i:Int}:(le w i).length=w:=by unfold le; rw [List.length_map,List.length_range]
theorem yb{c:Nat}{f:Nat×Bool×Bool}{i h:Int}{u:Value}{bl:Bool}{bs:List UInt8}{q:Addr}{th:Tok}(hf:qr c f bl)(hb:f.2.2=bl)(hi:zz i u bl)(gd:aj w σ)(ha:σ.h.get? q=some (cB bs))(o:0<=h/\h+f.1<=bs.length/\bs.length<=16777216/\dU f.1 f.2.1 f.2.2 i){A:Around}{Q:Value->Shared->Prop}{E:Value->Shared->Prop}
 (k:∀ h' tk,Heap.SameBut q σ.h h'->h'.get? q=some (cB (az bs h (h+f.1) (le f.1 i)))->Q .none { σ.s with heap:=h',toks:=tk }):wpAny M0 A (call (.builtin "_struct.Struct.pack_into") [.ref c,.ref q,.int h th,u]) Q E σ.s:=by
 obtain⟨w,sg,b⟩:=f
 rw [jj o.1 iK] at k
 obtain rfl:b=bl:=hb
 cases b with
 | true =>
  refine yae hf λhw t h1=>?_
  obtain rfl:w=1:=hw
  refine x12 hi λbb e270_1 e270_2=>?_
  clear hi
  subst e270_1
  subst e270_2
  exact tK (gd.base _ _ h1) ha o.1 o.2.1 o.2.2.1 λh' tk sb hn=>k h' tk sb (by rw [hn]; cases bb <;> rfl)
 | false =>
  refine Aa hf λch x hx hs t h1=>?_
  refine hi.elim λt3 e274_1=>?_
  clear hi
  subst e274_1
  obtain rfl:sg=ch.isLower:=hs
  exact tJ (x:=(w,ch,x)) hx (AL o.2.2.2) (gd.base _ _ h1) ha o.1 o.2.1 o.2.2.1 λh' tk sb hn=>k h' tk sb (by rw [hn,vP]; rfl)
theorem qr.at{c:Nat}{f:Nat×Bool×Bool}:∀{bl:Bool},qr c f bl->∃ bs t,K0.lookup c=some (bN bs t)
 | true,h=>⟨_,h.2⟩
 | false,h=>h.elim λch h=>h.elim λx h=>⟨_,h.2.2⟩
theorem vW{c:Nat}{name:Str}{vs:List AV}(e:f6 a=some c)(hn:sl name "pack_into"=true):Al (y9 c vs) g (MB n ls g a name vs) :=
 .bdo λp hp=>.bdo λf hf=>.bdo λq hq=>.wh λhc=>.bdo λh hh=>.bdo λi hi=>.getB λb hb=>.dem λob=>(.putB (.ok (by
  refine x21 ((fmt hf).at) λbs tt h0=>?_
  refine⟨_,true,sC e hn h0,λF σ u us iv ru r=>?_⟩
  rw [ds e] at ru
  obtain rfl:=ru
  rw [qw hp] at r
  obtain⟨u1,_,rfl,r1,u2,_,rfl,r2,u3,_,rfl,r3,rfl⟩:=r
  refine x02 (rC r1 hq) λl e288_1=>?_
  subst e288_1
  refine(rI r2 hh).elim λt2 e289_1=>?_
  subst e289_1
  obtain⟨r,cc⟩:=q
  obtain rfl:cc=.bytes:=iw hc
  refine x12 (iv.gd.cb l rfl hb) λo h1 e292_2=>?_
  subst e292_2
  exact .any λA Q E rm q=>yb (fmt hf) rfl (ya hi r3) iv.gd h1 ob λh' tk sb hn=>q .none (σ.to h' tk) ⟨qN iv.gd l hb (SameBut.but sb) hn,rfl⟩)))
theorem sD{o:Option AV}(h:pX o=true):o=some (.ty "int") :=
 x12 ((Option.any_eq_true _ _).mp h) λa e1 e2=>e1.trans (congrArg some (lT (eq_of_beq e2)))
theorem vY{o:AV}{name:Str}{vs:List AV}:Al (za o name vs) g (MB n ls g o name vs):=.vw (λc e=>.ei (λhn=>vW e hn) λ_1=>.wh λhn=>.wh λht=>.bdo λv hv=>.bdo λi hi=>.ok (by
 refine x13 (cls (sD ht)) λu c1 c2 c3=>?_
 refine⟨.type "int",false,⟨nofun,λw σ π u' A Q E pl gd ru k=>?_⟩,λF σ u' us iv ru r=>?_⟩
 . rw [ds e] at ru
   obtain rfl:=ru
   have k1:u=.type "int":=c1.2 w σ gd
   rw [k1] at c3
   exact PySem.W.method_cls gd.base c2 (c3 _ _ _ _ _ gd.base (k _))
 . rw [one_e hv] at r
   refine x23 r λx _1 e307_2 rx e307_4=>?_
   clear r
   subst e307_2
   subst e307_4
   refine(rI rx hi).elim λt e308_1=>?_
   subst e308_1
   exact aY iv.gd rfl rfl λA Q E _1 q=>PySem.call_int_int (q σ.s.toks _ ⟨t,rfl⟩)))
 λ_1=>.bdo λa ha=>by rw [one_e ha]; exact .vw (λs e=>vV e) λ_1=>.bdo λq e=>vU e
theorem vZ(hI:Snd n I){es:List Expr}:Al (behind v (evL I ls es)) g λvs g'=>RnB n ls g v (λF=>spliced (backTo pos (starEach es F.env))) (Vl vs) g'/\∀ env,(backTo pos (starEach es env)).any (·.1)=false :=
 (Al.behindA λg0=>gH hI pos es g0).imp λvs g' h=>⟨h.2,λenv=>oF env h.1⟩
variable {Ω:Om}
theorem v7(hΩ:ΩOk n Ω)(hI:Snd n I){o:Expr}{name:Str}{apos:Pos}{as:List Expr}{ks:List Keyword}(ho:(pZ o).isNone=true)(hl:(apos.endLine==pos.line)=true)(hn:as.length<=20):Al (zj Ω I ls o name as ks) g (EOk n (.Call (.Attribute o name apos) as ks pos) ls g):=by
 refine Al.as (Al.e hI (R:=Vv) (c:=λF ov=>do
  standAt apos.atName
  methodCall o name apos pos F.env ov (as.length+ks.length) (backTo pos (starEach as F.env)) (backToKw pos (keywordEach ks F.env))) λa g=>.vw (λr e=>(oW (n:=n) hΩ hI e).imp λv g' h F σ x i rx=>.stand (h o apos hl hn F σ x i rx)) λ_1=>.wh λhk=>?_) λF=>iC ho
 obtain rfl:ks=[]:=by cases ks <;> first | rfl | cases hk
 refine(vZ (pos:=pos) hI).bd λvs g1 h1=>(vY (n:=n) (ls:=ls)).imp λv g' m F σ x i rx=>?_
 refine x22 m λfv slf mi run=>?_
 exact .stand (eU hl hn (h1.2 F.env) (λpl=>.any λA Q E _1 q=>mi.get g.w σ F.π x A Q E pl i.gd rx λt=>q _ (σ.tok t) ⟨.tok i.gd rfl rfl,rfl,rfl⟩) (iB mi.noRef)
  (λσ1 p1 e1=>h1.1 F σ1 x (i.post p1) (RV.post i.gd p1 (.inr (.inr ⟨rfl,e1⟩)) rx)) λus σ1 σ2 p1 p2 r2=>run F σ2 x us ((i.post p1).post p2) r2.1 r2.2)
end
end
end
section
open PySem PySem.W PyProof.Rows PySem.Calls
section
noncomputable abbrev SlK:=Option Int×Option Int×Option Int
noncomputable def v8:Sl->SlK
 | .rev=>(none,none,some (-1))
 | .upto n=>(none,some n,none)
 | .from_ n=>(some n,none,none)
 | .between a b=>(some a,some b,none)
noncomputable def SlP(σ:St)(q:SlK)(u:Value):Prop:=∃ sl l h s,u=.ref sl/\σ.h.IsSliceOf sl l h s/\IsPart l q.1/\IsPart h q.2.1/\IsPart s q.2.2
section
variable {w w':W}{σ σ':St}{g g' g1 g2 g3:G}{nv:Bool}{n:Nat}{π:Str->Addr}{v a b:AV}{ls ls':Loc}{I:Ev}{pos:Pos}{F:Fr'}{h':Heap}{t:Nat}
noncomputable def iM(n:Nat)(ls:Loc)(g:G)(e:Option Expr)(k:Option Int)(g':G):Prop:=Rn n ls g (λF=>valueOrNone (evalOpt e F.env)) (λ_1 _2 u _3=>IsPart u k) g'
theorem cf:iM n ls g none none g:=λF σ i=>.ret i.gd rfl rfl .none
theorem dh{e:Expr}{k:Int}(h:EOk n e ls g v g')(hv:vI v=some k):iM n ls g (some e) (some k) g':=λF σ i=>(show Wp n σ (eval e F.env) _ from (h F σ i).imp λu σ' _1 r=>by
 refine(rI r hv).elim λt e20_1=>?_
 subst e20_1
 exact .int k t)
theorem fQ{l h s:Option Expr}{q:SlK}{p:Pos}(h1:iM n ls g l q.1 g1)(h2:iM n ls g1 h q.2.1 g2)(h3:iM n ls g2 s q.2.2 g3):Rn n ls g (λF=>eval (.Slice l h s p) F.env) (λ_1 _2 u σ=>SlP σ q u) g3:=λF σ i=>by
 show Wp n σ (eval (.Slice l h s p) F.env) _
 rw [arm_eval_Slice]
 exact(h1 F σ i).seq λu1 σ1 p1 r1=>(Wp.hold (h2 F σ1 (i.post p1))).seq λu2 σ2 p2 r2=>(Wp.hold (h3 F σ2 ((i.post p1).post p2))).seq λu3 σ3 p3 r3 =>
  .any λA Q E rm k=>wpAny_newObj_type (k _ (σ3.to _ σ3.s.toks) ⟨.stay p3.good rfl rfl λa o e=>Heap.get?_push_of_some _ e,_,u1,u2,u3,rfl,Heap.IsSliceOf.new ..,r1,r2,r3⟩)
noncomputable abbrev SlR(n:Nat)(ls:Loc)(q:Option Expr×Option Expr×Option Expr)(g:G)(sh:Sl)(g':G):Prop:=∀ p,Rn n ls g (λF=>eval (.Slice q.1 q.2.1 q.2.2 p) F.env) (λ_1 _2 u σ=>SlP σ (v8 sh) u) g'
theorem RnB.drop{β:Type}{c:Fr'->Sem β}{R:W->Fr'->β->St->Prop}{k:Int}(h:RnB n ls g v c R g')(hv:vI v=some k):Rn n ls g c R g':=λF σ i=>(h F σ (.int k 0) i (by rw [gy hv]; exact⟨0,rfl⟩)).imp λ_1 _2 _3 r=>r.2
theorem eW(hI:Snd n I):∀{q:Option Expr×Option Expr×Option Expr},Al (dA I ls q) g (SlR n ls q g)
 | (none,none,some e)=>(hI.e e ls g).bd λv g1 h=>.bdo λk hk=>.demD λob=>.ok λp=>fQ (g1:=g) (g2:=g) (q:=(none,none,some (-1))) cf cf (ob▸dh h hk)
 | (none,some e,none)=>(hI.e e ls g).bd λv g1 h=>.bdo λk hk=>.ok λp=>fQ (g1:=g) (q:=(none,some k,none)) cf (dh h hk) cf
 | (some e,none,none)=>(hI.e e ls g).bd λv g1 h=>.bdo λk hk=>.ok λp=>fQ (q:=(some k,none,none)) (dh h hk) cf cf
 | (some e,some e',none)=>(hI.e e ls g).bd λv g1 h=>(Al.behind λg0=>hI.e e' ls g0).bd λv' g2 h2=>.bdo λk hk=>.bdo λk' hk'=>.ok λp=>fQ (q:=(some k,some k',none)) (dh h hk) (dh (h2.drop hk) hk') cf
 | (none,none,none)=>.no
 | (none,some _1,some _2)=>.no
 | (some _1,none,some _2)=>.no
 | (some _1,some _2,some _3)=>.no
theorem IntsAre.dropLast{vs:List Value}{xs:List Int}(h:IntsAre vs xs):IntsAre vs.dropLast xs.dropLast:=by
 induction h with
 | nil=>exact .nil
 | cons x t r ih =>
  cases r with
  | nil=>exact .nil
  | cons y u r=>exact .cons x t ih
theorem IntsAre.rev{vs:List Value}{xs:List Int}(h:IntsAre vs xs):IntsAre vs.reverse xs.reverse:=by
 induction h with
 | nil=>exact .nil
 | cons x t r ih=>rw [List.reverse_cons,List.reverse_cons]; exact ih.append (.cons x t .nil)
theorem RDs.append:∀{a b:List AV}{us ws:List Value},RDs σ a us->RDs σ b ws->RDs σ (a++b) (us++ws)
 | [],_1,us,_2,e,r=>by rw [show us=[] from e]; exact r
 | _1::_,_,_,_,h,r=>h.elim λv h=>h.elim λq h=>⟨v,_,by rw [h.1]; rfl,h.2.1,RDs.append h.2.2 r⟩
theorem RDs.rev:∀{a:List AV}{us:List Value},RDs σ a us->RDs σ a.reverse us.reverse
 | [],us,e=>by rw [show us=[] from e]; rfl
 | a::r,_,h=>h.elim λv h=>h.elim λq h=>by
  rw [h.1,List.reverse_cons,List.reverse_cons]
  exact(RDs.rev h.2.2).append ⟨v,[],rfl,h.2.1,rfl⟩
theorem fR{l:Addr}{vs:List Value}{q:SlK}{u:Value}{ys:List Value}(gd:aj g.w σ)(ew:g'.w=g.w)(er:g'.wr=g.wr)(la:σ.h.IsList l vs.toArray)(hz:vs.length<=16777216)(hs:SlP σ q u)(h0:q.2.2≠some 0)(hy:(slicePick vs.toArray q.1 q.2.1 q.2.2).toList=ys)
 (hR:∀ t,RV (σ.new (listO ys) t) g'.w π v (.ref σ.h.objs.size)):∃ Tn id,typeLookup (.type Tn) "__getitem__"=pure (some (.builtin id))/\σ.s.TypeIs (.ref l) Tn/\Value.ref l≠.builtin "sys.modules#opaque"/\Wp n σ (getItem (.ref l) u) (ER nv g σ v g' π):=by
 obtain⟨sl,lo,hi,st,rfl,hs,pl,pu,ps⟩:=hs
 refine Item.list la (mo (o:=listO ys) gd ew er rfl (λA Q E _1 k=>wpAny_getItem_list_slice la hs pl pu ps h0 ?_ (by rw [sizeLine_eq]; exact hz)) hR)
 have:=k σ.s.toks
 rw [<- hy] at this
 simpa using this
noncomputable def AM(n:Nat)(ls:Loc)(g:G)(o:AV)(sh:Sl)(v:AV)(g':G):Prop:=∀ F σ uo u,Inv F ls g.w σ->RV σ g.w F.π o uo->SlP σ (v8 sh) u->∃ Tn id,typeLookup (.type Tn) "__getitem__"=pure (some (.builtin id))/\σ.s.TypeIs uo Tn/\uo≠.builtin "sys.modules#opaque"/\Wp n σ (getItem uo u) (ER (ao ls.v) g σ v g' F.π)
theorem iN{vs:List Value}:(slicePick vs.toArray none none (some (-1))).toList=vs.reverse:=by rw [krv_pick]
theorem sE{o:AV}:∀{sh:Sl},Al (kh o sh) g (AM n ls g o sh)
 | .rev=>.vw (λxs e=>.dem λob=>(.ok λF σ uo u i r hs=>by
  rw [vL_e e] at r
  refine x24 r λl vs e71_2 _1 la rd=>?_
  clear r
  subst e71_2
  exact fR i.gd rfl rfl la (by rw [RDs.length rd]; exact ob) hs (by decide) iN λt=>⟨_,_,rfl,.inr rfl,kt,RDs.keep .new rd.rev⟩))
  λ_1=>.vw (λxs e=>.dem λob=>(.ok λF σ uo u i r hs=>by
   refine x24 (rIs r e) λl vs e74_2 _1 la ia=>?_
   subst e74_2
   exact fR i.gd rfl rfl la (by rw [ia.length]; exact ob) hs (by decide) iN λt=>cL (IntsAre.rev ia)))
  λ_1=>.bdo λq e=>.wh λ_1=>.comp λxs hx=>.dem λob=>(.ok λF σ uo u i r hs=>by
   refine x02 (rC r e) λl e77_1=>?_
   subst e77_1
   refine x12 (hx.l σ l i.gd) λvs la ia=>?_
   exact fR i.gd rfl rfl la (by rw [ia.length]; exact ob) hs (by decide) iN λt=>cL (IntsAre.rev ia))
 | .upto m=>.bdo λxs e=>.br <| by
  cases hn:decide (m < 0) with
  | true=>exact .dem λob=>(.ok λF σ uo u i r hs=>by
   refine x24 (rIs r e) λl vs e83_2 _1 la ia=>?_
   subst e83_2
   refine x02 ob λe84_0 hz=>?_
   clear ob
   subst e84_0
   refine fR (ys:=vs.dropLast) i.gd rfl rfl la (by rw [ia.length]; exact hz) hs (by decide) ?_ λt=>cL (IntsAre.dropLast ia)
   have e:=slicePick_butLast vs.toArray 1 (Nat.le_refl _)
   rw [show(-((1:Nat):Int))=-1 by rfl] at e
   show(slicePick vs.toArray none (some (-1)) none).toList=_
   rw [e]
   simp [List.dropLast_eq_take])
  | false=>exact .dem λob=>(.ok λF σ uo u i r hs=>by
   refine x24 (rIs r e) λl vs e92_2 _1 la ia=>?_
   subst e92_2
   exact fR i.gd rfl rfl la (by rw [ia.length]; exact ob.2) hs nofun rfl λt=>cL (slice_ints_uptoW ia (Int.not_lt.mp (of_decide_eq_false hn))))
 | .from_ m=>.bdo λq e=>.wh λhc=>.getB λb hb=>.dem λob=>(.ok λF σ uo u i r hs=>by
  refine x02 (rC r e) λl e95_1=>?_
  subst e95_1
  obtain⟨r,c⟩:=q
  obtain rfl:c=.bytes:=iw hc
  refine x12 (i.gd.cb l rfl hb) λo h1 e98_2=>?_
  subst e98_2
  obtain⟨sl,lo,hi,st,rfl,hs,pl,pu,ps⟩:=hs
  have pu:IsPart hi none:=pu
  have ps:IsPart st none:=ps
  cases pu
  cases ps
  exact⟨"bytearray",_,BA.slot_get.lookup,⟨_,h1,rfl⟩,nofun,mo (o:=cB (b.bytes.drop m.toNat)) i.gd rfl rfl rfl (λA Q E _1 k=>xg h1 hs pl ob.1 ob.2.1 ob.2.2 (k σ.s.toks)) λt=>⟨_,rfl,.inr rfl,Heap.get?_push_size _ rfl⟩⟩)
 | .between _1 _2=>.no
theorem mO(hI:Snd n I){o:Expr}{q:(Option Expr×Option Expr×Option Expr)×Pos}:Al (Internal.bd (I.e o ls) λv=>Internal.bd (behind v (dA I ls q.1)) λs=>kh v s) g (EOk n (.Subscript o (.Slice q.1.1 q.1.2.1 q.1.2.2 q.2) pos) ls g):=by
 refine Al.as (Al.e hI (R:=Vv) (c:=λF uo=>do
  let i <- holding [uo] (eval (.Slice q.1.1 q.1.2.1 q.1.2.2 q.2) F.env)
  standAt pos
  let r <- subscripted (.Slice q.1.1 q.1.2.1 q.1.2.2 q.2) (<- getitemInPython uo) uo i
  letTemporaryGo o uo r
  pure r) λa g=>(Al.behind (R:=λsh _1 _2 u σ=>SlP σ (v8 sh) u) λg0=>(eW (n:=n) hI).imp λsh g' h=>h q.2).bd λsh g1 h1=>(sE (n:=n) (ls:=ls)).imp λv g' h F σ x i rx=>?_) λF=>arm_eval_Subscript ..
 refine(Wp.hold (h1 F σ x i rx)).seq λu σ2 p2 r2=>?_
 refine x24 (h F σ2 x u (i.post p2) r2.1 r2.2) λTn id hl hT hne hr=>?_
 exact .stand (mI hT hl hne hr)
end
end
end
section
open PySem PySem.W PyProof.Rows PySem.Calls
section
theorem ar.append{K:Type}{k:K}{p:Int}{t:Tok}:∀{kvs:List (K×Value)}{l:List (K×Int)},ar kvs l->ar (kvs++[(k,.int p t)]) (l++[(k,p)])
 | [],_1,e=>by rw [show _=[] from e]; exact⟨p,[],rfl,⟨t,rfl⟩,rfl⟩
 | (y,v)::r,_,h=>h.elim λi h=>h.elim λq h=>⟨i,q++[(k,p)],by rw [h.1]; rfl,h.2.1,ar.append h.2.2⟩
theorem ar.keys{K:Type}:∀{kvs:List (K×Value)}{l:List (K×Int)},ar kvs l->kvs.map (·.1)=l.map (·.1)
 | [],_1,e=>by rw [show _=[] from e]; rfl
 | (y,v)::r,_,h=>h.elim λi h=>h.elim λq h=>by rw [h.1]; exact congrArg (y::·) (ar.keys h.2.2)
theorem mP{s:Str}{p:Int}:∀{l:List (Str×Int)},s ∉ l.map (·.1)->fH s p l=l++[(s,p)]
 | [],_1=>rfl
 | (t,u)::r,h=>(if_neg λ(e:t=s)=>h (e▸.head _)).trans (congrArg ((t,u)::·) (mP λz=>h (.tail _ z)))
theorem qO{s:Str}{v:Value}:∀{r:List (Str×Value)},s ∉ r.map (·.1)->(r.map λkv=>if kv.1=s then(kv.1,v) else kv)=r
 | [],_1=>rfl
 | (y,u)::r,h=>by rw [List.map_cons,if_neg λ(e:y=s)=>h (e▸.head _),qO λz=>h (.tail _ z)]
theorem ar.upd{s:Str}{p:Int}{t:Tok}:∀{kvs:List (Str×Value)}{l:List (Str×Int)},ar kvs l->(kvs.map (·.1)).Nodup->s∈kvs.map (·.1) ->
 ar (kvs.map λkv=>if kv.1=s then(kv.1,.int p t) else kv) (fH s p l)
 | (y,v)::r,l,h,nd,hm=>by
  refine x23 h λi q e a h=>?_
  rw [e]
  rw [List.map_cons,List.nodup_cons] at nd
  by_cases hy:y=s
  . rw [List.map_cons,if_pos hy,qO (hy▸nd.1)]
    exact⟨p,q,if_pos hy,⟨t,rfl⟩,h⟩
  . rw [List.map_cons,if_neg hy]
    exact⟨i,_,if_neg hy,a,h.upd nd.2 ((List.mem_cons.mp hm).resolve_left λz=>hy z.symm)⟩
theorem ar.stored{s:Str}{p:Int}{t:Tok}{kvs:List (Str×Value)}{l:List (Str×Int)}(h:ar kvs l)(nd:(kvs.map (·.1)).Nodup):ar (stored kvs s (.int p t)) (fH s p l):=by
 unfold PySem.stored
 by_cases hm:s∈kvs.map (·.1)
 . rw [if_pos]
   . exact h.upd nd hm
   . refine x12 (List.mem_map.mp hm) λkv m e=>?_
     exact List.any_eq_true.mpr ⟨kv,m,by simpa using e⟩
 . rw [if_neg]
   . rw [mP (h.keys▸hm)]
     exact h.append
   . intro z
     refine x12 (List.any_eq_true.mp z) λkv m e=>?_
     exact hm ((by simpa using e:kv.1=s)▸List.mem_map_of_mem m)
theorem IntsAre.set{vs:List Value}{xs:List Int}(h:IntsAre vs xs)(j:Nat)(p:Int)(t:Tok):IntsAre (vs.set j (.int p t)) (xs.set j p):=by
 induction h generalizing j with
 | nil=>exact .nil
 | cons x u r ih =>
  cases j with
  | zero=>exact .cons p t r
  | succ j=>exact .cons x u (ih j)
theorem v9{o:Obj}{kvs:List (Str×Value)}(h:o.IsDictOf gz kvs):(kvs.map (·.1)).Nodup:=by obtain⟨_,_,_,_,_,_,nd⟩:=h; exact nd
section
variable {w w':W}{σ σ':St}{g g' g1 g2 g3:G}{nv:Bool}{n:Nat}{π:Str->Addr}{o i v a b:AV}{ls ls':Loc}{I:Ev}{pos:Pos}{F:Fr'}{h':Heap}{t:Nat}
theorem Inv.ownUpd(iv:Inv F ls w σ){x:Str}{lv lv':LV}(hx:ls.get x=some lv)(ho:eT lv=true)(ho':eT lv'=true)(hb:But (F.π x) σ.h h')(ha:∃ o,h'.get? (F.π x)=some o)(hl:LR (σ.to h' t) w F.π x lv' (.ref (F.π x)))
 (hr:∀ u,LR σ w F.π x lv u->u=.ref (F.π x)) (hk:∀ o,σ.h.get? (F.π x)=some o->¬ jD o):Inv F (ls.put x lv') w (σ.to h' t):=by
 have hX:=iv.fs.ownB x lv hx ho
 have P:=iv.fd.xP _ hX
 have lr:∀ {y v u},y≠x->ah y ls.v=some v->LR σ w F.π y v u->LR (σ.to h' t) w F.π y v u:=λ{y v u} ne e l=>by
  cases v with
  | v b=>exact RV.quiet (hb.keep P.1) rfl l
  | own xs=>exact⟨l.1,l.2.imp λo z=>⟨hb _ o (λq=>ne (iv.fs.ownI y x _ _ e rfl hx ho q)) z.1,z.2⟩⟩
  | ownB b=>exact⟨l.1,hb _ _ (λq=>ne (iv.fs.ownI y x _ _ e rfl hx ho q)) l.2⟩
 have ncell:∀ {c v},σ.h.IsCell c v->h'.IsCell c v:=λ{c v} z=>z.imp λo q=>⟨hb c o (λe=>hk o (e▸q.1) (Cell.noSeq z o q.1)) q.1,q.2⟩
 refine⟨iv.gd.lone P.1 P.2.1 hb,⟨iv.fs.fn,iv.fs.gl,iv.fs.bl,iv.fs.kinds,λz v e=>(cC e).elim (λc=>c.1▸iv.fs.dom x lv hx) λc=>iv.fs.dom z v c.2,iv.fs.locB,iv.fs.celL,iv.fs.celB,iv.fs.celI,λz v e o=>(cC e).elim (λc=>c.1▸hX) λc=>iv.fs.ownB z v c.2 o,λz z' v v' e o e' o' q=>?_⟩,
  ⟨λc h=>(iv.fd.xP c h).lone hb ha,λz c e d=>⟨(iv.fd.celP z c e d).1.lone hb ha,(iv.fd.celP z c e d).2.imp λv=>ncell⟩,?_,λz c v e ek hz=>?_⟩⟩
 . exact(cC e).elim (λc=>(cC e').elim (λc'=>c.1.trans c'.1.symm) λc'=>c.1.trans (iv.fs.ownI x z' lv v' hx ho c'.2 o' (c.1▸q))) λc=>(cC e').elim (λc'=>(iv.fs.ownI z x v lv c.2 o hx ho (c'.1▸q)).trans c'.1.symm) λc'=>iv.fs.ownI z z' v v' c.2 o c'.2 o' q
 . refine x12 iv.fd.loc λm hn hv=>?_
   refine⟨m,?_,λz v e ek=>(cC e).elim (λc=>(hv x lv hx (c.1▸ek)).imp λu y=>⟨c.1▸y.1,by rw [c.1,c.2,hr u y.2]; exact hl⟩) λc=>(hv z v c.2 ek).imp λu y=>⟨y.1,lr c.1 c.2 y.2⟩⟩
   exact hn.imp λo e=>e.imp λes e=>e.imp λep e=>⟨hb _ o (λq=>hk o (q▸e.1) (Ns.noSeq hn o e.1)) e.1,e.2⟩
 . exact(cC hz).elim (λq=>(iv.fd.cel x c lv (q.1▸e) (q.1▸ek) hx).imp λu y=>⟨ncell y.1,by rw [q.1,q.2,hr u y.2]; exact hl⟩) λq=>(iv.fd.cel z c v e ek q.2).imp λu y=>⟨ncell y.1,lr q.1 q.2 y.2⟩
theorem cU.seq{o:Obj}{its:Array Value}(h:cU o its):¬ jD o:=λz=>h.s.elim λk d=>z.1 _ _ d
theorem Inv.ownL2(iv:Inv F ls g.w σ){x:Str}{xs ys:List Int}{o':Obj}(hx:j9 (ls.get x)=some xs)(hb:But (F.π x) σ.h h')(hn:h'.get? (F.π x)=some o')(hl:bS o' ys)(ew:g'.w=g.w)(er:g'.wr=g.wr):aL F.X g σ g' (σ.to h' t)/\Inv F (ls.put x (.own ys)) g'.w (σ.to h' t):=by
 have e:=n7 hx
 have hX:=iv.fs.ownB x _ e rfl
 refine dG (iv.own hx) λo h1 vs h2 _1=>?_
 refine⟨.lone iv.gd (iv.fd.xP _ hX) hX hb ⟨_,hn⟩ ew er,ew▸iv.ownUpd e rfl rfl hb ⟨_,hn⟩ ⟨rfl,_,hn,hl⟩ (λu y=>y.1) λo'' h3=>?_⟩
 rw [<- Option.some.inj (h1.symm.trans h3)]; exact h2.seq
noncomputable def SetR(n:Nat)(ls:Loc)(g:G)(o i v:AV)(ls':Loc)(g':G):Prop:=∀ F σ uo ui uv,Inv F ls g.w σ->RV σ g.w F.π o uo->RV σ g.w F.π i ui->RV σ g.w F.π v uv->Wp n σ (setItem uo ui uv) λ_1 σ'=>aL F.X g σ g' σ'/\Inv F ls' g'.w σ'
noncomputable def mQ(n:Nat)(ls:Loc)(g:G)(o i v:AV)(g':G):Prop:=∀ F σ uo ui uv,Inv F ls g.w σ->RV σ g.w F.π o uo->RV σ g.w F.π i ui->RV σ g.w F.π v uv->Wp n σ (setItem uo ui uv) (PR (ao ls.v) g σ g' λ_1 _2=>True)
theorem mQ.to(h:mQ n ls g o i v g'):SetR n ls g o i v ls g':=λF σ uo ui uv iv ro ri rv=>(h F σ uo ui uv iv ro ri rv).mono λ_1 σ' p=>⟨p.po.toS,iv.post p.po⟩
theorem sF{r:Nat}{b:BS}{l:List (Str×Int)}{l':List (Str×Int)}{o':Obj}(gd:aj g.w σ)(lv:live g.w (.comp r .ss))(e:g.w.bs[r]?=some b)(hs:b.ss=some l)(sb:But (σ.α (.comp r .ss)) σ.h h')(hn:h'.get? (σ.α (.comp r .ss))=some o')(hd:DicS o' l'):au nv g σ ⟨g.w.setB r { b with ss:=some l' },true⟩ (σ.to h' t):=by
 refine dZ (q0:=.comp r .ss) gd e lv ⟨λc=>?_,λ_1 c=>?_⟩ sb ⟨o',hn,fP (c:=.ss) (b:={ b with ss:=some l' }) rfl ⟨l',rfl,hd⟩ (aM e)⟩ (λ_1 o h=>⟨h.c,h.p,h.z,h.d,{ h.s with s8:=by rw [h.s.s8,hs]; rfl }⟩) λc o n _1=>?_
 . cases c <;> first | exact id | exact λ_1=>by show b.ss.isSome=true; rw [hs]; rfl
 . cases c <;> first | exact id | exact λ_1=>rfl
 . cases c <;> first | exact id | exact(n rfl).elim
theorem yc{r:Nat}{b:BS}{l':List (List Int×Int)}{xs:List (List Int×Addr×Value)}{o':Obj}(gd:aj g.w σ)(lv:live g.w (.comp r .vt))(e:g.w.bs[r]?=some b)(sb:But (σ.α (.comp r .vt)) σ.h h')(hn:h'.get? (σ.α (.comp r .vt))=some o')(hd:VtO σ l' o' xs):au nv g σ ⟨g.w.setB r { b with vt:=l' },true⟩ (σ.to h' t):=by
 refine dZ (q0:=.comp r .vt) gd e lv ⟨λc=>?_,λ_1 c=>?_⟩ sb ⟨o',hn,fP (c:=.vt) (b:={ b with vt:=l' }) rfl ⟨xs,hd⟩ (aM e)⟩ (λ_1 o h=>⟨h.c,h.p,h.z,h.d,⟨h.s.s0,h.s.s1,h.s.s2,h.s.s3,h.s.s4,h.s.s5,h.s.s6,h.s.s7,h.s.s8,h.s.s9,h.s.s10⟩⟩) λc o n _1=>?_
 . cases c <;> exact id
 . cases c <;> exact id
 . cases c <;> first | exact id | exact(n rfl).elim
theorem le1k{m:Nat}(h:m<=1000):m<=sizeLine:=by rw [sizeLine_eq]; exact Nat.le_trans h (by decide)
theorem mR{q:Nat×Cp}{s:Str}{p:Int}(ho:vC o=some q)(hi:vS i=some s)(hv:vI v=some p):Al (l9 q.1 q.2 s p) g λ_1 g'=>mQ n ls g o i v g':=by
 obtain⟨r,c⟩:=q
 refine .ei (λhc=>.getB λb hb=>.bdo λl hl=>.dem λob=>(.putB1 λF σ uo ui uv iv ro ri rv=>?_)) λ_1=>.wh λhc=>.getM λm hm=>.dem λob=>(.putM1 λF σ uo ui uv iv ro ri rv=>?_)
 . obtain rfl:c=.ss:=oC hc
   refine x02 (rC ro ho) λlv e101_1=>?_
   subst e101_1
   refine(rS ri hi).elim λt1 e102_1=>?_
   subst e102_1
   refine(rI rv hv).elim λt2 e103_1=>?_
   subst e103_1
   refine pJ (iv.gd.cb lv rfl hb) λo h1 l' h2 kvs h3 h4=>?_
   rw [Option.some.inj (h2.symm.trans hl)] at h4
   refine .any λA Q E rm k=>wpAny_setItem_pairs (hsz:=by rw [(ar.len h4).1]; exact le1k ob) (strKind_is _ _ _ _) (Heap.dictOf_iff.mpr ⟨o,h1,h3⟩) λh' hd' sb=>?_
   refine x12 (Heap.dictOf_iff.mp hd') λo' n1 n2=>?_
   exact k () (σ.to h' _) ⟨sF iv.gd lv hb hl (SameBut.but sb) n1 ⟨_,n2,h4.stored (v9 h3)⟩,trivial⟩
 . obtain rfl:c=.shr:=qu hc
   refine x02 (rC ro ho) λlv e110_1=>?_
   subst e110_1
   refine(rS ri hi).elim λt1 e111_1=>?_
   subst e111_1
   refine(rI rv hv).elim λt2 e112_1=>?_
   subst e112_1
   refine dG (iv.gd.cm lv rfl hm) λo h1 kvs h3 h4=>?_
   refine .any λA Q E rm k=>wpAny_setItem_pairs (hsz:=by rw [(ar.len h4).1]; exact le1k ob) (strKind_is _ _ _ _) (Heap.dictOf_iff.mpr ⟨o,h1,h3⟩) λh' hd' sb=>?_
   refine x12 (Heap.dictOf_iff.mp hd') λo' n1 n2=>?_
   refine k () (σ.to h' _) ⟨fO (q0:=.comp r .shr) iv.gd hm lv (SameBut.but sb) ⟨o',n1,gK (c:=.shr) (m:={ m with shr:=fH s p m.shr }) rfl (dC rfl lv) ⟨_,n2,h4.stored (v9 h3)⟩ rfl⟩ (λ_1=>⟨rfl,rfl⟩) λd o n z=>?_,trivial⟩
   rw [show r=0 from dC rfl lv] at n
   cases d <;> first | exact z | exact(n rfl).elim
theorem mT{q:Nat×Cp}{x:List Int}{p:Int}(ho:vC o=some q)(hi:vIt i=some x)(hv:vI v=some p):Al (ma q.1 q.2 x p) g λ_1 g'=>mQ n ls g o i v g':=.wh λhc=>.getB λb hb=>.dem λob=>(.putB1 λF σ uo ui uv iv ro ri rv=>by
 obtain⟨r,c⟩:=q
 obtain rfl:c=.vt:=uN hc
 refine x02 (rC ro ho) λlv e122_1=>?_
 subst e122_1
 rw [yT hi] at ri
 refine x24 ri λa ws e124_2 sa la ia=>?_
 clear ri
 subst e124_2
 refine(rI rv hv).elim λt2 e125_1=>?_
 subst e125_1
 refine yeae (iv.gd.cb lv rfl hb) λo h1 xs h2=>?_
 refine x22 h2.es λes ep de ee=>?_
 have hat:atKey xs x=none:=by
  rcases ar.getH x h2.iv with ⟨_,e2⟩ | ⟨i,t,e1,_⟩
  . simpa using e2
  . rw [ob.1] at e1; cases e1
 have hlen:xs.length=b.vt.length:=by have:=(ar.len h2.iv).1; unfold kvsOf at this; rwa [List.length_map] at this
 refine .any λA Q E rm k=>wpAny_setItem_heap (hsz:=by rw [hlen]; exact le1k ob.2) (tupleKind_room_in1 rm.lt1) (o6 la ia) ⟨o,es,ep,h1,h2.ex,de,ee,λx hx=>(h2.ks x hx).2,h2.nd⟩ λh' hm' sb=>?_
 rw [storedH_new hat] at hm'
 refine x36 hm' λo' es' ep' n1 ex' de' ee' ks' nd'=>?_
 refine k () (σ.to h' _) ⟨yc iv.gd lv hb (SameBut.but sb) n1 (xs:=xs++[(x,a,.int p t2)]) ⟨ex',⟨es',ep',de',ee'⟩,λz hz=>(List.mem_append.mp hz).elim (h2.ks z) λhz=>by rw [List.mem_singleton.mp hz]; exact⟨sa,o6 la ia⟩,nd',?_⟩,trivial⟩
 have q:=h2.iv
 unfold kvsOf at q ⊢
 rw [List.map_append]
 exact q.append)
theorem wb{l:Addr}{o:Obj}{vs:List Value}{xs:List Int}{k p:Int}{t1 t2:Tok}{A:Around}{Q:Unit->Shared->Prop}{E:Value->Shared->Prop}(h1:σ.h.get? l=some o)(h2:cU o vs.toArray)(ia:IntsAre vs xs)(hk:0<=k/\k < xs.length/\xs.length<=16777216)
 (q:∀ h' o',But l σ.h h'->h'.get? l=some o'->bS o' (xs.set k.toNat p)->Q () { σ.s with heap:=h' }):wpAny M0 A (setItem (.ref l) (.int k t1) (.int p t2)) Q E σ.s:=by
 refine h2.s.elim λm hd=>?_
 refine gi h1 h2.c hd hk.1 (Int.lt_trans hk.2.1 (lt63 hk.2.2)) (by rw [show vs.toArray.size=xs.length from ia.length]; exact hk.2.1) λh' sb hn=>?_
 refine eX hn λo' n1 n2 n3 k' n4=>?_
 exact q h' o' (SameBut.but sb) n1 ⟨vs.set k.toNat (.int p t2),by simpa using h2.upd n2 n3 n4,IntsAre.set ia k.toNat p t2⟩
theorem mU{q:Nat×Cp}{k:Int}{p:Int}(ho:vC o=some q)(hi:vI i=some k)(hv:vI v=some p):Al (l8 q.1 q.2 k p) g λ_1 g'=>mQ n ls g o i v g':=.comp λxs hx=>.dem λob=>(iI.imp λ_1 g' hp F σ uo ui uv iv ro ri rv=>by
 refine x02 (rC ro ho) λlv e148_1=>?_
 subst e148_1
 refine(rI ri hi).elim λt1 e149_1=>?_
 subst e149_1
 refine(rI rv hv).elim λt2 e150_1=>?_
 subst e150_1
 refine dG (hx.o σ lv iv.gd) λo h1 vs h2 ia=>?_
 refine .any λA Q E rm kk=>wb h1 h2 ia ob λh' o' hb hn hl=>kk () (σ.to h' σ.s.toks) ⟨?_,trivial⟩
 have P:=hp (ao ls.v) σ h' σ.s.toks lv iv.gd hb ⟨o',hn,hl⟩
 exact⟨P.mv,P.calm,P.held⟩)
theorem jL{r:Nat}{x x':Bx}(e:w.bx[r]?=some x):(w.setX r x').bx[r]?=some x':=by
 show(w.bx.set r x')[r]?=_
 rw [List.getElem?_set,if_pos rfl,if_pos (List.getElem?_eq_some_iff.mp e).1]
theorem fh{r r':Nat}{x':Bx}(h:r≠r'):(w.setX r x').bx[r']?=w.bx[r']?:=by
 show(w.bx.set r x')[r']?=_
 rw [List.getElem?_set,if_neg h]
theorem wc{r:Nat}{x x':Bx}{o':Obj}(gd:aj g.w σ)(lv:live g.w (.box r))(e:g.w.bx[r]?=some x)(sb:But (σ.α (.box r)) σ.h h')(hn:h'.get? (σ.α (.box r))=some o')(hd:BoxO σ x' o'):au nv g σ ⟨g.w.setX r x',true⟩ (σ.to h' t):=by
 have l1:∀ q,live (g.w.setX r x') q->live g.w q:=λq l=>df (nv:=false) (w:=g.w) (w':=g.w.setX r x') id (λr' h=>(Classical.em (r=r')).elim (λz=>by rw [<- z,e]; rfl) λz=>by rw [<- fh z]; exact h) (λr b e=>⟨b,e,λ_1 _2=>id⟩) q l (.inr rfl)
 have l2:∀ q,live g.w q->live (g.w.setX r x') q:=λq l=>df (nv:=false) (w:=g.w.setX r x') (w':=g.w) id (λr' h=>(Classical.em (r=r')).elim (λz=>by rw [<- z,jL e]; rfl) λz=>by rw [fh z]; exact h) (λr b e=>⟨b,e,λ_1 _2=>id⟩) q l (.inr rfl)
 refine Upd.post (q0:=.box r) ⟨lv,l1,sb,⟨o',hn,x',jL e,hd⟩,λq o hq l z=>?_⟩ gd rfl λq l _1=>l2 q l
 cases q with
 | bld _1=>exact z
 | comp _1 _2=>exact z
 | mine=>exact z
 | box r'=>exact z.imp λy z=>⟨(fh λq=>hq (by rw [q])).trans z.1,z.2⟩
theorem Al.putX{α:Type}{r:Nat}{b:Bx}{f:Unit->EM α}{P:α->G->Prop}(h:Al (f ()) ⟨g.w.setX r b,true⟩ P):Al (Internal.bd (Internal.putX r b) f) g P:=h
theorem mW:Al (mb ls o i v) g λl g'=>vol v=false/\SetR n ls g o i v l g':=.bdo λp hv=>Al.imp (R:=SetR n ls g o i v) (.vw (λq ho=>Al.bd (R:=λ_1 g'=>mQ n ls g o i v g') (.vw (λs hi=>mR ho hi hv) λ_1=>.vw (λx hi=>mT ho hi hv) λ_1=>.bdo λk hi=>mU ho hi hv) λ_1 g1 h=>.ok h.to)
 λ_1=>.vw (λr ho=>.bdo λk hi=>.wh λhk=>.getX λx hx=>.putX (.ok (mQ.to λF σ uo ui uv iv ro ri rv=>by
  rw [vX_e ho] at ro
  refine x02 ro λlv e174_1=>?_
  clear ro
  subst e174_1
  refine(rI ri hi).elim λt1 e175_1=>?_
  subst e175_1
  refine(rI rv hv).elim λt2 e176_1=>?_
  subst e176_1
  refine lx (iv.gd.at_ _ lv) λo h1 x' h2 u t' hu h3=>?_
  rw [Option.some.inj (h2.symm.trans hx)] at hu h3
  refine h3.s.elim λm hd=>?_
  obtain rfl:k=1:=beq_iff_eq.mp hk
  refine .any λA Q E rm kk=>gi h1 h3.c hd (by decide) (by decide) (show(1:Int) < (2:Nat) by decide) λh' sb hn=>?_
  refine eX hn λo' n1 n2 n3 k' n4=>?_
  exact kk () (σ.to h' σ.s.toks) ⟨wc iv.gd lv hx (SameBut.but sb) n1 ⟨u,t2,hu,h3.upd n2 n3 n4⟩,trivial⟩)))
 λ_1=>.ei (λho=>.bdo λs hi=>.wh λhs=>.getM λm hm=>.putM (.ok (mQ.to λF σ uo ui uv iv ro ri rv=>by
  rw [ii ho] at ro
  refine x02 ro λlv e186_1=>?_
  clear ro
  subst e186_1
  refine(rS ri hi).elim λt1 e187_1=>?_
  subst e187_1
  refine(rI rv hv).elim λt2 e188_1=>?_
  subst e188_1
  refine tF (iv.gd.at_ _ lv) λo h1 m' t' h2 h3=>?_
  rw [Option.some.inj (h2.symm.trans hm)] at h3
  rw [bm.mp hs]
  refine .any λA Q E rm k=>wpAny_setItem_pairs (hsz:=by rw [sizeLine_eq]; show 7<=16777216; decide) (strKind_is _ _ _ _) (Heap.dictOf_iff.mpr ⟨o,h1,h3⟩) λh' hd' sb=>?_
  refine x12 (Heap.dictOf_iff.mp hd') λo' n1 n2=>?_
  rw [show stored (bp σ.α m t') (Str.ofString "align") (.int p t2)=bp σ.α { m with align:=p } t2 by kernel_rfl] at n2
  exact k () (σ.to h' _) ⟨fO (q0:=.mine) iv.gd hm lv (SameBut.but sb) ⟨o',n1,_,t2,rfl,n2⟩ (λz=>(z rfl).elim) λd o n z=>(by cases d <;> exact z),trivial⟩)))
 λ_1=>.bdo λx ho=>.bdo λxs hx=>.bdo λk hi=>.dem λob=>(.ok λF σ uo ui uv iv ro ri rv=>by
  rw [hZ ho] at ro
  obtain rfl:=ro
  refine(rI ri hi).elim λt1 e199_1=>?_
  subst e199_1
  refine(rI rv hv).elim λt2 e200_1=>?_
  subst e200_1
  refine dG (iv.own hx) λo h1 vs h2 ia=>?_
  exact .any λA Q E rm kk=>wb h1 h2 ia ob λh' o' hb hn hl=>kk () (σ.to h' σ.s.toks) (iv.ownL2 hx hb hn hl rfl rfl))) λ_1 _2 h=>⟨by rw [gy hv]; rfl,h⟩
theorem Inv.pair(iv:Inv F ls g.w σ)(P:au (ao ls.v) g σ g' σ'):aL F.X g σ g' σ'/\Inv F ls g'.w σ':=⟨P.toS,iv.post P⟩
noncomputable def SetS(n:Nat)(ls:Loc)(g:G)(o:AV)(sh:Sl)(v:AV)(ls':Loc)(g':G):Prop:=∀ F σ uo u uv,Inv F ls g.w σ->RV σ g.w F.π o uo->SlP σ (v8 sh) u->RV σ g.w F.π v uv->Wp n σ (setItem uo u uv) λ_1 σ'=>aL F.X g σ g' σ'/\Inv F ls' g'.w σ'
theorem mX:∀{sh:Sl},Al (me ls o sh v) g (SetS n ls g o sh v)
 | .between lo hi=>.bdo λq ho=>.wh λhc=>.bdo λx hx=>.getB λb hb=>.dem λob=>(.putB (.ok λF σ uo u uv iv ro hs rv=>by
  obtain⟨r,c⟩:=q
  obtain rfl:c=.bytes:=iw hc
  refine x02 (rC ro ho) λlv e210_1=>?_
  subst e210_1
  refine(rBy rv hx).elim λt e211_1=>?_
  subst e211_1
  refine x12 (iv.gd.cb lv rfl hb) λo h1 e212_2=>?_
  subst e212_2
  obtain⟨sl,l,h,st,rfl,hs,pl,pu,ps⟩:=hs
  have ps:IsPart st none:=ps
  cases ps
  obtain⟨q1,q2,q3,q4,q5⟩:=ob
  intro A Q E rm k
  refine rD rm.2.2.2.1 h1 hs pl pu (rn q1 q2 q3) q1 q2 q3 q4 (by simpa using q5) λh' tk keep hn=>?_
  exact k () (σ.to h' tk) (iv.pair (qN (x:=az b.bytes lo hi x) iv.gd lv hb keep hn))))
 | .from_ lo=>.bdo λy ho=>.bdo λq hv=>.wh λhc=>.getB λb' hb=>.bdo λb hx=>.dem λob=>(.ok λF σ uo u uv iv ro hs rv=>by
  obtain⟨r,c⟩:=q
  obtain rfl:c=.bytes:=iw hc
  rw [hZ ho] at ro
  obtain rfl:=ro
  refine x02 (rC rv hv) λlv e225_1=>?_
  subst e225_1
  refine x12 (iv.gd.cb lv rfl hb) λo h1 e226_2=>?_
  subst e226_2
  obtain⟨sl,l,h,st,rfl,hs,pl,pu,ps⟩:=hs
  have pu:IsPart h none:=pu
  have ps:IsPart st none:=ps
  cases pu
  cases ps
  have e:=pU hx
  have oa:σ.h.get? (F.π y)=some (cB b):=(iv.ownL e).elim λu z=>z.2
  have hX:=iv.fs.ownB y _ e rfl
  have P:=iv.fd.xP _ hX
  obtain⟨q1,q2,q3,q4⟩:=ob
  refine .any λA Q E rm k=>Ad oa hs pl .none h1 (P.2.1 _ lv) (gh q1 q2) q1 q2 (Int.le_refl _) q3 q4 λh' sb hn=>k () (σ.to h' σ.s.toks) ⟨.lone iv.gd P hX (SameBut.but sb) ⟨_,hn⟩ rfl rfl,iv.ownUpd e rfl rfl (SameBut.but sb) ⟨_,hn⟩ ⟨rfl,hn⟩ (λu y=>y.1) λo h3 z=>?_⟩
  rw [<- Option.some.inj (oa.symm.trans h3)] at z
  exact z.2 _ _ rfl)
 | .rev=>.no
 | .upto _1=>.no
theorem Al.stillR{β α:Type}{m:EM α}{c:Fr'->Sem β}{R:α->W->Fr'->β->St->Prop}(h:∀ g0,Al m g0 λa g'=>Rn n ls g0 c (R a) g'):Al (Internal.still m) g λa g'=>∀ F σ,Inv F ls g.w σ->Wp n σ (c F) (PR (ao ls.v) g σ g' λb σ'=>(g'.w=g.w/\σ'.α=σ.α)/\R a g'.w F b σ') :=
 .still ((h _).imp λa g1 r hw F σ i=>(r F σ i).mono λb σ' p=>⟨(p.po.still hw).1,(p.po.still hw).2,p.rv⟩)
theorem sG(hI:Snd n I){e oe ie:Expr}{p:Pos}:Al (uE I ls oe ie e) g (SOk n (.Assign [.Subscript oe ie p] e pos) ls g):=.wh λhc=>by
 have top:∀{x:Fl×Loc}{v:AV}{g1 g':G} (h:EOk n e ls g v g1) (k:∀ F σ u,Inv F ls g1.w σ->RV σ g1.w F.π v u->Wp n σ (assign (.Subscript oe ie p) F.env u) λ_1 σ'=>aL F.X g1 σ g' σ'/\x.1=.nx/\Inv F x.2 g'.w σ'),SOk n (.Assign [.Subscript oe ie p] e pos) ls g x g':=λ{x v g1 g'} h k F σ i=>by
  rw [exec_Assign_Subscript _ _ _ _ _ (aZ hc)]
  exact .stand ((h F σ i).seqS λu σ1 p1 r1=>(k F σ1 u (i.post p1) r1).bnd λ_1 σ2 z=>.pure (.of z.1 (by rw [z.2.1]; rfl) z.2.2))
 have fin:∀{F:Fr'}{g1 g3 g4:G}{σ1 σ3:St}{l:Loc}{u y k:Value}{A B:List Value} (P:au (ao ls.v) g1 σ1 g3 σ3),Wp n σ3 (setItem y k u) (λ_1 σ'=>aL F.X g3 σ3 g4 σ'/\Inv F l g4.w σ')->Wp n σ3 (do holding A (setItem y k u); release B []) λ_1 σ'=>aL F.X g1 σ1 g4 σ'/\Fl.nx=.nx/\Inv F l g4.w σ' :=
  λP h=>(Wp.hold h).bnd λ_1 σ4 z=>λA Q E rm q=>cn (q () σ4 ⟨P.toS.trans (λ_1=>.inl) z.1,rfl,z.2⟩)
 refine(hI.e e ls g).bd λv g1 h1=>(Al.behind λg0=>hI.e oe ls g0).bd λov g2 h2=>.vw (λq eq=>?_) λ_1=>?_
 . obtain rfl:=lW eq
   refine(Al.stillR (ls:=ls) (R:=λsh _1 _2 u σ=>SlP σ (v8 sh) u) λg0=>(eW (n:=n) hI).imp λsh g' h=>h q.2).bd λsh g3 h3=>(mX (n:=n)).bd λl' g4 h4=>.ok (top h1 λF σ u i ru=>?_)
   rw [assign_Subscript]
   refine(Wp.hold (h2 F σ u i ru)).bnd λy σ2 p2=>(Wp.hold (h3 F σ2 (i.post p2.po))).bnd λk σ3 p3=>.stand (fin (p2.po.trans p3.po) ?_)
   have i2:=i.post p2.po
   exact h4 F σ3 y k u (i2.post p3.po) (RV.post i2.gd p3.po (.inr (.inr p3.rv.1)) p2.rv.2) p3.rv.2 (RV.post i2.gd p3.po (.inr (.inr p3.rv.1)) p2.rv.1)
 . refine(Al.behind λg0=>hI.e ie ls g0).bd λkv g3 h3=>(mW (n:=n)).bd λl' g4 h4=>.ok (top h1 λF σ u i ru=>?_)
   rw [assign_Subscript]
   refine(Wp.hold (h2 F σ u i ru)).bnd λy σ2 p2=>(Wp.hold (h3 F σ2 y (i.post p2.po) p2.rv.2)).bnd λk σ3 p3=>.stand (fin (p2.po.trans p3.po) ?_)
   exact h4.2 F σ3 y k u ((i.post p2.po).post p3.po) p3.rv.1 p3.rv.2 (RV.post (i.post p2.po).gd p3.po (.inl h4.1) p2.rv.1)
end
end
end
section
open PySem PySem.W PyProof.Rows PySem.Calls
section
noncomputable def we(r:Nat)(it:Addr)(w:W)(σ:St)(xs:List AV):Prop:=∃ b cs dn is,w.bs[r]?=some b/\b.cv=some cs/\xs=List.map AV.int is/\cs=is.reverse++dn/\σ.h.IsRevIter it (σ.α (.comp r .cv)) ((is.length:Int)-1)
section
variable {w w':W}{σ σ':St}{g g' g1 g2 g3:G}{nv:Bool}{n:Nat}{π:Str->Addr}{o i v a b:AV}{ls ls':Loc}{I:Ev}{pos:Pos}{F:Fr'}{h':Heap}{t:Nat}
theorem zA{r:Nat}{b:BS}{cs:List Int}(gd:aj w σ)(hb:w.bs[r]?=some b)(hc:b.cv=some cs):∃ vs,σ.h.IsList (σ.α (.comp r .cv)) (List.toArray vs)/\IntsAre vs cs:=by
 refine dG (gd.cb (iz (c:=.cv) rfl hb (show b.cv.isSome=true by rw [hc]; rfl)) rfl hb) λo h1 xs h2 h3=>?_
 rw [Option.some.inj (h2.symm.trans hc)] at h3
 exact h3.at h1
theorem wf{i:Int}{r dn:List Int}:(r.reverse++(i::dn)).getD r.length 0=i:=by
 rw [List.getD_eq_getElem?_getD,List.getElem?_append_right (by simp)]; simp
theorem revIt(r:Nat)(it:Addr):iG it true (λ_1=>False) (we r it) where
 keep w σ w' σ' xs k e _ h x:=by
  refine x02 (e rfl) λe20_0 ea=>?_
  subst e20_0
  unfold we
  rw [ea]
  exact x.imp λb x=>x.imp λcs x=>x.imp λdn x=>x.imp λis x=>⟨x.1,x.2.1,x.2.2.1,x.2.2.2.1,x.2.2.2.2.at λo z=>h.trans z⟩
 next w σ x q A Q E gd h hS hq k:=by
  refine x45 h λb cs dn is hb hc e e1 hi=>?_
  cases is with
  | nil=>cases e
  | cons i is =>
   injection e with e2 e3
   subst e2 e3
   refine x12 (zA gd hb hc) λvs hl ia=>?_
   have e4:cs=is.reverse++(i::dn):=by rw [e1]; simp
   have hlt:is.length < vs.length:=by rw [ia.length,e4]; simp
   refine(IntsAre.at ia is.length hlt).elim λt ht=>?_
   rw [e4,wf] at ht
   have hi':σ.h.IsRevIter it (σ.α (.comp r .cv)) ((is.length:Nat):Int):=by
    rw [show(((i::is).length:Nat):Int)-1=((is.length:Nat):Int) by simp] at hi; exact hi
   exact wpAny_pyNext_rev_item hi' hl (by rw [List.getElem?_toArray,List.getElem?_eq_getElem hlt,ht]) λh' hj hb'=>k h' _ σ.s.toks (SameBut.but hb') ⟨b,cs,i::dn,is,hb,hc,rfl,e4,hj⟩ rfl ⟨t,rfl⟩ (hj.imp λo z=>z.1)
 fin w σ A Q E hh gd h k:=by
  refine x45 h λb cs dn is hb hc e e1 hi=>?_
  cases is with
  | nil=>exact wpAny_pyNext_rev_end hh hi k
  | cons i is=>cases e
 cell w σ xs v h c:=by
  refine jY h λb cs dn is hb hc e e1 o i1 i2 i3=>?_
  refine x12 c λo' c1 c2=>?_
  rw [<- Option.some.inj (i1.symm.trans c1),i3] at c2
  cases c2
theorem AN(hI:Snd n I){body:List Stmt}:Al (still (evS I body ls)) g (vy n true body ls g):=.still ((ff hI body ls _).imp λz g1 h hw F σ i=>(h F σ i).mono λf σ' r=>⟨⟨⟨r.po.mv,λz=>⟨z,(r.po.calm hw).2⟩⟩,r.ex⟩,λ_1=>(r.po.calm hw).2⟩)
theorem qP(hI:Snd n I){x:Str}{body:List Stmt}:∀ (xs:List Int) (ls:Loc) (g:G),Al (uj I x body xs ls) g λy g'=>mH n true x body y g' (xs.map .int) ls g
 | [],ls,g=>.ok ⟨rfl,rfl⟩
 | i::r,ls,g=>.asg λhm=>(AN hI).bd λz g2 h=>(kF (K:=λl g2 y g'=>mH n true x body y g' (r.map .int) (back ls l) g2) λl=>qP hI r (back ls l) g2).imp λy g' k=>⟨hm,z,g2,h,k⟩
theorem yd{a:AV}(h:qk a=true):a=.ty "reversed":=by
 unfold qk at h
 split at h
 . rw [beq_iff_eq.mp h]
 . cases h
theorem mY(p:au nv g σ g' σ'):σ.h.get? σ'.h.objs.size=none:=p.mv.fresh get?_size
theorem sH(hI:Snd n I){x:Str}{px:Pos}{c:Nc}{body:List Stmt}:Al (Internal.bd (I.e (.Name c.x c.px) ls) λfv=>wh (qk fv) (Internal.bd (evL I ls c.as) λvs=>Internal.bd (opt (one vs)) λv=>Internal.bd (opt (vC v)) λc=>wh (lQ c.2) (Internal.bd (be c.1 c.2) λxs=>uj I x body xs.reverse ls))) g (SOk n (.For (.Name x px) c.e body [] pos) ls g) :=
 (hI.e (.Name c.x c.px) ls g).bd λfv g1 h1=>.wh λhr=>(eE hI c.p c.as).bd λvs g2 h2=>.bdo λv hv=>.bdo λq hq=>.wh λhcv =>
  Al.bd (R:=λxs g'=>g'=g2/\∃ b,g2.w.bs[q.1]?=some b/\b.cv=some xs) (.ei (λ_1=>.getB λb hb=>.opt λxs hx=>⟨rfl,b,hb,hx⟩) λz=>nomatch hcv.symm.trans z) λcs g3 h3=>(qP hI cs.reverse ls g3).imp λy g' k F σ i=>by
  refine yaea h3 λe63_0 b hb hc=>?_
  clear h3
  subst e63_0
  obtain⟨r,cc⟩:=q
  obtain rfl:cc=.cv:=oA hcv
  have ev:Wp n σ (eval c.e F.env) (PR (ao ls.v) g σ g3 λu σ'=>∃ it,u=.ref it/\σ.h.get? it=none/\we r it g3.w σ' (cs.reverse.map .int)/\aO σ' g3.w it):=by
   show Wp n σ (do callWith c.p (<- eval (.Name c.x c.px) F.env) [] (backTo c.p (starEach c.as F.env)) []) _
   refine(h1 F σ i).seq λu σ1 p1 r1=>?_
   rw [yd hr] at r1
   obtain rfl:u=.type "reversed":=r1
   refine cw (h2.2 F.env) (iB nofun) (h2.1 F σ1 (i.post p1)) λus σ2 p2 r2=>?_
   rw [one_e hv] at r2
   refine x23 r2 λu _1 e72_2 ru e72_4=>?_
   clear r2
   subst e72_2
   subst e72_4
   refine x02 (rC ru hq) λlv e73_1=>?_
   subst e73_1
   refine x12 (zA p2.good hb hc) λws hl ia=>?_
   refine .any λA Q E rm k=>call_reversed_list hl (k _ (σ2.to _ σ2.s.toks) ⟨.stay p2.good rfl rfl λ_1 _2 e=>Heap.get?_push_of_some _ e,_,rfl,mY (p1.trans p2),⟨b,cs,[],cs.reverse,hb,hc,rfl,by simp,⟨_,Heap.get?_push_size _ rfl,rfl,?_⟩⟩,(aU p2.good get?_size).1,(aU p2.good get?_size).2,_,Heap.get?_push_size _ rfl⟩)
   rw [List.length_reverse,List.size_toArray,ia.length]; rfl
  rw [exec_For]
  refine .stand λA Q E rm k2=>ad (ev A _ E rm λu σ1 p1=>?_)
  refine x14 p1.rv λit e79_1 q1 q2 q3=>?_
  subst e79_1
  have hs:∀ x,foldedSetIterable c.e F.env x=pure x:=λx=>rfl
  rw [hs]
  refine ad (ae (ad (aq ?_)))
  refine x45 (id q2) λb' cs' dn is _1 _2 _3 _4 hit=>?_
  refine ad (ag (.of (wpAny_pyIter_revIter hit (eY ?_))))
  exact qK (F0:=F) (σ0:=σ) (g0:=g) (revIt r it) q1 rm.mark (λf σ' r=>k2 f σ' r) k ⟨p1.po.toS,λ_1=>.inl,rfl,i.post p1.po⟩ (λz=>(i.fd.xP it z).2.2.elim λo e=>nomatch e.symm.trans q1) q2 q3
theorem Wp.seqW{β γ:Type}{c:Sem β}{d:β->Sem γ}{R:β->St->Prop}{X:Addr->Prop}{K:γ->St->Prop}(x:Wp n σ c (PR nv g σ g1 R))(h:∀ b σ1,au nv g σ g1 σ1->R b σ1->Wp n σ1 (d b) λy σ'=>aL X g1 σ1 g' σ'/\K y σ'):Wp n σ (c >>= d) λy σ'=>aL X g σ g' σ'/\K y σ' :=
 x.bnd λb σ1 p=>(h b σ1 p.po p.rv).mono λ_1 _2 q=>⟨p.po.toS.trans (λ_1=>.inl) q.1,q.2⟩
theorem sI(hI:Snd n I){q:Ap}(hn:sl q.name "append"=true)(hl:(q.p2.endLine==q.p3.line)=true):Al (uA I ls q.y q.p1 q.a) g (SOk n (.Expr q.e pos) ls g) :=
 (hI.e (.Name q.y q.p1) ls g).bd λo g1 h1=>.bdo λz hz=>.bdo λxs hx=>(eE hI q.p3 [q.a]).bd λvs g2 h2=>.bdo λv hv=>.bdo λi hi=>.dem λob=>(.ok λF σ iv=>by
  rw [exec_Expr F.env q.e pos iv.notInter rfl]
  refine .stand (.bnd (Φ:=λu σ'=>aL F.X g σ g2 σ'/\u=.none/\Inv F (ls.put z (.own (xs++[i]))) g2.w σ') ?_ λu σ1 p=>?_)
  . show Wp n σ (eval (.Call (.Attribute (.Name q.y q.p1) q.name q.p2) [q.a] [] q.p3) F.env) _
    rw [iC rfl]
    refine Wp.seqW (h1 F σ iv) λu σ1 p1 r1=>.stand ?_
    rw [hZ hz] at r1
    obtain rfl:u=.ref (F.π z):=r1
    have i1:=iv.post p1
    unfold methodCall
    rw [kB (cnt:=[q.a].length+([]:List Keyword).length) (ks:=backToKw q.p3 (keywordEach [] F.env)) (h2.2 F.env) rfl (show 1<=21 by decide)]
    refine Wp.seqW (nv:=true) (g1:=g1) (R:=λpr σ2=>pr=(.builtin "list.append",[.ref (F.π z)])/\σ2=σ1) (.hold ?_) λpr σ2 p2 r2=>?_
    . refine dG (i1.own hx) λo e1 vs' e2 ia=>?_
      rw [bm.mp hn]
      exact .any λA Q E rm k=>getMethod_builtin ⟨o,e1,e2.c⟩ PySem.F.plainAttrs_list PySem.F.slot_list_append PySem.F.type_list_append (λb e=>by cases e; exact⟨o,e1,e2.d⟩) (k _ σ1 ⟨.refl i1.gd,rfl,rfl⟩)
    rw [r2.1,r2.2]
    dsimp only
    rw [oS hl]
    refine .bnd (Wp.pure (Φ:=λp σ2=>p=q.p3/\σ2=σ1) ⟨rfl,rfl⟩) λp σ2 e=>?_
    rw [e.1,e.2]
    intro A Q E rm k
    refine jp (P:=K0.In) (h2.2 F.env) (iB nofun) (h2.1 F σ1 i1 A _ E rm λus σ3 p3=>⟨p3.po.good.base,?_⟩)
    have i3:=i1.post p3.po
    have r3:=p3.rv
    rw [one_e hv] at r3
    refine x23 r3 λui _1 e115_2 ru e115_4=>?_
    clear r3
    subst e115_2
    subst e115_4
    refine(rI ru hi).elim λti e116_1=>?_
    subst e116_1
    refine dG (i3.own hx) λo e1 ws e2 ia=>?_
    refine e2.s.elim λm hd=>?_
    refine .of (dm e1 e2.c hd (by rw [show ws.toArray.size=xs.length from ia.length]; exact ob) λh' sb hn=>?_)
    refine eX hn λo' n1 n2 n3 n' n4=>?_
    have fin:=i3.ownL2 (g':=g2) (t:=σ3.s.toks) hx (SameBut.but sb) n1 (ys:=xs++[i]) ⟨ws++[.int i ti],by simpa using e2.upd n2 n3 n4,ia.append (.cons i ti .nil)⟩ rfl rfl
    exact k .none (σ3.to h' σ3.s.toks) ⟨p3.po.toS.trans (λ_1=>.inl) fin.1,rfl,fin.2⟩
  . rw [p.2.1,dropValue_plain (by nofun)]
    exact .pure (.of p.1 rfl p.2.2))
end
end
end
section
open PySem PySem.W PyProof.Rows PySem.Calls
section
noncomputable def piN(π:Str->Addr)(x:Str)(D:Addr):Str->Addr:=λy=>if y=x then D else π y
section
variable {w w':W}{σ σ':St}{g g' g1 g2 g3:G}{nv:Bool}{n:Nat}{π:Str->Addr}{v a b:AV}{ls ls':Loc}{I:Ev}{pos:Pos}{F:Fr'}{h':Heap}{t:Nat}
theorem mZ{x:Str}{a:AV}{l:List (Str×LV)}(h:ol l=true)(e:ah x l=some (.v a)):aX a=true:=f8 h e
theorem LR.piN{x y:Str}{D:Addr}{v:LV}{u:Value}(hne:y≠x)(hv:∀ a,v=.v a->aX a=true)(l:LR σ w π y v u):LR σ w (piN π x D) y v u:=by
 have e:Internal.piN π x D y=π y:=if_neg hne
 cases v with
 | v a=>exact RV.pi (hv a rfl) l
 | own xs=>unfold LR at l ⊢; rw [e]; exact l
 | ownB b=>unfold LR at l ⊢; rw [e]; exact l
noncomputable abbrev Fr'.more(F:Fr')(x:Str)(D:Addr):Fr':=⟨F.env,piN F.π x D,λb=>F.X b\/b=D⟩
theorem Inv.piN{x:Str}{D:Addr}(i:Inv F ls w σ)(hx:ls.get x=none)(hr:ol ls.v=true)(hD:aO σ w D):Inv (F.more x D) ls w σ:=by
 have ne:∀ {y v},ah y ls.v=some v->y≠x:=λe z=>by rw [z] at e; exact nomatch (show ah x ls.v=none from hx).symm.trans e
 have pi:∀ {y v},ah y ls.v=some v->Internal.piN F.π x D y=F.π y:=λe=>if_neg (ne e)
 have lr:∀ {y v u},ah y ls.v=some v->LR σ w F.π y v u->LR σ w (Internal.piN F.π x D) y v u:=λe l=>l.piN (ne e) λa q=>mZ hr (q▸e)
 exact⟨i.gd,⟨i.fs.fn,i.fs.gl,i.fs.bl,i.fs.kinds,i.fs.dom,.inl i.fs.locB,i.fs.celL,λy c e k=>.inl (i.fs.celB y c e k),i.fs.celI,λy v e o=>.inl (by show F.X (Internal.piN F.π x D y); rw [pi e]; exact i.fs.ownB y v e o),λy z v u e o e' o' q=>i.fs.ownI y z v u e o e' o' ((pi e).symm.trans (q.trans (pi e')))⟩,
  ⟨λb h=>h.elim (i.fd.xP b) λe=>e▸hD,i.fd.celP,i.fd.loc.imp λm h=>⟨h.1,λy v e k=>(h.2 y v e k).imp λu z=>⟨z.1,lr e z.2⟩⟩,λy c v e hk hy=>(i.fd.cel y c v e hk hy).imp λu z=>⟨z.1,lr hy z.2⟩⟩⟩
noncomputable def wg(h:Heap)(D:Addr):LV->Prop
 | .own xs=>∃ o,h.get? D=some o/\bS o xs
 | .ownB b=>h.get? D=some (cB b)
 | .v _1=>False
theorem wg.ex{h:Heap}{D:Addr}:∀{lv:LV},wg h D lv->∃ o,h.get? D=some o
 | .own _1,z=>z.imp λo z=>z.1
 | .ownB _1,z=>⟨_,z⟩
theorem wg.lr{D:Addr}{x:Str}(e:π x=D):∀{lv:LV},wg σ.h D lv->LR σ w π x lv (.ref D)
 | .own _1,z=>by unfold LR; rw [e]; exact⟨rfl,z⟩
 | .ownB _1,z=>by unfold LR; rw [e]; exact⟨rfl,z⟩
noncomputable def FrI(n:Nat)(e:Expr)(ls:Loc)(g:G)(lv:LV)(g':G):Prop:=∀ F σ,Inv F ls g.w σ->Wp n σ (eval e F.env) (PR (ao ls.v) g σ g' λu σ'=>∃ D,u=.ref D/\σ.h.get? D=none/\aO σ' g'.w D/\wg σ'.h D lv)
theorem jM{x:Str}{lv:LV}{e:Expr}{p:Pos}(hc:(!cz e)=true)(h:FrI n e ls g lv g1):Al (kl ls x lv) g1 (SOk n (.Assign [.Name x p] e pos) ls g):=.wh λhq=>.asg λhm=>.ok λF σ i=>by
 refine x02 (aw hq) λhx hr=>?_
 rw [exec_Assign_Name F.env x p e pos (aZ hc)]
 refine .stand ((h F σ i).bnd λu σ1 p1=>?_)
 refine x14 p1.rv λD e59_1 hn hP ho=>?_
 subst e59_1
 have i1:=(i.post p1.po).piN (Option.isNone_iff_eq_none.mp hx) hr hP
 have pix:piN F.π x D x=D:=if_pos rfl
 have hDX:¬ F.X D:=λz=>(i.fd.xP D z).2.2.elim λo e=>nomatch e.symm.trans hn
 have fit:iy (F.more x D) ls x lv:=λ_1=>⟨.inr pix,λz v hz e o q=>hDX (by
  have q:piN F.π x D z=piN F.π x D x:=q
  rw [pix,show piN F.π x D z=F.π z from if_neg hz] at q
  exact q▸i.fs.ownB z v e o)⟩
 refine .stand ((fM (F:=F.more x D) hm i1 (ho.lr pix) fit).bnd λ_1 σ2 z=>.pure ⟨p1.po.toS.trans (λa y=>y.imp id λ(e:a=D)=>by rw [e]; exact hn) z.1,_,_,λa y=>y.imp id λ(e:a=D)=>by rw [e]; exact hn,rfl,z.2.1.fs,z.2.1.fd⟩)
theorem eH(p:au nv g σ g1 σ')(ew:g2.w=g1.w):σ.h.get? σ'.h.objs.size=none/\¬ σ'.S σ'.h.objs.size/\∀ q,live g2.w q->σ'.α q≠σ'.h.objs.size:=⟨mY p,(aU p.good get?_size).1,ew▸(aU p.good get?_size).2⟩
theorem nc{h:Heap}{vs:List Value}{xs:List Int}(i:IntsAre vs xs):∃ o,(h.push (listO vs)).get? h.objs.size=some o/\bS o xs:=⟨_,Heap.get?_push_size _ rfl,vs,⟨rfl,rfl,_,rfl⟩,i⟩
theorem fS(hI:Snd n I){e:Expr}:Al (db I ls e) g λxs g'=>(!cz e)=true/\FrI n e ls g (.own xs) g':=.vw (λq he=>.wh λhq=>.ok (by
 obtain⟨es,pos⟩:=q
 obtain rfl:es=[]:=by cases es <;> first | rfl | cases hq
 rw [p9 he]
 refine⟨rfl,λF σ i=>?_⟩
 show Wp n σ (do standAt pos; newList (<- spliced (backTo pos (starEach [] F.env)))) _
 refine .stand (.bnd (Φ:=λus σ1=>us=[]/\σ1=σ) (Wp.pure ⟨rfl,rfl⟩) λus σ1 z=>?_)
 rw [z.1,z.2]
 have nw:=eH (au.refl (nv:=true) i.gd) (g2:=g) rfl
 exact .any λA Q E rm k=>wpAny_newList (k _ (σ.to _ σ.s.toks) ⟨.stay i.gd rfl rfl λ_1 _2 e=>Heap.get?_push_of_some _ e,_,rfl,nw.1,⟨nw.2.1,nw.2.2,_,Heap.get?_push_size _ rfl⟩,nc .nil⟩)))
 λ_1=>.bdo λq he=>by
  obtain⟨l,op,r,pos⟩:=q
  cases op <;> first | exact .no | skip
  refine .bdo λq1 h1=>(hI.e l ls g).bd λa g1 ha=>.bdo λxs hx=>.bdo λx h2=>(hI.e r ls g1).bd λv g2 hv=>.bdo λk hk=>.dem λob=>(.ok ?_)
  rw [Aj he]
  refine⟨rfl,λF σ i=>?_⟩
  rw [eval_BinOp]
  refine(ha F σ i).seq λva σ1 p1 r1=>(Wp.hold (hv F σ1 (i.post p1))).bnd λvb σ2 p2=>.stand (.oper ?_)
  have r1':=RV.post (i.post p1).gd p2.po (.inl (by rw [lR hx]; rfl)) r1
  refine x24 (rIs r1' hx) λb us e89_2 _1 la ia=>?_
  subst e89_2
  refine(rI p2.rv hk).elim λt e90_1=>?_
  subst e90_1
  rw [one_e h2] at ia
  refine(IntsAre.one_e ia).elim λt e92_1=>?_
  subst e92_1
  have nw:=eH (p1.trans p2.po) (g2:=g2) rfl
  refine .any λA Q E rm kk=>lE la (Int.le_trans (by decide) ob.1) (Int.lt_of_le_of_lt ob.2 (by decide)) (by rw [List.length_singleton,Nat.one_mul]; exact Int.toNat_le.mpr ob.2) (kk _ (σ2.to _ σ2.s.toks) ⟨p2.po.trans (.stay p2.po.good rfl rfl λ_1 _2 e=>Heap.get?_push_of_some _ e),_,rfl,nw.1,⟨nw.2.1,nw.2.2,_,Heap.get?_push_size _ rfl⟩,nc (IntsAre.rep _)⟩)
theorem o7(hI:Snd n I){x:Str}{e:Expr}{p:Pos}:Al (Internal.bd (db I ls e) λxs=>kl ls x (.own xs)) g (SOk n (.Assign [.Name x p] e pos) ls g):=(fS hI).bd λxs g1 h=>jM h.1 h.2
theorem wi{a:AV}(h:om a=true):a=.ty "bytearray":=by
 unfold om at h
 split at h
 . rw [beq_iff_eq.mp h]
 . cases h
theorem nf(hI:Snd n I){q:Nc}:Al (uC I ls (.Name q.x q.px) q.as) g λk g'=>FrI n q.e ls g (.ownB (List.replicate k.toNat 0)) g' :=
 (hI.e (.Name q.x q.px) ls g).bd λfv g1 h1=>.wh λhr=>(eE hI q.p q.as).bd λvs g2 h2=>.bdo λv hv=>.bdo λk hk=>.dem λob=>.ok λF σ i=>by
  show Wp n σ (do callWith q.p (<- eval (.Name q.x q.px) F.env) [] (backTo q.p (starEach q.as F.env)) []) _
  refine(h1 F σ i).seq λu σ1 p1 r1=>?_
  rw [wi hr] at r1
  obtain rfl:u=.type "bytearray":=r1
  refine cw (h2.2 F.env) (iB nofun) (h2.1 F σ1 (i.post p1)) λus σ2 p2 r2=>?_
  rw [one_e hv] at r2
  refine x23 r2 λu _1 e109_2 ru e109_4=>?_
  clear r2
  subst e109_2
  subst e109_4
  refine(rI ru hk).elim λt e110_1=>?_
  subst e110_1
  have nw:=eH (p1.trans p2) (g2:=g2) rfl
  exact λA Q E rm kk=>Af rm.2.2.2.1 ob.1 ob.2 λh' tk old new=>kk _ (σ2.to h' tk) ⟨.stay p2.good rfl rfl old,_,rfl,nw.1,⟨nw.2.1,nw.2.2,_,new⟩,new⟩
theorem wj(hI:Snd n I){x:Str}{q:Nc}{p:Pos}:Al (qj I ls x (.Name q.x q.px) q.as) g (SOk n (.Assign [.Name x p] q.e pos) ls g):=(nf hI).bd λk g1 h=>jM rfl h
end
end
end
section
open PySem PySem.W PyProof.Rows PySem.Calls
section
open Classical in
noncomputable def αN(α:Key->Addr)(q0:Key)(D:Addr):Key->Addr:=λq=>if q=q0 then D else α q
theorem αN_ne{α:Key->Addr}{q q0:Key}{D:Addr}(h:q≠q0):αN α q0 D q=α q:=if_neg h
theorem αN_eq{α:Key->Addr}{q0:Key}{D:Addr}:αN α q0 D q0=D:=if_pos rfl
section
variable {w w':W}{σ σ' σ0:St}{g g' g0 g1 g2 g3:G}{nv:Bool}{n:Nat}{π:Str->Addr}{v a:AV}{ls ls':Loc}{I:Ev}{pos:Pos}{F:Fr'}{h':Heap}{t:Nat}{X:Addr->Prop}{r:Nat}{c:Cp}{b b':BS}{D:Addr}
structure ng(σ:St)(r:Nat)(c:Cp)(b b':BS):Prop where
 v:aI c=true
 s:∀ d,d≠c->ce b' d=ce b d
 k:∀ d o,d≠c->dc σ r b d o->dc σ r b' d o
theorem ng.live(p:ng σ r c b b')(e:w.bs[r]?=some b):∀ q,q≠.comp r c->(live (w.setB r b') q↔live w q)
 | .bld r',_1=>by
  show((w.setB r b').bs[r']?).isSome=true↔(w.bs[r']?).isSome=true
  by_cases h:r=r'
  . rw [<- h,aM e,e]; exact .rfl
  . rw [bq h]
 | .comp r' d,hq=>by
  show bH (w.setB r b') r' d (aI d)↔bH w r' d (aI d)
  cases aI d with
  | false=>exact .rfl
  | true =>
   unfold bH
   by_cases h:r=r'
   . rw [<- h,aM e,e]
     rw [<- h] at hq
     show ce b' d=true↔ce b d=true
     rw [p.s d λz=>hq (z▸rfl)]
   . rw [bq h]
 | .mine,_1=>.rfl
 | .box _1,_2=>.rfl
theorem bR.at{α α':Key->Addr}{b:BS}{s:Nat->Option Value}(h:bR α r b s)(e:∀ d,aI d=true->α' (.comp r d)=α (.comp r d)):bR α' r b s:=⟨by rw [e _ rfl]; exact h.s0,by rw [e _ rfl]; exact h.s1,h.s2,h.s3,h.s4,h.s5,h.s6,h.s7,by rw [e _ rfl]; exact h.s8,h.s9,by rw [e _ rfl]; exact h.s10⟩
noncomputable abbrev St.part(σ:St)(q0:Key)(D:Addr)(h:Heap)(t:Nat):St:=⟨σ.S,αN σ.α q0 D,{ σ.s with heap:=h,toks:=t }⟩
theorem ng.rep(p:ng σ r c b b')(e:w.bs[r]?=some b)(kp:bW σ (σ.part (.comp r c) D h' t)){o:Obj}:∀ q,q≠.bld r->q≠.comp r c->Rep σ w q o->Rep (σ.part (.comp r c) D h' t) (w.setB r b') q o
 | .bld r',n1,_1,x=>by
  have ne:r≠r':=λz=>n1 (z▸rfl)
  refine x12 x λb2 x1 x2=>?_
  exact⟨b2,(bq ne).trans x1,x2.c,x2.p,x2.z,x2.d.imp λd z=>⟨z.1,z.2.1,kp.same _ _ z.2.1 z.2.2⟩,x2.s.at λd _1=>αN_ne λz=>ne (Key.comp.inj z).1.symm⟩
 | .comp r' d,_1,n2,x=>by
  have x:b9 σ w r' d o (aI d):=x
  show b9 _ (w.setB r b') r' d o (aI d)
  cases hd:aI d with
  | false=>rw [hd] at x; exact⟨x.1,x.2.imp λm z=>⟨z.1,z.2.keep kp⟩⟩
  | true =>
   rw [hd] at x
   refine x12 x λb2 e2 x=>?_
   by_cases z:r=r'
   . rw [<- z] at n2 e2 x ⊢
     rw [Option.some.inj (e2.symm.trans e)] at x
     exact⟨b',aM e,(p.k d o (λy=>n2 (y▸rfl)) x).keep kp⟩
   . exact⟨b2,(bq z).trans e2,x.keep kp⟩
 | .mine,_1,_2,x=>x.elim λm x=>x.elim λtt x=>⟨m,tt,x.1,by
  have k:∀ d,aI d=false->(σ.part (.comp r c) D h' t).α (.comp 0 d)=σ.α (.comp 0 d):=λd hd=>αN_ne λz=>by rw [(Key.comp.inj z).2,p.v] at hd; cases hd
  have x:=x.2
  unfold bp at x ⊢
  rw [k _ rfl,k _ rfl,k _ rfl,k _ rfl,k _ rfl]; exact x⟩
 | .box r',_1,_2,x=>x.imp λy z=>⟨z.1,z.2.imp λu z=>z.imp λt z=>⟨RD.keep kp (a:=.ints _) z.1,z.2⟩⟩
theorem ng.post(p:ng σ r c b b')(q:aL X g0 σ0 g σ)(e:g.w.bs[r]?=some b)(hDn:σ0.h.get? D=none\/X D)(hP:aO σ g.w D){oD oB:Obj}(hD:σ.h.get? D=some oD)(hR:dc σ r b' c oD)(hXB:¬ X (σ.α (.bld r)))(hb:But (σ.α (.bld r)) σ.h h')(hB:h'.get? (σ.α (.bld r))=some oB)
 (hO:f7 (σ.part (.comp r c) D h' t) r b' oB) (hl:ce b' c=true):aL X g0 σ0 ⟨g.w.setB r b',true⟩ (σ.part (.comp r c) D h' t):=by
 have gd:=q.mv.good
 have l:Internal.live g.w (.bld r):=by show(g.w.bs[r]?).isSome=true; rw [e]; rfl
 have kp:bW σ (σ.part (.comp r c) D h' t):=⟨λ_1 h=>h,λa o h e=>hb a o (λz=>gd.apart _ l (z▸h)) e⟩
 have lv:=λq' z=>p.live (w:=g.w) e q' z
 have ne:∀ a,σ.S a->a≠σ.α (.bld r):=λa h z=>gd.apart _ l (z▸h)
 have hDB:D≠σ.α (.bld r):=λz=>hP.2.1 _ l z.symm
 refine⟨⟨q.mv.sub,λa o e0 hx no=>hb a o (λz=>(q.mv.anew _ l).elim (λy=>no _ y.1 (y.2.symm.trans z.symm)) λy=>y.elim (λy=>nomatch (z▸e0).symm.trans y) hXB) (q.mv.pres a o e0 hx no),λa o e0=>(q.mv.grow a o e0).elim λo' e'=>(Classical.em (a=σ.α (.bld r))).elim (λz=>⟨oB,z▸hB⟩) λz=>⟨o',hb a o' z e'⟩,q.mv.fnew,λq' l'=>?_,λq' l' v'=>?_,
  ⟨λa o h=>hb a o (ne a (gd.baseS a o h)) (gd.base a o h),gd.baseS,λa h=>(gd.frz a h).imp λo z=>hb a o (ne a h) z,λq' l'=>?_,λq1 q2 l1 l2 z=>?_,λq' l'=>?_⟩,q.mv.gens,q.mv.os⟩,nofun⟩
 . by_cases z:q'=.comp r c
   . exact .inr (by rw [z]; show σ0.h.get? (αN σ.α (.comp r c) D (.comp r c))=none\/X (αN σ.α (.comp r c) D (.comp r c)); rw [αN_eq]; exact hDn)
   . have y:=q.mv.anew q' ((lv q' z).mp l')
     show(_/\αN σ.α (.comp r c) D q'=_)\/(σ0.h.get? (αN σ.α (.comp r c) D q')=none\/X (αN σ.α (.comp r c) D q'))
     rw [αN_ne z]; exact y
 . refine x02 (q.mv.astab q' l' v') λz1 z2=>?_
   have z:q'≠.comp r c:=λz=>by rw [z] at v'; exact nomatch (show aI c=false from v').symm.trans p.v
   exact⟨(lv q' z).mpr z1,(αN_ne z).trans z2⟩
 . by_cases z:q'=.comp r c
   . rw [z]
     exact⟨oD,by show h'.get? (αN σ.α (.comp r c) D (.comp r c))=_; rw [αN_eq]; exact hb D oD hDB hD,fP p.v (hR.keep kp) (aM e)⟩
   . by_cases z2:q'=.bld r
     . rw [z2]
       exact⟨oB,by show h'.get? (αN σ.α (.comp r c) D (.bld r))=_; rw [αN_ne (show Key.bld r≠.comp r c from nofun)]; exact hB,b',aM e,hO⟩
     . refine x12 (gd.at_ q' ((lv q' z).mp l')) λo' e1 e2=>?_
       exact⟨o',by show h'.get? (αN σ.α (.comp r c) D q')=_; rw [αN_ne z]; exact hb _ o' (λy=>z2 (gd.inj _ _ ((lv q' z).mp l') l y)) e1,p.rep e kp q' z2 z e2⟩
 . have z:αN σ.α (.comp r c) D q1=αN σ.α (.comp r c) D q2:=z
   by_cases z1:q1=.comp r c <;> by_cases z2:q2=.comp r c
   . rw [z1,z2]
   . rw [z1,αN_eq,αN_ne z2] at z; exact absurd z.symm (hP.2.1 q2 ((lv q2 z2).mp l2))
   . rw [z2,αN_eq,αN_ne z1] at z; exact absurd z (hP.2.1 q1 ((lv q1 z1).mp l1))
   . rw [αN_ne z1,αN_ne z2] at z; exact gd.inj _ _ ((lv q1 z1).mp l1) ((lv q2 z2).mp l2) z
 . show ¬ σ.S (αN σ.α (.comp r c) D q')
   by_cases z:q'=.comp r c
   . rw [z,αN_eq]; exact hP.1
   . rw [αN_ne z]; exact gd.apart q' ((lv q' z).mp l')
theorem RV.smv{u:Value}(x:aj w σ)(m:SMv X w σ w' σ')(hx:∀ b,σ.S b->¬ X b)(ha:vol a=false)(h:RV σ w π a u):RV σ' w' π a u:=by
 cases a with
 | key q=>exact⟨(m.astab q h.1 ha).1,h.2.trans (by rw [(m.astab q h.1 ha).2])⟩
 | lref y=>exact h
 | _=>exact RD.keep ⟨m.sub,λa o f e=>m.pres a o e (hx a f) λq l e'=>x.apart q l (e'▸f)⟩ h
theorem Inv.smv(i:Inv F ls w σ)(m:SMv X w σ w' σ')(hv:ao ls.v=true)(hX:∀ b,F.X b->¬ X b)(hS:∀ b,σ.S b->¬ X b)(hC:∀ b v,X b->¬ σ.h.IsCell b v):Inv F ls w' σ':=by
 have lr:∀ {x v u},ah x ls.v=some v->LR σ w F.π x v u->LR σ' w' F.π x v u:=λhx l=>l.stay (λa e r=>r.smv i.gd m hS (ip hv (e▸hx))) λo=>((i.fd.xP _ (i.fs.ownB _ _ hx o)).smv (hX _ (i.fs.ownB _ _ hx o)) m).2
 have cel:∀ {x c},F.env.cells.lookup x=some c->uI ls x->¬ X c:=λe d z=>(i.fd.celP _ _ e d).2.elim λv q=>hC _ v z q
 have cell:∀ {x c v},F.env.cells.lookup x=some c->uI ls x->σ.h.IsCell c v->σ'.h.IsCell c v:=λe d z=>z.imp λo q=>⟨((i.fd.celP _ _ e d).1.smv (cel e d) m).2.trans q.1,q.2⟩
 exact⟨m.good,i.fs,λb h=>((i.fd.xP b h).smv (hX b h) m).1,λx c e d=>⟨((i.fd.celP x c e d).1.smv (cel e d) m).1,(i.fd.celP x c e d).2.imp λv=>cell e d⟩,
  i.fd.loc.imp λmm h=>⟨h.1.imp λo e=>e.imp λes e=>e.imp λep e=>⟨((i.fd.xP _ i.fs.locB).smv (hX _ i.fs.locB) m).2.trans e.1,e.2⟩,λx v e k=>(h.2 x v e k).imp λu z=>⟨z.1,lr e z.2⟩⟩,λx c v e hk hx=>(i.fd.cel x c v e hk hx).imp λu z=>⟨cell e (i.fs.dom x v hx).1 z.1,lr hx z.2⟩⟩
structure sJ(r i:Nat)(c:Cp)(b b':BS)(P:Obj->Prop):Prop where
 p:∀ σ,ng σ r c b b'
 l:ce b' c=true
 s:∀ α s D,bR α r b s->bR (αN α (.comp r c) D) r b' (upS i (.ref D) s)
 r:∀ σ o,P o->dc σ r b' c o
theorem jN{o:Expr}{name:Str}{p:Pos}{i:Nat}{P:Obj->Prop}(ho:EOk n o ls g1 v g2)(hv:vB v=some r)(eb:g2.w.bs[r]?=some b)(hi:dI name gk=some i)(ft:sJ r i c b b' P)
 (i1:Inv F ls g1.w σ') (p1:aL X g σ g1 σ') (hDn:σ.h.get? D=none\/X D) (hX:∀ a,X a->a=D) (hPr:aO σ' g1.w D){oD:Obj} (hD:σ'.h.get? D=some oD) (hDP:P oD) :
 Wp n σ' (assign (.Attribute o name p) F.env (.ref D)) λ_1 σ3=>aL X g σ ⟨g2.w.setB r b',true⟩ σ3:=by
 show Wp n σ' (do
  let ov <- holding [.ref D] (eval o F.env)
  standAt p.atName
  holding [.ref D,ov] (setAttr ov name (.ref D))
  release [.ref D,ov] []) _
 refine(Wp.hold (ho F σ' i1)).bnd λu σ2 p2=>.stand (.bnd (Φ:=λ_1 σ3=>aL X g σ ⟨g2.w.setB r b',true⟩ σ3) (.hold ?_) λ_1 σ3 z=>λA Q E rm q=>cn (q () σ3 z))
 refine x02 (rB p2.rv hv) λl e129_1=>?_
 subst e129_1
 have hP2:=hPr.mv p2.po.mv
 refine x12 (p2.po.good.bld eb l) λoB e1 h=>?_
 refine(qD hi).elim λq f=>?_
 refine .any λA Q E rm k=>kz p2.po.good (h.inst e1) f (k () (σ2.part (.comp r c) D _ (σ2.s.toks+1)) (ng.post (ft.p σ2) (p1.trans (λ_1=>.inl) p2.po.toS) eb hDn hP2.1 (hP2.2.trans hD) (ft.r _ _ hDP) (λz=>hP2.1.2.1 _ l (hX _ z)) (SameBut.but (Heap.SameBut.update ..)) (Heap.get?_update_self _ e1 (mz h.p)) ?_ ft.l))
 refine⟨h.c,h.p,jE h.z f.l,h.d.imp λd z=>⟨z.1,z.2.1,?_⟩,(ft.s σ2.α _ D h.s).of λj=>qE h.z f.l j⟩
 exact((Heap.SameBut.update ..).2 d λ(e:d=σ2.α (.bld r))=>p2.po.good.apart _ l (e▸z.2.1)).trans z.2.2
noncomputable def FrP(n:Nat)(e:Expr)(ls:Loc)(g:G)(P:Obj->Prop)(g':G):Prop:=∀ F σ,Inv F ls g.w σ->Wp n σ (eval e F.env) (PR (ao ls.v) g σ g' λu σ'=>∃ D oD,u=.ref D/\σ.h.get? D=none/\aO σ' g'.w D/\σ'.h.get? D=some oD/\P oD)
theorem fj{e o:Expr}{name:Str}{p:Pos}{i:Nat}{P:Obj->Prop}(hc:(!cz e)=true)(h:FrP n e ls g P g1)(ho:EOk n o ls g1 v g2)(hnv:ao ls.v=true)(hv:vB v=some r)(eb:g2.w.bs[r]?=some b)(hi:dI name gk=some i)(ft:sJ r i c b b' P) :
 SOk n (.Assign [.Attribute o name p] e pos) ls g (.nx,ls) ⟨g2.w.setB r b',true⟩:=λF σ iv=>by
 rw [plainObj_exec_Assign_Attribute _ _ _ _ _ (aZ hc)]
 refine .stand ((h F σ iv).bnd λu σ1 p1=>?_)
 refine x25 p1.rv λD oD e141_2 hn hP hD hDP=>?_
 subst e141_2
 refine(jN (X:=λ_1=>False) ho hv eb hi ft (iv.post p1.po) p1.po.toS (.inl hn) (λ_1 z=>z.elim) hP hD hDP).bnd λ_1 σ2 z=>.pure (.of ?_ rfl (iv.smv z.mv hnv (λ_1 _2=>id) (λ_1 _2=>id) λ_1 _2 z=>z.elim))
 exact⟨⟨z.mv.sub,λa o e _1=>z.mv.pres a o e id,z.mv.grow,z.mv.fnew,λq l=>(z.mv.anew q l).imp id λy=>y.imp id False.elim,z.mv.astab,z.mv.good,z.mv.gens,z.mv.os⟩,z.calm⟩
theorem ye{b:BS}{xs:List Int}:sJ r 1 .cv b { b with cv:=some xs } λo=>bS o xs where
 p σ:=⟨rfl,λd h=>(by cases d <;> first | rfl | exact(h rfl).elim),λd o h=>(by cases d <;> first | exact id | exact(h rfl).elim)⟩
 l:=rfl
 s α s D h:=have k:∀ d,d≠.cv->αN α (.comp r .cv) D (.comp r d)=α (.comp r d):=λd hd=>αN_ne λz=>hd (Key.comp.inj z).2
  ⟨by rw [k .bytes nofun]; exact h.s0,by rw [αN_eq]; rfl,h.s2,h.s3,h.s4,h.s5,h.s6,h.s7,by rw [k .ss nofun]; exact h.s8,h.s9,by rw [k .vt nofun]; exact h.s10⟩
 r σ o h:=⟨xs,rfl,h⟩
theorem yf{b:BS}:sJ r 10 .vt b { b with vt:=[] } λo=>o={ cls:=.type "dict",data:=.dict #[] } where
 p σ:=⟨rfl,λd h=>(by cases d <;> first | rfl | exact(h rfl).elim),λd o h=>(by cases d <;> first | exact id | exact(h rfl).elim)⟩
 l:=rfl
 s α s D h:=have k:∀ d,d≠.vt->αN α (.comp r .vt) D (.comp r d)=α (.comp r d):=λd hd=>αN_ne λz=>hd (Key.comp.inj z).2
  ⟨by rw [k .bytes nofun]; exact h.s0,by rw [k .cv nofun]; exact h.s1,h.s2,h.s3,h.s4,h.s5,h.s6,h.s7,by rw [k .ss nofun]; exact h.s8,h.s9,by rw [αN_eq]; rfl⟩
 r σ o h:=by
  rw [h]
  exact⟨[],⟨rfl,rfl,rfl⟩,⟨#[],_,rfl,rfl⟩,λx hx=>(nomatch hx),List.nodup_nil,rfl⟩
theorem yg{b:BS}:sJ r 8 .ss b { b with ss:=some [] } λo=>o={ cls:=.type "dict",data:=.dict #[] } where
 p σ:=⟨rfl,λd h=>(by cases d <;> first | rfl | exact(h rfl).elim),λd o h=>(by cases d <;> first | exact id | exact(h rfl).elim)⟩
 l:=rfl
 s α s D h:=have k:∀ d,d≠.ss->αN α (.comp r .ss) D (.comp r d)=α (.comp r d):=λd hd=>αN_ne λz=>hd (Key.comp.inj z).2
  ⟨by rw [k .bytes nofun]; exact h.s0,by rw [k .cv nofun]; exact h.s1,h.s2,h.s3,h.s4,h.s5,h.s6,h.s7,by rw [αN_eq]; rfl,h.s9,by rw [k .vt nofun]; exact h.s10⟩
 r σ o h:=by
  rw [h]
  exact⟨[],rfl,[],⟨#[],_,⟨rfl,rfl,rfl⟩,rfl,(λe he=>by simp at he),.nil,List.nodup_nil⟩,rfl⟩
theorem yh{b:BS}{x:List UInt8}:sJ r 0 .bytes b { b with bytes:=x } λo=>o=cB x where
 p σ:=⟨rfl,λd h=>(by cases d <;> first | rfl | exact(h rfl).elim),λd o h=>(by cases d <;> first | exact id | exact(h rfl).elim)⟩
 l:=rfl
 s α s D h:=have k:∀ d,d≠.bytes->αN α (.comp r .bytes) D (.comp r d)=α (.comp r d):=λd hd=>αN_ne λz=>hd (Key.comp.inj z).2
  ⟨by rw [αN_eq]; rfl,by rw [k .cv nofun]; exact h.s1,h.s2,h.s3,h.s4,h.s5,h.s6,h.s7,by rw [k .ss nofun]; exact h.s8,h.s9,by rw [k .vt nofun]; exact h.s10⟩
 r σ o h:=h
theorem wk(hI:Snd n I){e o:Expr}{name:Str}{p:Pos}(hn:sl name "current_vtable"=true):Al (Internal.bd (db I ls e) λxs=>Internal.bd (I.e o ls) λv=>Internal.bd (opt (vB v)) λr=>wh (ao ls.v) (Internal.bd (getB r) λb=>Internal.bd (putB r { b with cv:=some xs }) λ_1=>ok (.nx,ls))) g (SOk n (.Assign [.Attribute o name p] e pos) ls g) :=
 (fS hI).bd λxs g1 h=>(hI.e o ls g1).bd λv g2 ho=>.bdo λr hv=>.wh λhnv=>.getB λb hb=>.putB (.ok (fj h.1 (P:=λo=>bS o xs) (λF σ i=>(h.2 F σ i).imp λu σ' _1 z=>z.elim λD z=>z.2.2.2.elim λoD y=>⟨D,oD,z.1,z.2.1,z.2.2.1,y⟩) ho hnv hv hb (by rw [bm.mp hn]; kernel_rfl) ye))
theorem wl{e:Expr}(h:ik e=true):∃ p,e=.Dict [] [] p:=by
 unfold ik at h
 cases hx:qa e with
 | none=>rw [hx] at h; cases h
 | some q =>
  rw [hx] at h
  obtain⟨a,b,p⟩:=q
  rw [xi hx]
  cases a <;> cases b <;> first | exact⟨p,rfl⟩ | cases h
theorem kI{p:Pos}:FrP n (.Dict [] [] p) ls g (λo=>o={ cls:=.type "dict",data:=.dict #[] }) g:=λF σ i=>by
 have nw:=eH (au.refl (nv:=true) i.gd) (g2:=g) rfl
 exact .any λA Q E rm k=>wpAny_Dict_empty (k _ (σ.to _ σ.s.toks) ⟨.stay i.gd rfl rfl λ_1 _2 e=>Heap.get?_push_of_some _ e,_,_,rfl,nw.1,⟨nw.2.1,nw.2.2,_,Heap.get?_push_size _ rfl⟩,Heap.get?_push_size _ rfl,rfl⟩)
theorem o8(hI:Snd n I){e o:Expr}{name:Str}{p:Pos}(he:ik e=true):Al (Internal.bd (I.e o ls) λv=>Internal.bd (opt (vB v)) λr=>wh (ao ls.v) (Internal.bd (getB r) λb=>ei (sl name "vtables") (Internal.bd (putB r { b with vt:=[] }) λ_1=>ok (.nx,ls)) (wh (sl name "sharedStrings") (Internal.bd (putB r { b with ss:=some [] }) λ_1=>ok (.nx,ls))))) g (SOk n (.Assign [.Attribute o name p] e pos) ls g):=by
 refine(wl he).elim λdp e187_1=>?_
 subst e187_1
 exact(hI.e o ls g).bd λv g2 ho=>.bdo λr hv=>.wh λhnv=>.getB λb hb=>.ei (λhn=>.putB (.ok (fj rfl kI ho hnv hv hb (by rw [bm.mp hn]; kernel_rfl) yf))) λ_1=>.wh λhn=>.putB (.ok (fj rfl kI ho hnv hv hb (by rw [bm.mp hn]; kernel_rfl) yg))
end
end
end
section
open PySem PySem.W PyProof.Rows PySem.Calls
section
section
variable {w w':W}{σ σ' σ0:St}{g g' g0 g1 g2 g3:G}{nv:Bool}{n:Nat}{π:Str->Addr}{v a:AV}{ls ls':Loc}{I:Ev}{pos:Pos}{F:Fr'}{h':Heap}{t:Nat}{X:Addr->Prop}
theorem fk{α:Type}{x y:Str}{v:α}{l:List (Str×α)}:ah y (dJ x l)=some v->y≠x/\ah y l=some v:=by
 induction l with
 | nil=>exact λh=>xNS h
 | cons p r ih =>
  intro h
  have h:ah y (cond (sq x p.1) (dJ x r) (p::dJ x r))=some v:=h
  cases hz:sq x p.1 with
  | true =>
   rw [hz] at h
   refine x02 (ih h) λa b=>⟨a,bn.trans ?_⟩
   rw [<- bZ.mp hz,uF a]; exact b
  | false =>
   rw [hz] at h
   have h:=bn.symm.trans h
   rw [bn]
   cases hy:sq y p.1 with
   | true=>rw [hy] at h; exact⟨λe=>mj hz (e▸bZ.mp hy),h⟩
   | false=>rw [hy] at h; exact ih h
theorem ga{p:LV->Bool}{x:Str}:∀{l:List (Str×LV)},eN p l=true->eN p (dJ x l)=true
 | [],_1=>rfl
 | a::r,h=>by
  show eN p (cond (sq x a.1) (dJ x r) (a::dJ x r))=true
  cases sq x a.1
  . exact gF (bJ h).1 (ga (bJ h).2)
  . exact ga (bJ h).2
theorem o9{x:Str}{l:List (Str×LV)}(h:ao l=true):ao (dJ x l)=true:=ga h
theorem Inv.drop{z:Str}{x:List UInt8}(i:Inv F ls w σ)(hz:ls.get z=some (.ownB x)):Inv ⟨F.env,F.π,λb=>F.X b/\b≠F.π z⟩ ⟨dJ z ls.v,ls.sc⟩ w σ:=by
 have oz:σ.h.get? (F.π z)=some (cB x):=(i.ownL hz).elim λu y=>y.2
 have ns:¬ jD (cB x):=λy=>y.2 _ _ rfl
 have i1:=i.sub (l':=dJ z ls.v) λy v e=>(fk e).2
 exact⟨i.gd,⟨i1.fs.fn,i1.fs.gl,i1.fs.bl,i1.fs.kinds,i1.fs.dom,⟨i.fs.locB,λe=>i.fd.loc.elim λm h=>ns (Ns.noSeq (e▸h.1) _ oz)⟩,i1.fs.celL,λy c e k=>⟨i.fs.celB y c e k,λq=>(i.fd.celP y c e (by show ah y ls.sc≠none; rw [k]; nofun)).2.elim λv hv=>ns (Cell.noSeq (q▸hv) _ oz)⟩,i1.fs.celI,
  λy v e o=>⟨i1.fs.ownB y v e o,λq=>(fk e).1 (i.fs.ownI y z v _ (fk e).2 o hz rfl q)⟩,i1.fs.ownI⟩,⟨λb h=>i.fd.xP b h.1,i1.fd.celP,i1.fd.loc,i1.fd.cel⟩⟩
theorem nh(hI:Snd n I){e o:Expr}{name:Str}{p:Pos}(hn:sl name "Bytes"=true):Al (mf I ls e o) g (SOk n (.Assign [.Attribute o name p] e pos) ls g) :=
 .bdo λq hq=>(hI.e e ls g).bd λyv g1 h1=>.bdo λz hz=>.bdo λx hx=>(hI.e o ls g1).bd λv g2 ho=>.bdo λr hv=>.wh λhnv=>.getB λb hb=>.putB (.ok λF σ i=>by
  rw [plainObj_exec_Assign_Attribute _ _ _ _ _ (aZ (by rw [dw hq]; rfl))]
  refine .stand ((h1 F σ i).bnd λu σ1 p1=>?_)
  have r1:=p1.rv
  rw [hZ hz] at r1
  obtain rfl:u=.ref (F.π z):=r1
  have i1:=i.post p1.po
  have hz':=pU hx
  have hX:=i.fs.ownB z _ hz' rfl
  have oz:σ.h.get? (F.π z)=some (cB x):=(i.ownL hz').elim λu y=>y.2
  have oz1:σ1.h.get? (F.π z)=some (cB x):=(i1.ownL hz').elim λu y=>y.2
  refine(jN (X:=λa=>a=F.π z) ho hv hb (by rw [bm.mp hn]; kernel_rfl) (yh (x:=x)) i1 p1.po.toS (.inr rfl) (λ_1=>id) (i1.fd.xP _ hX) oz1 rfl).bnd λ_1 σ2 y=>.pure ?_
  have fr:=(i.drop hz').smv y.mv (o9 hnv) (λb hb e=>hb.2 e) (λb hb (e:b=F.π z)=>(i.fd.xP _ hX).1 (e▸hb)) λb v (e:b=F.π z) hc=>Cell.noSeq (e▸hc) _ oz |>.2 _ _ rfl
  exact⟨aL.trans (X:=F.X) (λa e=>.inl (show F.X a from (show a=F.π z from e)▸hX)) (au.toS (.refl (nv:=true) i.gd)) y,F.π,_,λa h=>.inl h.1,rfl,fr.fs,fr.fd⟩)
inductive fp:List Expr->List AV->Loc->Loc->Prop
 | nil (ls:Loc):fp [] [] ls ls
 | cons {x:Str}{p:Pos}{r:List Expr}{v:AV}{q:List AV}{ls ls':Loc} (m:ls.may x=true) (h:fp r q (ls.put x (.v v)) ls'):fp (.Name x p::r) (v::q) ls ls'
theorem ni:∀{ts:List Expr}{vs:List AV}{ls:Loc},Al (binds ts vs ls) g λls' g'=>g'=g/\fp ts vs ls ls'
 | [],[],ls=>.ok ⟨rfl,.nil ls⟩
 | [],_1::_,_=>.no
 | _1::_,[],_=>.no
 | t::r,v::q,ls=>.bdo λx hx=>.asg λhm=>(ni (ts:=r) (vs:=q)).imp λl' g' h=>⟨h.1,by rw [dw hx]; exact .cons hm h.2⟩
theorem sK{x:Str}{p:Pos}{r:List Expr}{env:Env}:assignEach (.Name x p::r) env=(false,assign (.Name x p) env)::assignEach r env:=rfl
theorem fp.shape{env:Env}{ts:List Expr}{vs:List AV}{ls ls':Loc}(h:fp ts vs ls ls'):(assignEach ts env).length=vs.length/\(assignEach ts env).findIdx? (·.1)=none:=by
 induction h with
 | nil=>exact⟨rfl,rfl⟩
 | cons m h ih =>
  rw [sK]
  exact⟨congrArg Nat.succ ih.1,by rw [List.findIdx?_cons,if_neg Bool.false_ne_true,ih.2]; rfl⟩
theorem wm{ts:List Expr}{vs:List AV}{ls ls':Loc}(h:fp ts vs ls ls'):∀{us:List Value}{σ:St},Inv F ls g.w σ->RDs σ vs us->Wp n σ (assignInOrder ((assignEach ts F.env).map (·.2)) us) λ_1 σ'=>aL F.X g σ g σ'/\Inv F ls' g.w σ':=by
 induction h with
 | nil ls=>exact λ{us σ} i r=>by rw [show us=[] from r]; exact .pure ⟨au.toS (.refl (nv:=true) i.gd),i⟩
 | @cons x p r v q ls ls' m h ih =>
  intro us σ i r
  refine x23 r λu us' e80_2 ru rs=>?_
  clear r
  subst e80_2
  show Wp n σ (do holding us' (assign (.Name x p) F.env u); assignInOrder ((assignEach _ F.env).map (·.2)) us') _
  rw [PySem.assign_Name]
  exact(Wp.hold (.stand (fM (lv:=.v v) m i ((RV.of (RD.data ru)).mpr ru) nofun))).bnd λ_1 σ1 z=>(ih z.2.1 (RDs.keep (z.1.keep i.gd λa=>i.xS) rs)).mono λ_1 σ2 y=>⟨z.1.trans (λ_1=>.inl) y.1,y.2⟩
theorem wn(hI:Snd n I){ts:List Expr}{c:Nat}{e:Expr}{p:Pos}(hc:(!(cz e)&&(xTup e).isNone)=true):Al (Internal.bd (I.e e ls) λv=>Internal.bd (opt (vTp v)) λvs=>Internal.bd (binds ts vs ls) λls'=>ok (.nx,ls')) g (SOk n (.Assign [.Tuple ts c p] e pos) ls g) :=
 (hI.e e ls g).bd λv g1 h1=>.bdo λvs hv=>ni.bd λl' g2 hb=>.ok λF σ i=>by
  obtain⟨rfl,hb⟩:=hb
  have real:exec (.Assign [.Tuple ts c p] e pos) F.env=(do
   standAt pos
   let v <- eval e F.env
   assign (.Tuple ts c p) F.env v
   pure .next):=by cases e <;> first | rfl | cases hc
  rw [real]
  refine .stand ((h1 F σ i).seqS λu σ1 p1 r1=>?_)
  rw [tS hv] at r1
  obtain⟨t,us,rfl,st,la,ru⟩:=r1
  have i1:=i.post p1
  have sh:=hb.shape (env:=F.env)
  refine .bnd (Φ:=λ_1 σ'=>aL F.X g2 σ1 g2 σ'/\Inv F l' g2.w σ') (λA Q E rm k=>?_) λ_1 σ2 z=>.pure (.of z.1 rfl z.2)
  rw [arm_assign_Tuple]
  refine ad (aq ?_)
  unfold unpack
  rw [sh.1.trans ((RDs.length ru).symm.trans (show us.length=us.toArray.size from rfl)),sh.2]
  refine ad (ag (.of (wpAny_unpackItems_tuple rm.2.2.1 la λh' hb'=>?_)))
  have old:∀ a o,σ1.h.get? a=some o->h'.get? a=some o:=λa o e=>hb' a o (Nat.ne_of_lt (Heap.lt_size e)) e
  have p2:au (ao ls.v) g2 σ1 g2 (σ1.to h' σ1.s.toks):=.stay i1.gd rfl rfl old
  exact wm hb (i1.post p2) (RDs.keep (.tok old) ru) A Q E rm λb σ' y=>k b σ' ⟨p2.toS.trans (λ_1=>.inl) y.1,y.2⟩
theorem au.add{N:Key->Prop}{w':W}{α':Key->Addr}(p:au nv g0 σ0 g σ)(lv:∀ q,live w' q↔live g.w q\/N q)(hN:∀ q,N q->¬ live g.w q)(hα:∀ q,¬ N q->α' q=σ.α q)
 (hP:∀ q,N q->aO σ g.w (α' q)) (hinj:∀ q q',N q->N q'->α' q=α' q'->q=q') (hrep:∀ q,N q->∃ o,σ.h.get? (α' q)=some o/\Rep ⟨σ.S,α',σ.s⟩ w' q o)
 (hold:∀ q o,live g.w q->Rep σ g.w q o->Rep ⟨σ.S,α',σ.s⟩ w' q o) (hnew:∀ q,N q->σ0.h.get? (α' q)=none):au nv g0 σ0 ⟨w',true⟩ ⟨σ.S,α',σ.s⟩:=by
 have gd:=p.good
 have a0:∀ q,live g.w q->α' q=σ.α q:=λq l=>hα q λy=>hN q y l
 refine⟨⟨p.mv.sub,p.mv.pres,p.mv.grow,p.mv.fnew,λq l=>((lv q).mp l).elim (λz=>?_) λz=>.inr (hnew q z),λq l v=>?_,⟨gd.base,gd.baseS,gd.frz,λq l=>((lv q).mp l).elim (λz=>?_) (hrep q),λq q' l l' z=>?_,λq l=>((lv q).mp l).elim (λy=>?_) λy=>(hP q y).1⟩,p.mv.gens,p.mv.os⟩,nofun,λv q l=>?_⟩
 . show(_/\α' q=_)\/σ0.h.get? (α' q)=none
   rw [a0 q z]; exact p.mv.anew q z
 . refine x02 (p.mv.astab q l v) λz1 z2=>?_
   exact⟨(lv q).mpr (.inl z1),(a0 q z1).trans z2⟩
 . refine x12 (gd.at_ q z) λo h1 h2=>?_
   exact⟨o,by show σ.h.get? (α' q)=_; rw [a0 q z]; exact h1,hold q o z h2⟩
 . have z:α' q=α' q':=z
   rcases(lv q).mp l with a | a <;> rcases(lv q').mp l' with b | b
   . rw [a0 q a,a0 q' b] at z; exact gd.inj q q' a b z
   . rw [a0 q a] at z; exact absurd z ((hP q' b).2.1 q a)
   . rw [a0 q' b] at z; exact absurd z.symm ((hP q a).2.1 q' b)
   . exact hinj q q' a b z
 . show ¬ σ.S (α' q)
   rw [a0 q y]; exact gd.apart q y
 . refine x02 (p.held v q l) λz1 z2=>?_
   exact⟨(lv q).mpr (.inl z1),(a0 q z1).trans z2⟩
theorem pa{α:Type}{l:List α}{x:α}:(l++[x])[l.length]?=some x:=by simp
theorem kJ{α:Type}{l:List α}{x:α}{r:Nat}(h:r < l.length):(l++[x])[r]?=l[r]?:=List.getElem?_append_left h
theorem gu{b:Bx}:∀ q,live ⟨w.bs,w.mn,w.bx++[b]⟩ q↔live w q\/q=.box w.bx.length
 | .bld r=>⟨.inl,λh=>h.elim id nofun⟩
 | .comp r c=>⟨.inl,λh=>h.elim id nofun⟩
 | .mine=>⟨.inl,λh=>h.elim id nofun⟩
 | .box r=>by
  show((w.bx++[b])[r]?).isSome=true↔(w.bx[r]?).isSome=true\/_
  simp; lia
theorem wo{b:Bx}{A:Addr}:∀{q:Key}{o:Obj},live w q->Rep σ w q o->Rep ⟨σ.S,αN σ.α (.box w.bx.length) A,σ.s⟩ ⟨w.bs,w.mn,w.bx++[b]⟩ q o
 | .bld r,o,_1,z=>z.imp λb z=>⟨z.1,z.2.c,z.2.p,z.2.z,z.2.d,z.2.s.at λd _1=>αN_ne nofun⟩
 | .comp r c,o,_1,z=>by
  have z:b9 σ w r c o (aI c):=z
  have kp:bW σ ⟨σ.S,αN σ.α (.box w.bx.length) A,σ.s⟩:=⟨λ_1 h=>h,λ_1 _2 _3 e=>e⟩
  show b9 _ ⟨w.bs,w.mn,w.bx++[b]⟩ r c o (aI c)
  cases hc:aI c <;> rw [hc] at z
  . exact b9.keep (d:=false) kp z
  . exact b9.keep (d:=true) kp z
 | .mine,o,_1,z=>z.imp λm z=>z.imp λt z=>⟨z.1,by
  have k:∀ c,(⟨σ.S,αN σ.α (.box w.bx.length) A,σ.s⟩:St).α (.comp 0 c)=σ.α (.comp 0 c):=λc=>αN_ne nofun
  have z:=z.2
  unfold bp at z ⊢
  rw [k,k,k,k,k]; exact z⟩
 | .box r,o,l,z=>z.imp λx z=>⟨(kJ ((List.getElem?_eq_some_iff.mp z.1).1)).trans z.1,z.2.imp λu y=>y.imp λt y=>⟨RD.keep (σ:=σ) (σ':=⟨σ.S,αN σ.α (.box w.bx.length) A,σ.s⟩) (a:=.ints _) ⟨λ_1 h=>h,λ_1 _2 _3 e=>e⟩ y.1,y.2⟩⟩
theorem sM(hI:Snd n I){x:Str}{es:List Expr}{lp p:Pos}:Al (uB I ls x es) g (SOk n (.Assign [.Name x p] (.List es lp) pos) ls g) :=
 (oG hI lp es g).bd λvs g1 h1=>.bdo λpq hp=>.bdo λxs hx=>.bdo λi hi=>λy e=>(Al.setW (.asg λhm=>.ok λF σ iv=>by
  rw [exec_Assign_Name F.env x p _ pos (aZ rfl)]
  have ev:Wp n σ (eval (.List es lp) F.env) (ER (ao ls.v) g σ (.key (.box g1.w.bx.length)) ⟨⟨g1.w.bs,g1.w.mn,g1.w.bx++[⟨xs,i⟩]⟩,true⟩ F.π):=by
   show Wp n σ (do standAt lp; newList (<- spliced (backTo lp (starEach es F.env)))) _
   refine .stand ((h1 F σ iv).bnd λus σ1 p1=>?_)
   have r1:=p1.rv
   rw [jC hp] at r1
   refine jo r1 λu _1 e156_2 ru v _2 e156_6 rv e156_8=>?_
   clear r1
   subst e156_2
   subst e156_6
   subst e156_8
   refine(rI rv hi).elim λt e163_1=>?_
   subst e163_1
   have ru':RD σ1 (.ints xs) u:=by rw [lR hx] at ru; exact ru
   have p2:au (ao ls.v) g σ g1 (σ1.to (σ1.h.push (listO [u,.int i t])) σ1.s.toks):=p1.po.trans (.stay p1.po.good rfl rfl λ_1 _2 e=>Heap.get?_push_of_some _ e)
   have nw:=eH p1.po (g2:=g1) rfl
   refine .any λA Q E rm k=>wpAny_newList (k _ ⟨σ1.S,αN σ1.α (.box g1.w.bx.length) σ1.h.objs.size,_⟩ ⟨p2.add (N:=λq=>q=.box g1.w.bx.length) gu (λq e=>?_) (λq hq=>αN_ne hq) (λq e=>?_) (λq q' e e' _1=>e.trans e'.symm) (λq e=>?_) (λq o l z=>?_) λq e=>?_,?_⟩)
   . rw [e]
     show ¬ ((g1.w.bx[g1.w.bx.length]?).isSome=true)
     simp
   . rw [e,αN_eq]
     exact⟨nw.2.1,nw.2.2,_,Heap.get?_push_size _ rfl⟩
   . rw [e]
     refine⟨_,by rw [αN_eq]; exact Heap.get?_push_size _ rfl,⟨xs,i⟩,pa,u,t,RD.keep (σ:=σ1) (σ':=⟨σ1.S,αN σ1.α (.box g1.w.bx.length) σ1.h.objs.size,{ σ1.s with heap:=σ1.h.push (listO [u,.int i t]),toks:=σ1.s.toks }⟩) (a:=.ints xs) ⟨λ_1 z=>z,λ_1 _2 _3 z=>Heap.get?_push_of_some _ z⟩ ru',rfl,rfl,_,rfl⟩
   . exact wo l z
   . rw [e,αN_eq]; exact nw.1
   . exact⟨(gu _).mpr (.inr rfl),by show _=Value.ref (αN _ _ _ _); rw [αN_eq]⟩
  exact .stand (ev.seqS λu σ1 p1 r1=>.stand (gI hm (iv.post p1) r1 nofun))):Al (Internal.bd (Internal.setW ⟨g1.w.bs,g1.w.mn,g1.w.bx++[⟨xs,i⟩]⟩) λ_1=>Internal.bd (asg ls x (.v (.key (.box g1.w.bx.length)))) λls'=>ok (Fl.nx,ls')) g1 (SOk n (.Assign [.Name x p] (.List es lp) pos) ls g)) y e
end
end
end
section
open PySem PySem.W PyProof.Rows PySem.Calls
section
noncomputable def kq(q:Key)(p:Key×Addr):Bool:=@decide (q=p.1) (Classical.propDecidable _)
theorem pb{q:Key}{p:Key×Addr}:kq q p=true↔q=p.1:=@decide_eq_true_iff _ (Classical.propDecidable _)
noncomputable def αL(α:Key->Addr)(L:List (Key×Addr))(q:Key):Addr:=((L.find? (kq q)).map (·.2)).getD (α q)
theorem αL_ne{α:Key->Addr}{q:Key}{L:List (Key×Addr)}(h:q ∉ L.map (·.1)):αL α L q=α q:=by
 unfold αL
 have e:L.find? (kq q)=none:=List.find?_eq_none.mpr λp hp e=>h (by rw [pb.mp e]; exact List.mem_map_of_mem (f:=Prod.fst) hp)
 rw [e]
 rfl
theorem αL_mem{α:Key->Addr}{q:Key}{L:List (Key×Addr)}(h:q∈L.map (·.1)):(q,αL α L q)∈L:=by
 unfold αL
 cases e:L.find? (kq q) with
 | none=>exact x12 (List.mem_map.mp h) λp h1 h2=>absurd (pb.mpr h2.symm) (List.find?_eq_none.mp e p h1)
 | some p =>
  show(q,p.2)∈L
  rw [pb.mp (List.find?_some e)]
  exact List.mem_of_find?_eq_some e
theorem kK{α β:Type}{f:α->β}{x y:α}:∀{L:List α},(L.map f).Nodup->x∈L->y∈L->f x=f y->x=y
 | z::r,nd,hx,hy,e=>by
  rw [List.map_cons,List.nodup_cons] at nd
  rcases List.mem_cons.mp hx with hx | hx <;> rcases List.mem_cons.mp hy with hy | hy
  . rw [hx,hy]
  . exact absurd (show f z∈r.map f by rw [<- hx,e]; exact List.mem_map_of_mem hy) nd.1
  . exact absurd (show f z∈r.map f by rw [<- hy,<- e]; exact List.mem_map_of_mem hx) nd.1
  . exact kK nd.2 hx hy e
theorem αL_at{α:Key->Addr}{q:Key}{a:Addr}{L:List (Key×Addr)}(nd:(L.map (·.1)).Nodup)(h:(q,a)∈L):αL α L q=a :=
 (Prod.mk.inj (kK nd (αL_mem (List.mem_map_of_mem (f:=Prod.fst) h)) h rfl)).2
section
variable {w w':W}{σ σ' σ0:St}{g g' g0 g1 g2 g3:G}{nv:Bool}{n:Nat}{π:Str->Addr}{v a:AV}{ls ls':Loc}{I:Ev}{pos:Pos}{F:Fr'}{h':Heap}{t:Nat}{X:Addr->Prop}
structure MSt(F:Fr')(ls:Loc)(g0:G)(σ0:St)(g:G)(σ:St)(L:List (Addr×Obj)):Prop where
 i:Inv F ls g.w σ
 p:au (ao ls.v) g0 σ0 g σ
 h:∀ x∈L,σ0.h.get? x.1=none/\aO σ g.w x.1/\σ.h.get? x.1=some x.2
 nd:(L.map (·.1)).Nodup
section
variable {L:List (Addr×Obj)}{A:Around}{Q:Value->Shared->Prop}{E:Value->Shared->Prop}
theorem MSt.step(m:MSt F ls g0 σ0 g σ L)(q:au (ao ls.v) g σ g1 σ'):MSt F ls g0 σ0 g1 σ' L:=⟨m.i.post q,m.p.trans q,λx hx=>⟨(m.h x hx).1,((m.h x hx).2.1.mv q.mv).1,((m.h x hx).2.1.mv q.mv).2.trans (m.h x hx).2.2⟩,m.nd⟩
theorem MSt.push{o:Obj}(m:MSt F ls g0 σ0 g σ L)(ho:o.isFreed=false):MSt F ls g0 σ0 g (σ.to (σ.h.push o) t) ((σ.h.objs.size,o)::L):=by
 have q:au (ao ls.v) g σ g (σ.to (σ.h.push o) t):=.stay m.i.gd rfl rfl λ_1 _2 e=>Heap.get?_push_of_some _ e
 have s:=m.step q
 have nw:=eH m.p (g2:=g) rfl
 refine⟨s.i,s.p,λx hx=>(List.mem_cons.mp hx).elim (λe=>?_) (s.h x),List.nodup_cons.mpr ⟨λhm=>?_,m.nd⟩⟩
 . rw [e]; exact⟨nw.1,⟨nw.2.1,nw.2.2,_,Heap.get?_push_size _ ho⟩,Heap.get?_push_size _ ho⟩
 . refine x12 (List.mem_map.mp hm) λx hx e=>?_
   have:=(m.h x hx).2.2
   rw [e] at this
   exact absurd (Heap.lt_size this) (Nat.lt_irrefl _)
theorem fq{x:Str}{kk pos}(m:MSt F ls g0 σ0 g σ L)(h:∀ σ t,MSt F ls g0 σ0 g σ L->Q (.str x t) σ.s):wpC M0 A (eval (.Constant (.str x) kk pos) F.env) Q E σ.s:=.of (wpAny_Constant_str (h (σ.tok _) _ (m.step (.tok m.i.gd rfl rfl))))
theorem AO{x:Int}{kk pos}(m:MSt F ls g0 σ0 g σ L)(h:∀ σ t,MSt F ls g0 σ0 g σ L->Q (.int x t) σ.s):wpC M0 A (eval (.Constant (.int x) kk pos) F.env) Q E σ.s:=.of (wpAny_Constant_int (h (σ.tok _) _ (m.step (.tok m.i.gd rfl rfl))))
theorem gL{pos}(m:MSt F ls g0 σ0 g σ L)(h:∀ σ D,MSt F ls g0 σ0 g σ ((D,listO [])::L)->Q (.ref D) σ.s):wpC M0 A (eval (.List [] pos) F.env) Q E σ.s:=by
 show wpC _ _ (do standAt pos; newList (<- spliced (backTo pos (starEach [] F.env)))) _ _ _
 refine ad (aq (ad (.of (show wpAny _ _ (spliced []) _ _ _ from wpAny_pure ?_))))
 exact .of (wpAny_newList (h (σ.to _ σ.s.toks) _ (m.push rfl)))
theorem yi{pos}(m:MSt F ls g0 σ0 g σ L)(h:∀ σ D,MSt F ls g0 σ0 g σ ((D,{ cls:=.type "dict",data:=.dict #[] })::L)->Q (.ref D) σ.s):wpC M0 A (eval (.Dict [] [] pos) F.env) Q E σ.s:=.of (wpAny_Dict_empty (h (σ.to _ σ.s.toks) _ (m.push rfl)))
end
end
section
variable {A:Around}{E:Value->Shared->Prop}{s:Shared}{env:Env}
theorem bu{k v:Expr}{ks:List (Option Expr)}{vs:List Expr}{pos:Pos}{Q:List (Value×Value)->Shared->Prop}
 (h:wpC M0 A (eval k env) (λkv s₁=>wpC M0 A (eval v env) (λvv s₂=>wpC M0 A (evalPairs (pairTrees ks vs env pos)) (λr s₃=>Q ((kv,vv)::r) s₃) E s₂) E s₁) E s):wpC M0 A (evalPairs (pairTrees (some k::ks) (v::vs) env pos)) Q E s:=by
 show wpC _ A (evalPairs ((eval k env,do let x <- eval v env; standAt pos; pure x)::pairTrees ks vs env pos)) Q E s
 rw [evalPairs]
 refine ad (ai h (λkv s₁ h₁=>?_) λ_1 _2 e=>e)
 refine ad (ag (ad (ai h₁ (λvv s₂ h₂=>ad (aq (ae ?_))) λ_1 _2 e=>e)))
 exact ad (ag (ai h₂ (λvs s₃ h₃=>ae h₃) λ_1 _2 e=>e))
theorem dictC{keys:List (Option Expr)}{values:List Expr}{pos:Pos}{Q:Value->Shared->Prop}
 (hall:keys.all (·.isSome)=true) (hl:keys.length=values.length) (h0:keys≠[]) (hlen:keys.length<=15)
 (h:wpC M0 A (evalPairs (pairTrees keys values env pos)) (λvs s₁=>∃ kvs,Carries gz vs kvs/\kvs.length<=15/\s₁.heap.DictOf gz s.heap.objs.size [] /\
  ∀ h',h'.DictOf gz s.heap.objs.size (merged [] kvs)->Heap.SameBut s.heap.objs.size s₁.heap h'->Q (.ref s.heap.objs.size) { s₁ with heap:=h',toks:=s₁.toks+vs.length }) E
  { s with heap:=s.heap.push { cls:=.type "dict",data:=.dict #[] } }):wpC M0 A (eval (.Dict keys values pos) env) Q E s:=by
 have hn:=pairTrees_length keys values env pos hall hl
 have hne:pairTrees keys values env pos≠[]:=λhe=>by rw [he] at hn; exact h0 (List.length_eq_zero_iff.mp hn.symm)
 rw [arm_eval_Dict,zip_pairTrees keys values env pos hall hl,dictDisplay_pairs _ hne (by rw [hn]; exact Nat.lt_of_le_of_lt hlen (by decide))]
 refine ad (aq (ad ?_))
 unfold subDict
 refine ad (.of <| wpAny_alloc ?_)
 refine ad (ag ?_)
 rw [if_pos (by rw [hn]; exact hlen)]
 refine ad (ai h (λvs s₁ h₁=>?_) λ_1 _2 e=>e)
 refine x14 h₁ λkvs hc hvl hm hQ=>?_
 have hsz:([]:List (Str×Value)).length+kvs.length<=sizeLine:=by rw [sizeLine_eq,List.length_nil,Nat.zero_add]; exact Nat.le_trans hvl (by decide)
 exact ag (ad (.of <| wpAny_storeAll (knd:=gz) vs kvs [] s₁ _ hc hm hsz λh' hm' hs'=>ae (ae (ae (hQ h' hm' hs')))))
end
noncomputable def bB:List Key:=[.comp 0 .made,.comp 0 .shr,.comp 0 .stand,.comp 0 .rows,.comp 0 .rear,.mine]
noncomputable def mK:Key->Bool
 | .mine=>true
 | .comp r c=>Nat.beq r 0&&!aI c
 | _1=>false
theorem iO{q:Key}(h:q∈bB):mK q=true:=cj (f:=mK) (l:=bB) rfl q h
theorem mem_c{c:Cp}(h:aI c=false):Key.comp 0 c∈bB:=by
 cases c <;> first | exact xTF h | exact .head _ | exact .tail _ (.head _) | exact .tail _ (.tail _ (.head _)) | exact .tail _ (.tail _ (.tail _ (.head _))) | exact .tail _ (.tail _ (.tail _ (.tail _ (.head _))))
theorem kM{r:Nat}{c:Cp}(h:Key.comp r c∈bB):r=0/\aI c=false:=⟨Nat.eq_of_beq_eq_true (aw (iO h)).1,(Bool.not_eq_true' _).mp (aw (iO h)).2⟩
theorem mK_el{P:Key->Prop}(h1:P (.comp 0 .made))(h2:P (.comp 0 .shr))(h3:P (.comp 0 .stand))(h4:P (.comp 0 .rows))(h5:P (.comp 0 .rear))(h6:P .mine)(q:Key)(h:q∈bB):P q:=by
 unfold bB at h
 simp only [List.mem_cons,List.not_mem_nil,or_false] at h
 rcases h with h | h | h | h | h | h <;> rw [h] <;> assumption
theorem sN{w:W}{m:Mn}(hm:w.mn=none)(q:Key):live ⟨w.bs,some m,w.bx⟩ q↔live w q\/q∈bB:=by
 cases q with
 | bld r=>exact⟨.inl,λh=>h.elim id λz=>xFT (iO z)⟩
 | box r=>exact⟨.inl,λh=>h.elim id λz=>xFT (iO z)⟩
 | mine=>exact⟨λ_1=>.inr (.tail _ (.tail _ (.tail _ (.tail _ (.tail _ (.head _)))))),λ_1=>rfl⟩
 | comp r c =>
  show bH _ r c (aI c)↔bH w r c (aI c)\/_
  cases hc:aI c with
  | true=>exact⟨.inl,λh=>h.elim id λz=>xTF (hc.symm.trans (kM z).2)⟩
  | false=>exact⟨λh=>.inr (h.1▸mem_c hc),λh=>h.elim (λz=>⟨z.1,rfl⟩) λz=>⟨(kM z).1,rfl⟩⟩
section
variable {w w':W}{σ σ' σ0:St}{L:List (Key×Addr)}
theorem sO{m:Mn}(hL:L.map (·.1)=bB)(hm:w.mn=none):∀{q:Key}{o:Obj},live w q->Rep σ w q o->Rep ⟨σ.S,αL σ.α L,σ.s⟩ ⟨w.bs,some m,w.bx⟩ q o
 | .bld r,o,_1,z=>z.imp λb z=>⟨z.1,z.2.c,z.2.p,z.2.z,z.2.d,z.2.s.at λd hd=>αL_ne (by rw [hL]; exact λy=>xFT ((kM y).2.symm.trans hd))⟩
 | .comp r c,o,l,z=>by
  have z:b9 σ w r c o (aI c):=z
  show b9 _ ⟨w.bs,some m,w.bx⟩ r c o (aI c)
  cases hc:aI c <;> rw [hc] at z
  . obtain⟨_,m',e,_⟩:=z; rw [hm] at e; cases e
  . have y:b9 (⟨σ.S,αL σ.α L,σ.s⟩:St) w r c o true:=b9.keep (σ:=σ) (σ':=⟨σ.S,αL σ.α L,σ.s⟩) ⟨λ_1 h=>h,λ_1 _2 _3 e=>e⟩ z
    exact y
 | .mine,o,_1,z=>z.elim λm' z=>z.elim λt z=>by rw [hm] at z; cases z.1
 | .box r,o,l,z=>z.imp λx z=>⟨z.1,z.2.imp λu y=>y.imp λt y=>⟨RD.keep (σ:=σ) (σ':=⟨σ.S,αL σ.α L,σ.s⟩) (a:=.ints _) ⟨λ_1 h=>h,λ_1 _2 _3 e=>e⟩ y.1,y.2⟩⟩
end
section
variable {w w':W}{σ σ' σ0:St}{g g' g0 g1 g2 g3:G}{nv:Bool}{n:Nat}{π:Str->Addr}{v a:AV}{ls ls':Loc}{I:Ev}{pos:Pos}{F:Fr'}{h':Heap}{t:Nat}
theorem mineNd{α:Key->Addr}{m:Mn}{t:Tok}:((bp α m t).map (·.1)).Nodup:=by
 show([Str.ofString "rear",Str.ofString "align",Str.ofString "rows",Str.ofString "stand",Str.ofString "shared",Str.ofString "made",Str.ofString "forced"]:List Str).Nodup
 decide +kernel
theorem yj:bB.Nodup:=by simp [bB]
theorem qQ:({ cls:=.type "dict",data:=.dict #[] }:Obj).IsDictOf gz []:=⟨#[],_,⟨rfl,rfl,rfl⟩,rfl,(λe he=>by simp at he),.nil,List.nodup_nil⟩
theorem au.lone2{D:Addr}(p:au nv g0 σ0 g σ)(hn:σ0.h.get? D=none)(hP:aO σ g.w D)(hb:But D σ.h h'):au nv g0 σ0 g (σ.to h' t) :=
 have ne:∀ {b o},σ0.h.get? b=some o->b≠D:=λe z=>(nomatch (z▸e).symm.trans hn)
 ⟨⟨p.mv.sub,λb o e no=>hb b o (ne e) (p.mv.pres b o e no),λb o e=>(p.mv.grow b o e).imp λo' e'=>hb b o' (ne e) e',p.mv.fnew,p.mv.anew,p.mv.astab,p.mv.good.lone hP.1 hP.2.1 hb,p.mv.gens,p.mv.os⟩,p.calm,p.held⟩
theorem pc:bS (listO []) []:=⟨[],⟨rfl,rfl,_,rfl⟩,.nil⟩
theorem sQ{q:Int}{f:Bool}{R Ro S Sh Ma D:Addr}{ta:Tok}(hm:g.w.mn=none)(m:MSt F ls g0 σ0 g σ [(Ma,listO []),(Sh,{ cls:=.type "dict",data:=.dict #[] }),(S,listO []),(Ro,listO []),(R,listO []),(D,{ cls:=.type "dict",data:=.dict #[] })])
 (hd:h'.DictOf gz D [(Str.ofString "rear",.ref R),(Str.ofString "align",.int q ta),(Str.ofString "rows",.ref Ro),(Str.ofString "stand",.ref S),(Str.ofString "shared",.ref Sh),(Str.ofString "made",.ref Ma),(Str.ofString "forced",.bool f)]) (hb:But D σ.h h') :
 ER (ao ls.v) g0 σ0 (.key .mine) ⟨⟨g.w.bs,some ⟨[],q,[],[],[],[],f⟩,g.w.bx⟩,true⟩ π (.ref D) ⟨σ.S,αL σ.α (bB.zip [Ma,Sh,S,Ro,R,D]),(σ.to h' t).s⟩:=by
 have nd:=m.nd
 have at_:=λ(q:Key) (b:Addr) (h:(q,b)∈bB.zip [Ma,Sh,S,Ro,R,D])=>αL_at (α:=σ.α) (L:=bB.zip [Ma,Sh,S,Ro,R,D]) yj h
 have aMa:=at_ (.comp 0 .made) Ma (.head _)
 have aSh:=at_ (.comp 0 .shr) Sh (.tail _ (.head _))
 have aS:=at_ (.comp 0 .stand) S (.tail _ (.tail _ (.head _)))
 have aRo:=at_ (.comp 0 .rows) Ro (.tail _ (.tail _ (.tail _ (.head _))))
 have aR:=at_ (.comp 0 .rear) R (.tail _ (.tail _ (.tail _ (.tail _ (.head _)))))
 have aD:=at_ .mine D (.tail _ (.tail _ (.tail _ (.tail _ (.tail _ (.head _))))))
 refine x12 (Heap.dictOf_iff.mp hd) λoD eD iD=>?_
 have hD:=m.h (D,{ cls:=.type "dict",data:=.dict #[] }) (.tail _ (.tail _ (.tail _ (.tail _ (.tail _ (.head _))))))
 have keep:∀{b:Addr}{o:Obj},(b,o)∈[(Ma,listO []),(Sh,({ cls:=.type "dict",data:=.dict #[] }:Obj)),(S,listO []),(Ro,listO []),(R,listO [])]->h'.get? b=some o:=λ{b o} hx=>by
  refine hb b o (λe=>?_) (m.h (b,o) (List.mem_append_left [(D,({ cls:=.type "dict",data:=.dict #[] }:Obj))] hx)).2.2
  exact(List.nodup_append.mp (show([Ma,Sh,S,Ro,R]++[D]).Nodup from nd)).2.2 b (List.mem_map_of_mem (f:=Prod.fst) hx) D (.head _) e
 have mem:∀ q,q∈bB->∃ x∈[(Ma,listO []),(Sh,({ cls:=.type "dict",data:=.dict #[] }:Obj)),(S,listO []),(Ro,listO []),(R,listO []),(D,{ cls:=.type "dict",data:=.dict #[] })],x.1=αL σ.α (bB.zip [Ma,Sh,S,Ro,R,D]) q:=λq hq=>by
  have z:=List.mem_map_of_mem (f:=Prod.snd) (αL_mem (α:=σ.α) (L:=bB.zip [Ma,Sh,S,Ro,R,D]) (q:=q) hq)
  exact List.mem_map.mp (show _∈List.map Prod.fst [(Ma,listO []),(Sh,({ cls:=.type "dict",data:=.dict #[] }:Obj)),(S,listO []),(Ro,listO []),(R,listO []),(D,{ cls:=.type "dict",data:=.dict #[] })] from z)
 have p:=au.lone2 (t:=t) m.p hD.1 hD.2.1 hb
 refine⟨p.add (N:=λq=>q∈bB) (sN hm) (λq hq l=>?_) (λq hq=>αL_ne hq) (λq hq=>?_) (λq q' hq hq' z=>(Prod.mk.inj (kK (f:=Prod.snd) (L:=bB.zip [Ma,Sh,S,Ro,R,D]) nd (αL_mem hq) (αL_mem hq') z)).1) (mK_el ?_ ?_ ?_ ?_ ?_ ?_) (λq o l z=>?_) λq hq=>?_,?_⟩
 . have:g.w.mn.isSome=true:=by
    cases q with
    | mine=>exact l
    | comp r c =>
     have l:bH g.w r c (aI c):=l
     rw [(kM hq).2] at l
     exact l.2
    | _=>exact xFT (iO hq)
   rw [hm] at this; exact xFT this
 . refine x12 (mem q hq) λx hx e=>?_
   rw [<- e]; exact(m.h x hx).2.1.lone hb ⟨_,eD⟩
 . exact⟨_,by rw [aMa]; exact keep (.head _),rfl,_,rfl,pc⟩
 . exact⟨_,by rw [aSh]; exact keep (.tail _ (.head _)),rfl,_,rfl,_,qQ,rfl⟩
 . exact⟨_,by rw [aS]; exact keep (.tail _ (.tail _ (.head _))),rfl,_,rfl,pc⟩
 . exact⟨listO [],by rw [aRo]; exact keep (.tail _ (.tail _ (.tail _ (.head _)))),rfl,_,rfl,[],⟨rfl,rfl,_,rfl⟩,rfl⟩
 . exact⟨_,by rw [aR]; exact keep (.tail _ (.tail _ (.tail _ (.tail _ (.head _))))),rfl,_,rfl,pc⟩
 . refine⟨oD,by rw [aD]; exact eD,_,ta,rfl,?_⟩
   unfold bp
   rw [show(⟨σ.S,αL σ.α (bB.zip [Ma,Sh,S,Ro,R,D]),(σ.to h' t).s⟩:St).α=αL σ.α (bB.zip [Ma,Sh,S,Ro,R,D]) from rfl,aMa,aSh,aS,aRo,aR]; exact iD
 . exact sO (σ:=σ.to h' t) rfl hm l z
 . refine x12 (mem q hq) λx hx e=>?_
   rw [<- e]; exact(m.h x hx).1
 . exact⟨rfl,by show _=Value.ref (αL σ.α (bB.zip [Ma,Sh,S,Ro,R,D]) .mine); rw [aD]⟩
end
end
end
section
open PySem PySem.W PyProof.Rows PySem.Calls
section
section
variable {w w':W}{σ σ' σ0:St}{g g' g0 g1 g2 g3:G}{nv:Bool}{n:Nat}{π:Str->Addr}{v a:AV}{ls ls':Loc}{I:Ev}{pos:Pos}{F:Fr'}{h':Heap}{t:Nat}
noncomputable abbrev zB(R Ro S Sh Ma:Addr)(q:Int)(ta:Tok)(f:Bool):List (Str×Value):=[(Str.ofString "rear",.ref R),(Str.ofString "align",.int q ta),(Str.ofString "rows",.ref Ro),(Str.ofString "stand",.ref S),(Str.ofString "shared",.ref Sh),(Str.ofString "made",.ref Ma),(Str.ofString "forced",.bool f)]
theorem yk{R Ro S Sh Ma:Addr}{q:Int}{ta:Tok}{f:Bool}:((zB R Ro S Sh Ma q ta f).map (·.1)).Nodup:=by
 show([Str.ofString "rear",Str.ofString "align",Str.ofString "rows",Str.ofString "stand",Str.ofString "shared",Str.ofString "made",Str.ofString "forced"]:List Str).Nodup
 decide +kernel
theorem pf{A:Around}{E:Value->Shared->Prop}{s:Shared}{env:Env}{pos:Pos}{Q:List (Value×Value)->Shared->Prop}(h:Q [] s):wpC M0 A (evalPairs (pairTrees [] [] env pos)) Q E s:=ae h
theorem fu(x:Str)(t:Tok):gz.is x (.str x t)=true:=by show Value.isStrOf x (.str x t)=true; simp [Value.isStrOf]
theorem yl{f:Bool}(h6:EOk n qh ls g v g1)(hf:vBo v=some f)(hm:g1.w.mn=none)(i:Inv F ls g.w σ) :
 Wp n σ (eval jz F.env) (ER (ao ls.v) g σ (.key .mine) ⟨⟨g1.w.bs,some ⟨[],1,[],[],[],[],f⟩,g1.w.bx⟩,true⟩ F.π):=λA Q E rm fin=>by
 show wpC M0 A (eval (.Dict [some (.Constant (.str (Str.ofString "rear")) _ _),some (.Constant (.str (Str.ofString "align")) _ _),some (.Constant (.str (Str.ofString "rows")) _ _),some (.Constant (.str (Str.ofString "stand")) _ _),some (.Constant (.str (Str.ofString "shared")) _ _),some (.Constant (.str (Str.ofString "made")) _ _),some (.Constant (.str (Str.ofString "forced")) _ _)] [.List [] _,.Constant (.int 1) _ _,.List [] _,.List [] _,.Dict [] [] _,.List [] _,qh] _) F.env) _ _ _
 refine dictC ?_ ?_ ?_ ?_ ?_
 . rfl
 . rfl
 . exact List.cons_ne_nil _ _
 . show 7<=15; decide
 have m0:MSt F ls g σ g σ []:=⟨i,.refl i.gd,λx hx=>(nomatch hx),List.nodup_nil⟩
 have m1:=m0.push (o:={ cls:=.type "dict",data:=.dict #[] }) (t:=σ.s.toks) rfl
 generalize σ.h.objs.size=D at m1 ⊢
 refine bu (fq m1 λσ1 t1 m=>gL m λσ1 R m=>?_)
 refine bu (fq m λσ1 t2 m=>AO m λσ1 ta m=>?_)
 refine bu (fq m λσ1 t3 m=>gL m λσ1 Ro m=>?_)
 refine bu (fq m λσ1 t4 m=>gL m λσ1 S m=>?_)
 refine bu (fq m λσ1 t5 m=>yi m λσ1 Sh m=>?_)
 refine bu (fq m λσ1 t6 m=>gL m λσ1 Ma m=>?_)
 refine bu (fq m λσ1 t7 m=>h6 F σ1 m.i A _ E rm λu σ2 p2=>pf ?_)
 obtain rfl:u=.bool f:=rBo p2.rv hf
 have mm:=m.step p2.po
 refine⟨zB R Ro S Sh Ma 1 ta f,⟨fu _ _,rfl,fu _ _,rfl,fu _ _,rfl,fu _ _,rfl,fu _ _,rfl,fu _ _,rfl,fu _ _,rfl,trivial⟩,show 7<=15 by decide,Heap.dictOf_iff.mpr ⟨_,(mm.h (D,{ cls:=.type "dict",data:=.dict #[] }) (by simp)).2.2,qQ⟩,λh' hd hb=>?_⟩
 rw [merged_nil_of_nodup _ yk] at hd
 exact fin _ _ (sQ hm mm hd (SameBut.but hb))
theorem pg(hI:Snd n I){x:Str}{e:Expr}{p:Pos}:Al (qi I ls x e) g (SOk n (.Assign [.Name x p] e pos) ls g):=.dem λhe=>(hI.e qh ls g).bd λv g1 h6=>.bdo λf hf=>λy e1 =>
 (Al.wh λhm=>Al.setW (.asg λhmay=>.ok λF σ i=>by
  rw [he,exec_Assign_Name F.env x p jz pos (aZ rfl)]
  exact .stand ((yl h6 hf (Option.isNone_iff_eq_none.mp hm) i).seqS λu σ1 p1 r1=>.stand (gI hmay (i.post p1) r1 nofun))):Al (Internal.wh g1.w.mn.isNone (Internal.bd (Internal.setW ⟨g1.w.bs,some ⟨[],1,[],[],[],[],f⟩,g1.w.bx⟩) λ_1=>Internal.bd (asg ls x (.v (.key .mine))) λls'=>ok (Fl.nx,ls'))) g1 (SOk n (.Assign [.Name x p] e pos) ls g)) y e1
end
end
end
section
open PySem PySem.W PyProof.Rows PySem.Calls
section
section
variable {M:Model}{A:Around}{E:Value->Shared->Prop}{s:Shared}{env:Env}
theorem nj{α:Type}{c:Prop}[Decidable c]{pos:Pos}{k:PUnit->Sem α}{Q:α->Shared->Prop}(h:wpC M A (k ()) Q E s) :
 wpC M A (if c then(standAt pos >>= k) else k ()) Q E s:=by
 split
 . exact ad (aq h)
 . exact h
noncomputable def gc(M:Model)(A:Around)(E:Value->Shared->Prop)(use:Option (Value->Sem Unit))(Q:Value->Shared->Prop)(acc:Value)(C:Addr)(r:Result)(s':Shared):Prop :=
 match r,use with
 | .ok _1,none=>∃ m,s'.heap.Ns C m/\∀ h',Heap.SameBut C s'.heap h'->Q acc { s' with heap:=h' }
 | .ok _1,some u=>wpC M A (u acc) (λ_1 s''=>∃ m,s''.heap.Ns C m/\∀ h',Heap.SameBut C s''.heap h'->Q .none { s'' with heap:=h' }) E s'
 | .error x,_1=>False
theorem compC{e:Expr}{scope:Scope}{pos:Pos}{newAcc first:Sem Value}{g:Comprehension}{gs:List Comprehension}{cl:List (Str×Addr)}{use:Option (Value->Sem Unit)}
 {Q:Value->Shared->Prop}
 (hcl:clausesOf e=g::gs) (hs:∀ x,foldedSetIterable g.iter env x=pure x) (hclos:closureFor scope env=pure cl)
 (hkind:scope.kind=.function) (hnames:∀ x∈scope.names,x.2=.local->scope.names.lookup x.1=some .local)
 (h:wpC M A first (λx s₁=>wpC M A (pyIter x) (λit s₂=>wpC M A newAcc (λacc s₃ =>
  wpC M A (newFunctionEnv scope env.globals cl [] env.qual none .none (some env)) (λcenv s₄ =>
   aT M (A.mark none) (.compStart e 0 it acc { cenv with scope:=relabel scope env }) (gc M A E use Q acc cenv.locals) s₄) E s₃) E s₂) E s₁) E s) :
 wpC M A (comprehension e scope env pos newAcc false first use) Q E s:=by
 unfold comprehension
 rw [hclos,hcl]
 refine ad (ai h (λx s₁ h₁=>ad (aq (ad (aP (hs x) (ad (ag (ai h₁ (λit s₂ h₂ =>
  nj (ad (ai h₂ (λacc s₃ h₃=>ad (ae (ad (ai h₃ (λcenv s₄ h₄=>?_) λ_1 _2 h'=>h')))) λ_1 _2 h'=>h')))
   λ_1 _2 h'=>h'))))))) λ_1 _2 h'=>h')
 dsimp only
 have hv:∀ x∈(scope.names.filter λx=>(x.2==.local || x.2==.cell)&&x.1 != (".0":Str)).reverse,x.2=.local ->
  Env.kindOf { cenv with scope:=relabel scope env } x.1=some .local:=λx hx hl=>lookup_relabel_local (hnames x (List.mem_filter.mp (List.mem_reverse.mp hx)).1 hl)
 have hv':∀ x∈(scope.names.filter λx=>(x.2==.local || x.2==.cell)&&x.1 != (".0":Str)).reverse.drop 1++(scope.names.filter λx=>(x.2==.local || x.2==.cell)&&x.1 != (".0":Str)).reverse.take 1,
  x.2=.local->Env.kindOf { cenv with scope:=relabel scope env } x.1=some .local:=λx hx hl=>by
  rcases List.mem_append.mp hx with h1 | h1
  . exact hv x (List.mem_of_mem_drop h1) hl
  . exact hv x (List.mem_of_mem_take h1) hl
 refine ag (ad (lM (ag (pM (g5 h₄ λr s' hr=>?_) nofun))))
 cases r with
 | ok f =>
  cases use with
  | none =>
   refine x12 hr λm hn hr=>?_
   exact ad (ag (.of <| wpAny_comp_letGo (cenv:={ cenv with scope:=relabel scope env }) hkind _ s' m hv hn λh' m' _1 hs'=>ae (hr h' hs')))
  | some u =>
   refine ad (.of <| wpAny_rule (ad (ag (ai hr (λ_1 s'' hr'=>?_) λ_1 _2 h'=>h'))))
   refine x12 hr' λm hn hr'=>?_
   exact ad (.of <| wpAny_comp_letGo (cenv:={ cenv with scope:=relabel scope env }) hkind _ s'' m hv' hn λh' m' _1 hs'=>ae (hr' h' hs'))
 | error x=>exact hr.elim
end
section
variable {prog:Program}{w:World}{A:Around}{E:Value->Shared->Prop}{R:Result->Shared->Prop}{s:Shared}
theorem gA{elt target iter ifs rest scope pos it acc env}
 (h0:aT (model prog w) A (.compLoop (.ListComp elt (⟨target,iter,ifs,0⟩::rest) scope pos) 0 it acc env) R s)
 (h:wpC (model prog w) A (pyIter it) (λit' s'=>aT (model prog w) A (.compLoop (.ListComp elt (⟨target,iter,ifs,0⟩::rest) scope pos) 0 it' acc env) R s') (λ_1 _2=>False) s) :
 aT (model prog w) A (.compStart (.ListComp elt (⟨target,iter,ifs,0⟩::rest) scope pos) 0 it acc env) R s:=by
 refine aH rfl ?_
 show wpC _ _ ((compStart (.ListComp elt (⟨target,iter,ifs,0⟩::rest) scope pos) 0 it acc env).onRaise (λx=>do noteFrame x env; standAt theWindowsPlace)) _ _ s
 refine bh ?_
 unfold compStart
 show wpC _ _ (PySem.ask >>= _) _ _ s
 refine ad (.of <| wpAny_askSetting ?_)
 split
 . first
    | exact ad (ae (ae (And.intro rfl h0)))
    | exact ae (And.intro rfl h0)
 . first
    | exact ad (.of <| wpAny_rule (ad (aq (ad (ai h (λit' s' h'=>ae (And.intro rfl h')) λ_1 _2 x=>x)))))
    | (refine ad (.of <| wpAny_rule ?_); show wpC _ _ (standAt iter.pos >>= _) _ _ s; exact ad (aq (ad (ai h (λit' s' h'=>ae (And.intro rfl h')) λ_1 _2 x=>x))))
theorem iP{elt target iter:Expr}{scope:Scope}{pos:Pos}{it acc:Value}{env:Env}(I:Nat->Shared->Prop)
 (turn:∀ n s,I n s->wpC (model prog w) A (pyNext it) (λr s₁=>match r with
  | none=>R (.ok .next) s₁
  | some v=>wpC (model prog w) A (assign target env v) (λ_1 s₂=>wpC (model prog w) A (eval elt env) (λx s₃ =>
   wpC (model prog w) A (call (.builtin "list.append") [acc,x]) (λ_1 s₄=>∃ m,m < n/\I m s₄) (λ_1 _2=>False) s₃)
   (λ_1 _2=>False) s₂) (λ_1 _2=>False) s₁) (λ_1 _2=>False) s)
 (n:Nat) (h:I n s) (ht:∀ v,letOwnedTupleGo target it v=pure ()) :
 aT (model prog w) A (.compLoop (.ListComp elt [⟨target,iter,[],0⟩] scope pos) 0 it acc env) R s:=by
 refine eZ rfl rfl I (λn s hI=>?_) n h
 show wpC _ _ ((compTurn (.ListComp elt [⟨target,iter,[],0⟩] scope pos) 0 it acc env).onRaise (λx=>do noteFrame x env; theTreesLotGoes x)) _ _ s
 refine bh ?_
 rw [compTurn_list1]
 refine ad (aq (ad (ai (turn n s hI) (λr s₁ h₁=>?_) λ_1 _2 h'=>h')))
 cases r with
 | none=>exact ae (.inr h₁)
 | some v =>
  refine ad (aP (ht v) ?_)
  exact ad (ai h₁ (λ_1 s₂ h₂=>ad (ad (ai h₂ (λx s₃ h₃=>ad (ai h₃
   (λ_1 s₄ h₄=>ae (ae (.inl ⟨rfl,h₄⟩))) λ_1 _2 h'=>h')) λ_1 _2 h'=>h'))) λ_1 _2 h'=>h')
end
noncomputable def clO(cells:List (Str×Addr))(p:Str×NameKind):Option (Str×Addr):=if p.2=.free then(cells.lookup p.1).map (Prod.mk p.1) else none
noncomputable def clF(cells:List (Str×Addr))(l:List (Str×NameKind)):List (Str×Addr):=(l.filterMap (clO cells)).reverse
theorem AP{env:Env}:∀ (l:List (Str×NameKind)) (acc:List (Str×Addr)),(∀ n,(n,NameKind.free)∈l->∃ c,env.cells.lookup n=some c) ->
 (forIn l acc λ(x:Str×NameKind) (cs:List (Str×Addr))=>(match x with
  | (name,kind)=>if (kind==NameKind.free)=true then do let a <- cellOf env name; pure (ForInStep.yield ((name,a)::cs)) else pure (ForInStep.yield cs):Sem (ForInStep (List (Str×Addr)))))=pure (clF env.cells l++acc):=by
 intro l
 induction l with
 | nil=>intro acc _; rfl
 | cons x r ih =>
  intro acc h
  rw [List.forIn_cons]
  unfold clF
  rw [List.filterMap_cons]
  by_cases hk:x.2=.free
  . refine(h x.1 (hk▸.head _)).elim λc hc=>?_
    rw [show clO env.cells x=some (x.1,c) by unfold clO; rw [if_pos hk,hc]; rfl]
    refine(congrArg (· >>= _) (show _=(pure (ForInStep.yield ((x.1,c)::acc)):Sem _) from ?_)).trans ((ih ((x.1,c)::acc) λm hm=>h m (.tail _ hm)).trans ?_)
    . show(if (x.2==NameKind.free)=true then(do let a <- cellOf env x.1; pure (ForInStep.yield ((x.1,a)::acc))) else _)=_
      rw [if_pos (by rw [hk]; rfl),show cellOf env x.1=pure c by unfold cellOf; rw [hc]]
      rfl
    . exact congrArg pure (by rw [clF,List.reverse_cons,List.append_assoc]; rfl)
  . rw [show clO env.cells x=none from if_neg hk]
    refine(congrArg (· >>= _) (show _=(pure (ForInStep.yield acc):Sem _) from ?_)).trans (ih acc λm hm=>h m (.tail _ hm))
    exact if_neg λz=>hk (eq_of_beq z)
theorem ph{scope:Scope}{env:Env}(h:∀ n,(n,NameKind.free)∈scope.names->∃ c,env.cells.lookup n=some c):closureFor scope env=pure (clF env.cells scope.names):=by
 unfold closureFor
 exact(congrArg (· >>= pure) (AP scope.names [] h)).trans ((pure_bind _ _).trans (congrArg pure (List.append_nil _)))
theorem eI{cells:List (Str×Addr)}{l:List (Str×NameKind)}{x:Str}{c:Addr}(h:(clF cells l).lookup x=some c):(x,NameKind.free)∈l/\cells.lookup x=some c:=by
 refine x12 (List.mem_filterMap.mp (List.mem_reverse.mp (mem_of_lookup_some h))) λp hm e=>?_
 unfold clO at e
 by_cases hk:p.2=.free
 . rw [if_pos hk] at e
   refine x12 (Option.map_eq_some_iff.mp e) λd e1 e2=>?_
   rw [<- (Prod.mk.inj e2).1,<- (Prod.mk.inj e2).2]
   exact⟨hk▸hm,e1⟩
 . rw [if_neg hk] at e
   exact xNS e
theorem wq{cells:List (Str×Addr)}{x:Str}(hc:∃ c,cells.lookup x=some c){l:List (Str×NameKind)}(h:(x,NameKind.free)∈l):∃ c,(clF cells l).lookup x=some c:=by
 refine hc.elim λc hc=>?_
 have hm:(x,c)∈clF cells l:=List.mem_reverse.mpr (List.mem_filterMap.mpr ⟨_,h,by show Option.map _ _=_; rw [hc]; rfl⟩)
 cases e:(clF cells l).lookup x with
 | some d=>exact⟨d,rfl⟩
 | none=>exact absurd (List.lookup_eq_none_iff.mp e _ hm) (by simp)
theorem iQ{scope:Scope}{env:Env}{x:Str}:(relabel scope env).names.lookup x =
 (scope.names.lookup x).map λkd=>if (kd==.free&&env.scope.kind==.function&&env.kindOf x==some .cell)=true then NameKind.cell else kd:=by
 show(scope.names.map _).lookup x=_
 induction scope.names with
 | nil=>rfl
 | cons p r ih =>
  obtain⟨n,kd⟩:=p
  rw [List.map_cons]
  dsimp only
  cases hx:x==n
  . rw [show List.lookup x ((n,kd)::r)=List.lookup x r by rw [List.lookup_cons,hx],<- ih]
    split <;> rw [List.lookup_cons,hx]
  . rw [show List.lookup x ((n,kd)::r)=some kd by rw [List.lookup_cons,hx]]
    rw [beq_iff_eq.mp hx]
    rw [Option.map_some]
    split <;> simp [List.lookup_cons]
theorem eJ{ls:Loc}{x:Str}{v:LV}{l:List (Str×NameKind)}(h:ah x (dW ls l)=some v):(x,NameKind.free)∈l/\∃ a,v=.v a/\ls.get x=some (.v a):=by
 refine x12 (List.mem_filterMap.mp (cG h)) λp hm e=>?_
 unfold zh at e
 by_cases hf:p.2=.free
 . rw [if_pos hf] at e
   refine x12 (Option.map_eq_some_iff.mp e) λa e1 e2=>x12 (Option.bind_eq_some_iff.mp e1) λlv e3 e4=>?_
   rw [<- (Prod.mk.inj e2).1]
   refine⟨hf▸hm,a,(Prod.mk.inj e2).2.symm,e3.trans ?_⟩
   cases lv <;> first | exact xNS e4 | exact congrArg _ (congrArg _ (Option.some.inj e4))
 . rw [if_neg hf] at e
   exact xNS e
structure dD(ls:Loc)(x:Str)(sc:Scope)(a:Int):Prop where
 kind0:sc.kind=.function
 a0:a=0
 x:ah x sc.names=some .local
 nvF:ao (dW ls sc.names)=true
 nv:ao ls.v=true
 at_:∀ n kd,(n,kd)∈sc.names->ah n sc.names=some kd/\(kd=.local\/kd=.globalImplicit\/(kd=.free/\ah n ls.sc=some .cell))
theorem sR{ls:Loc}{x:Str}{sc:Scope}{a:Int}(h:un ls x sc a=true):dD ls x sc a :=
 have e6:=aw h
 have e5:=aw e6.1
 have e4:=aw e5.1
 have e3:=aw e4.1
 have e2:=aw e3.1
 ⟨of_decide_eq_true e2.1,eq_of_beq e2.2,of_decide_eq_true e3.2,e4.2,e5.2,λn kd hm=>of_decide_eq_true (List.all_eq_true.mp e6.2 _ hm)⟩
section
variable {w w':W}{σ σ' σ0:St}{g g' g1:G}{n:Nat}{ls:Loc}{I:Ev}{F:Fr'}{x:Str}{sc:Scope}{a:Int}
theorem dD.free(c:dD ls x sc a){y:Str}(h:(y,NameKind.free)∈sc.names):ah y sc.names=some .free/\ah y ls.sc=some .cell:=by
 refine x02 (c.at_ y _ h) λe z=>?_
 rcases z with z | z | z
 . cases z
 . cases z
 . exact⟨e,z.2⟩
theorem dD.cell(c:dD ls x sc a)(i:Inv F ls w σ){y:Str}(h:(y,NameKind.free)∈sc.names):F.env.kindOf y=some .cell/\∃ c,F.env.cells.lookup y=some c :=
 have k:=(i.fs.kinds y _ (c.free h).2).resolve_right λz=>nomatch z.1
 ⟨k,i.fs.celL y (.inl k) (by show ah y ls.sc≠none; rw [(c.free h).2]; nofun)⟩
noncomputable abbrev wt(sc:Scope)(F:Fr')(L:Addr):Env:=compEnvC sc (clF F.env.cells sc.names) L F.env
theorem dD.kind(c:dD ls x sc a)(i:Inv F ls w σ){L:Addr}{y:Str}{kd:NameKind}(e:ah y sc.names=some kd):(wt sc F L).kindOf y=some (if kd=.free then .cell else kd):=by
 show(relabel sc F.env).names.lookup y=_
 rw [iQ,(by rw [<- dY]; exact e:sc.names.lookup y=some kd),Option.map_some]
 by_cases hk:kd=.free
 . subst hk
   rw [(c.cell i (cG e)).1,i.fs.fn]; rfl
 . rw [if_neg hk,if_neg]
   rw [(by simpa using hk:(kd==NameKind.free)=false)]; simp
theorem dD.inv(c:dD ls x sc a)(i:Inv F ls w σ){L:Addr}{m:Str->Option Value}(hn:σ.h.Ns L m)(hp:aO σ w L):Inv ⟨wt sc F L,F.π,λb=>b=L⟩ ⟨dW ls sc.names,sc.names⟩ w σ:=by
 have fr:∀ {y v},ah y (dW ls sc.names)=some v->(y,NameKind.free)∈sc.names:=λe=>(eJ e).1
 have kf:∀ {y},(y,NameKind.free)∈sc.names->(wt sc F L).kindOf y=some .cell:=λh=>c.kind i (c.free h).1
 have no:∀{P:Prop} {y v},ah y (dW ls sc.names)=some v->eT v=true->P:=λe o=>by refine x12 (eJ e).2 λb e1 _1=>?_; rw [e1] at o; exact xFT o
 refine⟨i.gd,⟨c.kind0,i.fs.gl,i.fs.bl,λy kd e=>?_,λy v e=>⟨by show ah y sc.names≠none; rw [(c.free (fr e)).1]; nofun,.inr (.inl (kf (fr e)))⟩,rfl,λy ek es=>?_,λy b e z=>(by rw [(c.free (eI e).1).1] at z; cases z),
  λy z b e e'=>i.fs.celI y z b (eI e).2 (eI e').2,λy v e o=>no e o,λy z v u e o=>no e o⟩,
  ⟨λb h=>h▸hp,λy b e _1=>i.fd.celP y b (eI e).2 (by show ah y ls.sc≠none; rw [(c.free (eI e).1).2]; nofun),⟨m,hn,λy v e ek=>(by rw [kf (fr e)] at ek; cases ek)⟩,λy b v e hk hy=>?_⟩⟩
 . rw [c.kind i e]
   by_cases hk:kd=.free
   . exact .inr ⟨hk,by rw [if_pos hk]⟩
   . exact .inl (by rw [if_neg hk])
 . cases e:ah y sc.names with
   | none=>exact absurd e es
   | some kd =>
    have hm:=cG e
    rw [c.kind i e] at ek
    rcases(c.at_ y kd hm).2 with rfl | rfl | ⟨rfl,_⟩
    . rcases ek with h | h <;> cases h
    . rcases ek with h | h <;> cases h
    . exact wq (c.cell i hm).2 hm
 . refine yaea (eJ hy) λhm b' e266_2 eb=>?_
   subst e266_2
   exact i.fd.cel y b _ (eI e).2 (by rw [(c.cell i hm).1]; nofun) eb
end
theorem nk{p:LV->Bool}{x:Str}{v:LV}(hv:p v=true):∀{l:List (Str×LV)},eN p l=true->eN p (jh x v l)=true
 | [],_1=>gF hv rfl
 | (y,b)::r,h=>by
  show eN p (cond (sq x y) ((y,v)::r) ((y,b)::jh x v r))=true
  cases sq x y
  . exact gF (bJ h).1 (nk hv (bJ h).2)
  . exact gF hv (bJ h).2
theorem pj{x:Str}{i:Int}{l:List (Str×LV)}(h:ao l=true):ao (jh x (.v (.int i)) l)=true:=nk rfl h
end
end
section
open PySem PySem.W PyProof.Rows PySem.Calls
section
structure np(it:Addr)(O:Addr->Prop)(P:W->St->List AV->Prop):Prop extends iG it false O P where
 self:∀ w σ xs A (Q:Value->Shared->Prop) E,P w σ xs->Q (.ref it) σ.s->wpAny M0 A (pyIter (.ref it)) Q E σ.s
structure ItO(O:Addr->Prop)(xs:List AV)(w:W)(σ:St)(u:Value)(σ':St)(it:Addr)(P:W->St->List AV->Prop):Prop where
 u:u=.ref it
 n:σ.h.get? it=none
 e:∃ o,σ'.h.get? it=some o
 α:σ'.α=σ.α
 S:∀ a,σ'.S a->σ.S a
 p:np it O P
 x:P w σ' xs
section
variable {w w':W}{σ σ' σ0:St}{g g' g0 g1 g2:G}{nv:Bool}{n:Nat}{π:Str->Addr}{v a:AV}{ls l0:Loc}{I:Ev}{F:Fr'}{h':Heap}{t:Nat}{O:Addr->Prop}{it D L:Addr}{P:W->St->List AV->Prop}{x:Str}{elt:Expr}
theorem rngS(it:Addr):np it O (qH it):={ zu it with self:=λw σ xs A Q E h q=>h.elim λ_1 h=>h.elim λ_1 h=>h.elim λ_1 h=>wpAny_pyIter_rangeiter h.1 q }
theorem lstS(it:Addr)(nO:¬ O it):np it O (qI it O):={ zv it nO with self:=λw σ xs A Q E h q=>h.elim λ_1 h=>h.elim λ_1 h=>h.elim λ_1 h=>h.elim λ_1 h=>wpAny_pyIter_listiter h.1 q }
theorem jO{c:Sem Value}{o:Obj}{xs:List AV}(gd:aj g.w σ)(hf:o.isFreed=false)(hP:np σ.h.objs.size O P)(h:∀ (A:Around) (Q:Value->Shared->Prop) (E:Value->Shared->Prop),(∀ t,Q (.ref σ.h.objs.size) (σ.to (σ.h.push o) t).s)->wpAny M0 A c Q E σ.s)
 (k:∀ t,P g.w (σ.to (σ.h.push o) t) xs):Wp n σ c (PR nv g σ g λu σ'=>∃ it P,ItO O xs g.w σ u σ' it P) :=
 .any λA Q E _1 q=>h A Q E λt=>q _ (σ.to (σ.h.push o) t) ⟨.stay gd rfl rfl λ_1 _2 e=>Heap.get?_push_of_some _ e,_,P,rfl,get?_size,⟨_,Heap.get?_push_size _ hf⟩,rfl,λ_1=>id,hP,k t⟩
theorem iR{xs:List AV}{a:Addr}{us:List Value}(gd:aj g.w σ)(sa:σ.S a\/O a)(nO:¬ O σ.h.objs.size)(la:σ.h.IsList a us.toArray)(rd:RDs σ xs us):Wp n σ (pyIter (.ref a)) (PR nv g σ g λu σ'=>∃ it P,ItO O xs g.w σ u σ' it P) :=
 jO (P:=qI σ.h.objs.size O) gd rfl (lstS _ nO) (λA Q E q=>wpAny_pyIter_list la (q σ.s.toks)) λt=>⟨a,0,us,xs,⟨_,Heap.get?_push_size _ rfl,rfl,rfl⟩,sa,la.push _,RDs.keep (.tok λ_1 _2 z=>Heap.get?_push_of_some _ z) rd,rfl⟩
theorem wu:Al (uk ls v) g λxs g'=>g'=g/\∀ nv F σ u,Inv F ls g.w σ->RV σ g.w F.π v u->∃ O:Addr->Prop,(∀ b,O b->aO σ g.w b)/\Wp n σ (pyIter u) (PR nv g σ g λu σ'=>∃ it P,ItO O (xs.map .int) g.w σ u σ' it P) :=
 .vw (λxs e=>.ok ⟨rfl,λnv F σ u i r=>⟨λ_1=>False,λ_1 z=>z.elim,by
  refine x24 (rIs r e) λa us e29_2 sa la ia=>?_
  subst e29_2
  exact iR i.gd (.inl sa) id la (RDs.ints ia)⟩⟩)
 λ_1=>.vw (λq e=>.ok ⟨rfl,λnv F σ u i r=>⟨λ_1=>False,λ_1 z=>z.elim,by
  rw [yW e] at r
  obtain⟨a,c,m⟩:=q
  obtain⟨r,b,t,u',z,rfl,sr,ir,sz,sm⟩:=r
  exact jO (P:=qH σ.h.objs.size) i.gd rfl (rngS _) (λA Q E q=>wpAny_pyIter_range ir sm (q _)) λt=>⟨a,c,m,by rw [<- sz]; exact Heap.get?_push_size _ rfl,rfl⟩⟩⟩)
 λ_1=>.bdo λy e=>.opt λxs hx=>⟨rfl,λnv F σ u i r=>by
  rw [hZ e] at r
  obtain rfl:u=.ref (F.π y):=r
  refine x12 (i.own hx) λo e1 h2=>?_
  have hp:=i.fd.xP _ (i.fs.ownB y _ (n7 hx) rfl)
  refine x12 (h2.at e1) λvs la ia=>?_
  exact⟨λb=>b=F.π y,λb z=>z▸hp,iR i.gd (.inr rfl) (λz=>by rw [<- show _=F.π y from z] at e1; exact nomatch get?_size.symm.trans e1) la (RDs.ints ia)⟩⟩
noncomputable def CRun(n:Nat)(x:Str)(e:Expr)(l0:Loc)(g':G):List Int->List AV->G->Prop
 | [],y,g=>y=[]/\g=g'
 | i::r,y,g=>∃ v g1 q,EOk n e (l0.put x (.v (.int i))) g v g1/\cI v=true/\y=v::q/\CRun n x e l0 g' r q g1
theorem nq(hI:Snd n I):∀ (xs:List Int) (g:G),Al (jx I x elt l0 xs) g λq g'=>CRun n x elt l0 g' xs q g
 | [],g=>.ok ⟨rfl,rfl⟩
 | i::r,g=>(hI.e elt _ g).bd λv g1 h=>.wh λhd=>(nq hI r g1).bd λq g2 k=>.ok ⟨v,g1,q,h,hd,rfl,k⟩
structure CI(F:Fr')(l0:Loc)(it D:Addr)(O:Addr->Prop)(g0:G)(σ0:St)(g:G)(σ:St)(vs:List AV)(us:List Value):Prop where
 p:au true g0 σ0 g σ
 i:Inv F l0 g.w σ
 pi:aO σ g.w it
 pd:aO σ g.w D
 ld:σ.h.IsList D us.toArray
 ru:RDs σ vs us
 oh:∀ b,O b->aO σ g.w b
structure CA(F:Fr')(it D L:Addr)(O:Addr->Prop)(σ0:St):Prop where
 hit:σ0.h.get? it=none
 hD:σ0.h.get? D=none
 hL:σ0.h.get? L=none
 di:D≠it
 dl:D≠L
 li:L≠it
 oO:∀ b,O b->∃ o,σ0.h.get? b=some o
 X:F.X=λb=>b=L
theorem CA.o(c:CA F it D L O σ0){b q:Addr}(h:O b)(hq:σ0.h.get? q=none):b≠q:=λz=>(c.oO b h).elim λo e=>nomatch (z▸e).symm.trans hq
theorem CI.but{vs vs':List AV}{us us':List Value}{q:Addr}{l1:Loc}(c:CI F l0 it D O g0 σ0 g σ vs us)(hq:σ0.h.get? q=none)(hp:aO σ g.w q)(hb:But q σ.h h')(ha:∃ o,h'.get? q=some o)(i':Inv F l1 g.w (σ.to h' t))(hd:h'.IsList D us'.toArray)(hu:RDs (σ.to h' t) vs' us'):CI F l1 it D O g0 σ0 g (σ.to h' t) vs' us' :=
 ⟨c.p.lone2 hq hp hb,i',c.pi.lone hb ha,c.pd.lone hb ha,hd,hu,λb z=>(c.oh b z).lone hb ha⟩
theorem But.eq{q b:Addr}{h h':Heap}(hb:But q h h')(n:b≠q)(e:∃ o,h.get? b=some o):h'.get? b=h.get? b:=e.elim λo e=>(hb b o n e).trans e.symm
theorem But.list{q l:Addr}{h h':Heap}{us:Array Value}(hb:But q h h')(n:l≠q)(x:h.IsList l us):h'.IsList l us:=x.imp λo z=>⟨hb l o n z.1,z.2⟩
theorem nr{px pos:Pos}{iter:Expr}{sc:Scope}{A:Around}{V:List AV}{R:Result->Shared->Prop}(hP:np it O P)(ca:CA F it D L O σ0)(hr:bz n A)(hnv:ao l0.v=true)(hx0:ah x l0.v=none)(hxs:ah x l0.sc=some .local)
 (fin:∀ σ' us,au true g0 σ0 g' σ'->Inv F l0 g'.w σ'->aO σ' g'.w D->σ'.h.IsList D us.toArray->RDs σ' V us->R (.ok .next) σ'.s)
 {xs:List Int}{vs q:List AV}{us:List Value} (hV:V=vs++q) (hz:vs.length+xs.length<=1000000) (hx:CRun n x elt l0 g' xs q g) (hi:P g.w σ (xs.map .int)) (c:CI F l0 it D O g0 σ0 g σ vs us) :
 aT M0 A (.compLoop (.ListComp elt [⟨.Name x px,iter,[],0⟩] sc pos) 0 (.ref it) (.ref D) F.env) R σ.s:=by
 refine iP (λm s'=>∃ xs vs q us g σ,σ.s=s'/\m=xs.length/\V=vs++q/\vs.length+xs.length<=1000000/\CRun n x elt l0 g' xs q g/\P g.w σ (xs.map .int)/\CI F l0 it D O g0 σ0 g σ vs us) ?_ xs.length ⟨xs,vs,q,us,g,σ,rfl,rfl,hV,hz,hx,hi,c⟩ (λ_1=>rfl)
 intro m s' h0
 refine x67 h0 λxs vs q us g σ e1 e2 hV hz hx hi c=>?_
 clear h0
 subst e1
 subst e2
 have hXi:¬ F.X it:=λz=>by rw [ca.X] at z; exact ca.li z.symm
 have hXD:¬ F.X D:=λz=>by rw [ca.X] at z; exact ca.dl z
 cases xs with
 | nil =>
  refine x02 hx λe85_0 e85_1=>?_
  clear hx
  subst e85_0
  subst e85_1
  rw [List.append_nil] at hV
  subst hV
  exact .of (hP.fin g.w σ A _ _ hr.2.2.1 c.i.gd hi λh' hb=>fin (σ.to h' σ.s.toks) us (c.p.lone2 ca.hit c.pi hb) (c.i.lone c.pi hXi (λv=>hP.cell _ _ _ v hi) hb)
   ⟨c.pd.1,c.pd.2.1,c.pd.2.2.imp λo z=>hb D o ca.di z⟩ (hb.list ca.di c.ld) (RDs.keep (hb.keep c.pi.1) c.ru))
 | cons i r =>
  refine x34 hx λv g1 q' h hd e91_5 k=>?_
  clear hx
  subst e91_5
  refine .of (hP.next g.w σ (.int i) (r.map .int) A _ _ c.i.gd hi c.pi.1 c.pi.2.1 λh1 u t1 hb hi1 _1 hru hex=>?_)
  have c1:=c.but (t:=t1) ca.hit c.pi hb hex (c.i.lone c.pi hXi (λv=>hP.cell _ _ _ v hi) hb) (hb.list ca.di c.ld) (RDs.keep (hb.keep c.pi.1) c.ru)
  dsimp only
  rw [PySem.assign_Name]
  refine ad (aq (.of (mw (lv:=.v (.int i)) (u:=u) (by unfold Loc.may; rw [hxs]; rfl) c1.i hru nofun A _ _ λp h2 t2 hX hb2 ha2 i2=>?_)))
  rw [ca.X] at hX
  obtain rfl:p=L:=hX
  have hpL:=c1.i.fd.xP p (by rw [ca.X])
  have c2:=c1.but (t:=t2) ca.hL hpL hb2 ha2 i2 (hb2.list ca.dl c1.ld) (RDs.keep (hb2.keep hpL.1) c1.ru)
  have hi2:=hP.keep g.w _ g.w _ _ (hb2.keep (t:=t2) hpL.1) nofun (λb z=>hb2.eq (ca.o z ca.hL) (c1.oh b z).2.2) (hb2.eq ca.li.symm c1.pi.2.2) hi1
  refine h F _ i2 A _ _ hr λu s3 p3=>?_
  have p3p:=p3.po
  rw [show ao (l0.put x (.v (.int i))).v=true from pj hnv] at p3p
  have i3:Inv F l0 g1.w s3:=(i2.post p3.po).sub (l':=l0.v) λy v' e=>by
   show ah y (jh x _ l0.v)=some v'
   rw [gn _ (λz=>by rw [z,hx0] at e; cases e)]; exact e
  have kp3:=p3.po.mv.keep i2.gd
  have c3:CI F l0 it D O g0 σ0 g1 s3 vs us:=⟨c2.p.trans p3p,i3,(c2.pi.mv p3.po.mv).1,(c2.pd.mv p3.po.mv).1,c2.ld.imp λo z=>⟨(c2.pd.mv p3.po.mv).2.trans z.1,z.2⟩,RDs.keep kp3 c2.ru,λb z=>((c2.oh b z).mv p3.po.mv).1⟩
  have hi3:=hP.keep g.w _ g1.w _ _ kp3 nofun (λb z=>((c2.oh b z).mv p3.po.mv).2) (c2.pi.mv p3.po.mv).2 hi2
  refine yM c3.ld λoD eD hc m hdt=>?_
  refine .of (dm eD hc hdt (by rw [List.size_toArray,RDs.length c3.ru]; exact Nat.le_trans (Nat.le_trans (Nat.le_add_right _ _) hz) (by decide)) λh4 sb hn=>?_)
  refine eX hn λo4 e4 n2 n3 m4 n4=>?_
  have hb4:=SameBut.but sb
  have c4:=c3.but (t:=s3.s.toks) (vs':=vs++[v]) (us':=us++[u]) ca.hD c3.pd hb4 ⟨_,e4⟩ (c3.i.lone c3.pd hXD (λv z=>z.elim λo y=>by rw [<- Option.some.inj (eD.symm.trans y.1)] at y; exact nomatch hdt.symm.trans y.2) hb4) ⟨o4,e4,n2.trans hc,m4,by rw [n4]; simp⟩
   (RDs.keep (hb4.keep c3.pd.1) (RDs.append c3.ru ⟨u,[],rfl,(RV.of hd).mp p3.rv,rfl⟩))
  exact⟨r.length,Nat.lt_succ_self _,r,vs++[v],q',us++[u],g1,_,rfl,rfl,by rw [hV,List.append_assoc]; rfl,by rw [List.length_append,Nat.add_assoc,show [v].length+r.length=r.length+1 from Nat.add_comm ..]; exact hz,k,
   hP.keep g1.w _ g1.w _ _ (hb4.keep (t:=s3.s.toks) c3.pd.1) nofun (λb z=>hb4.eq (ca.o z ca.hD) (c3.oh b z).2.2) (hb4.eq ca.di.symm c3.pi.2.2) hi3,c4⟩
theorem aj.freeze(x:aj w σ)(hP:aO σ w D):aj w ⟨λb=>σ.S b\/b=D,σ.α,σ.s⟩ :=
 ⟨x.base,λa o h=>.inl (x.baseS a o h),λa h=>h.elim (x.frz a) λe=>e▸hP.2.2,λq l=>(x.at_ q l).imp λo z=>⟨z.1,Rep.keep (σ:=σ) (σ':=⟨λb=>σ.S b\/b=D,σ.α,σ.s⟩) ⟨λ_1=>.inl,λ_1 _2 _3 e=>e⟩ rfl z.2⟩,x.inj,λq l h=>h.elim (x.apart q l) λe=>hP.2.1 q l e⟩
theorem au.freeze(p:au nv g0 σ0 g σ)(hn:σ0.h.get? D=none)(hP:aO σ g.w D):au nv g0 σ0 g ⟨λb=>σ.S b\/b=D,σ.α,σ.s⟩ :=
 ⟨⟨λa h=>.inl (p.mv.sub a h),p.mv.pres,p.mv.grow,λa h=>h.elim (p.mv.fnew a) λe=>.inr (e▸hn),p.mv.anew,p.mv.astab,p.mv.good.freeze hP,p.mv.gens,p.mv.os⟩,p.calm,p.held⟩
theorem RDs.intsOf:∀{vs:List AV}{us:List Value}{xs:List Int},cJ vs=some xs->RDs σ vs us->IntsAre us xs
 | [],_1,_2,e,h=>by cases e; cases h; exact .nil
 | a::r,_,_,e,h=>h.elim λv h=>h.elim λq h=>(gp e).elim λx e=>e.elim λy e=>by
  obtain⟨t,h2⟩:RD σ (.int x) v:=e.1▸h.2.1
  rw [h.1,e.2.2,h2]; exact .cons _ t (RDs.intsOf e.2.1 h.2.2)
theorem sS{vs:List AV}{us:List Value}(hl:σ.h.IsList D us.toArray)(r:RDs σ vs us):RV ⟨λb=>σ.S b\/b=D,σ.α,σ.s⟩ w π (bQ vs) (.ref D):=by
 unfold bQ
 cases e:cJ vs with
 | some xs=>exact⟨D,us,rfl,.inr rfl,hl,RDs.intsOf e r⟩
 | none=>exact⟨D,us,rfl,.inr rfl,hl,RDs.keep (σ:=σ) (σ':=⟨λb=>σ.S b\/b=D,σ.α,σ.s⟩) ⟨λ_1=>.inl,λ_1 _2 _3 e=>e⟩ r⟩
structure CompR(n:Nat)(ls:Loc)(g:G)(c:Lc)(v:AV)(g':G):Prop where
 a0:c.a=0
 nv:ao ls.v=true
 run:∀ F σ pos (use:Option (Value->Sem Unit)) A (Q:Value->Shared->Prop) E,Inv F ls g.w σ->bz n A ->
  (∀ L acc σ',au true g σ g' σ'->RV σ' g'.w F.π v acc->σ.h.get? L=none->aO σ' g'.w L->(∃ m,σ'.h.Ns L m)->gc M0 A E use Q acc L (.ok .next) σ'.s) ->
  wpC M0 A (comprehension (.ListComp c.elt [⟨.Name c.x c.px,c.it,[],0⟩] c.sc c.cp) c.sc F.env pos (newList []) false (eval c.it F.env) use) Q E σ.s
theorem nu(hI:Snd n I){c:Lc}:Al (lX I ls c) g (CompR n ls g c):=.wh λhc=>(hI.e c.it ls g).bd λv0 g1 h1=>wu.bd λxs g2 h3=>.dem λhz=>(nq hI xs g2).bd λq g' h7=>.ok (by
 obtain⟨rfl,h3⟩:=h3
 obtain⟨hc1,hc2⟩:=aw hc
 have ci:=sR hc2
 refine⟨ci.a0,ci.nv,λF σ pos use A Q E i rm fin=>?_⟩
 have hs:∀ x,foldedSetIterable c.it F.env x=pure x:=by intro x; cases e:c.it <;> first | rfl | (rw [e] at hc1; cases hc1)
 refine compC (g:=⟨.Name c.x c.px,c.it,[],0⟩) (gs:=[]) rfl hs (ph λy hy=>(ci.cell i hy).2) ci.kind0 (λy hy hl=>by
  have:=(ci.at_ y.1 y.2 hy).1
  rw [<- dY,this,hl]) ?_
 refine h1 F σ i A _ _ rm λu σ1 p1=>?_
 have i1:=i.post p1.po
 obtain⟨O,hO,ri⟩:=h3 (ao ls.v) F σ1 u i1 p1.rv
 refine ri A _ _ rm λw σ2 p2=>?_
 refine x21 p2.rv λit P I2=>?_
 have i2:=i1.post p2.po
 obtain rfl:=I2.u
 refine .of (wpAny_newList ?_)
 refine .of <| wpAny_newFunctionEnv (s:={ σ2.s with heap:=σ2.h.push { cls:=.type "list",data:=.seq ([]:List Value).toArray } }) (λy hy e=>?_) (by intro y hy; simp at hy) (λh' hns hsb=>?_) ci.kind0
 . rcases(ci.at_ y.1 y.2 hy).2 with z | z | z
   . exact nomatch e.symm.trans z
   . exact nomatch e.symm.trans z
   . exact nomatch e.symm.trans z.1
 dsimp only at hns hsb ⊢
 generalize hH2:σ2.h.push { cls:=.type "list",data:=.seq ([]:List Value).toArray }=H2 at hns hsb ⊢
 have hC:σ2.h.objs.size < H2.objs.size:=by rw [<- hH2,Heap.size_push]; exact Nat.lt_succ_self _
 have hD2:σ2.h.get? σ2.h.objs.size=none:=get?_size
 have hL2:σ2.h.get? H2.objs.size=none:=by
  cases e:σ2.h.get? H2.objs.size with
  | none=>rfl
  | some o=>exact absurd (Heap.lt_size e) (Nat.not_lt.mpr (Nat.le_of_lt hC))
 have old:∀ b o,σ2.h.get? b=some o->h'.get? b=some o:=λb o e=>SameBut.but hsb b o (Nat.ne_of_lt (Nat.lt_trans (Heap.lt_size e) hC)) (Heap.get?_push_of_some _ (hH2▸Heap.get?_push_of_some _ e))
 have hacc:h'.IsList σ2.h.objs.size #[]:=⟨_,SameBut.but hsb _ _ (Nat.ne_of_lt hC) (Heap.get?_push_of_some _ (hH2▸Heap.get?_push_size _ rfl)),rfl,_,rfl⟩
 have p4:au (ao ls.v) g2 σ2 g2 (σ2.to h' (σ2.s.toks+([]:List (Str×Value)).length)):=.stay i2.gd rfl rfl old
 have i4:=i2.post p4
 have pn:∀ {b},σ2.h.get? b=none->(∃ o,h'.get? b=some o)->aO (σ2.to h' (σ2.s.toks+([]:List (Str×Value)).length)) g2.w b:=λhb hx=>⟨(aU i2.gd hb).1,(aU i2.gd hb).2,hx⟩
 have hpL:=pn hL2 (hns.imp λo z=>z.elim λ_1 z=>z.elim λ_1 z=>z.1)
 have hpi:aO (σ2.to h' (σ2.s.toks+([]:List (Str×Value)).length)) g2.w it:=⟨λz=>(aU i1.gd I2.n).1 (I2.S _ z),λk l=>by show σ2.α k≠it; rw [I2.α]; exact(aU i1.gd I2.n).2 k l,I2.e.imp λo e=>old it o e⟩
 have hx2:P g2.w (σ2.to h' (σ2.s.toks+([]:List (Str×Value)).length)) (xs.map .int):=I2.p.keep g2.w _ g2.w _ _ (.tok old) nofun (λb z=>((hO b z).mv p2.po.mv).1.2.2.elim λo e=>(old b o e).trans e.symm) (I2.e.elim λo e=>(old it o e).trans e.symm) I2.x
 have d0:∀ {b},σ2.h.get? b=none->σ1.h.get? b=none:=λh=>p2.po.mv.fresh h
 have loop:aT M0 (A.mark none) (.compLoop (.ListComp c.elt [⟨.Name c.x c.px,c.it,[],0⟩] c.sc c.cp) 0 (.ref it) (.ref σ2.h.objs.size) (wt c.sc F H2.objs.size))
  (gc M0 A E use Q (.ref σ2.h.objs.size) H2.objs.size) (σ2.to h' (σ2.s.toks+([]:List (Str×Value)).length)).s:=by
  refine nr (F:=⟨wt c.sc F H2.objs.size,F.π,λb=>b=H2.objs.size⟩) (L:=H2.objs.size) (σ0:=σ1) (g0:=g2) (vs:=[]) (us:=[]) (O:=O) I2.p ⟨I2.n,d0 hD2,d0 hL2,λz=>I2.e.elim λo e=>(nomatch (z▸e).symm.trans hD2),Nat.ne_of_lt hC,λz=>I2.e.elim λo e=>(nomatch (z▸e).symm.trans hL2),λb z=>(hO b z).2.2,rfl⟩ rm.mark ci.nvF ?_ ci.x (λσ' us p i' hP hl hr=>?_) rfl (by rw [List.length_nil,Nat.zero_add]; exact hz) h7 hx2
   ⟨by rw [<- ci.nv] ; exact(p2.po.trans p4) |> λz=>⟨z.mv,z.calm,λe=>nomatch ci.nv.symm.trans e⟩,ci.inv i4 hns hpL,hpi,pn hD2 (hacc.imp λo z=>z.1),hacc,rfl,λb z=>((hO b z).mv (p2.po.trans p4).mv).1⟩
  . cases e:ah c.x (dW ls c.sc.names) with
    | none=>rfl
    | some v=>have:=(ci.free (eJ e).1).1; rw [ci.x] at this; cases this
  . have pL:=i'.fd.xP H2.objs.size rfl
    exact fin H2.objs.size (.ref σ2.h.objs.size) ⟨λb=>σ'.S b\/b=σ2.h.objs.size,σ'.α,σ'.s⟩ (au.trans ⟨p1.po.mv,p1.po.calm,nofun⟩ (p.freeze (d0 hD2) hP)) (sS hl hr) (p1.po.mv.fresh (d0 hL2)) ⟨λz=>z.elim pL.1 λz=>Nat.lt_irrefl _ (z▸hC),pL.2⟩ (i'.fd.loc.imp λm z=>z.1)
 exact gA loop (.of (I2.p.self _ _ _ _ _ _ hx2 loop)))
end
end
end
section
open PySem PySem.W PyProof.Rows PySem.Calls
section
section
variable {w w':W}{σ σ' σ0:St}{g g' g0 g1 g2:G}{nv:Bool}{n:Nat}{π:Str->Addr}{v a:AV}{ls l0:Loc}{I:Ev}{F:Fr'}{h':Heap}{t:Nat}{D L:Addr}{x:Str}{pos:Pos}
theorem ny(hI:Snd n I){c:Lc}:Al (lX I ls c) g (EOk n c.e ls g):=(nu hI).imp λv g' h F σ i A Q E rm q=>by
 obtain⟨elt,x,px,it,a,sc,cp⟩:=c
 obtain rfl:a=0:=h.a0
 show wpC _ _ (eval (.ListComp elt [⟨.Name x px,it,[],0⟩] sc cp) F.env) _ _ _
 rw [eval_ListComp]
 refine h.run F σ _ none A Q E i rm λL acc σ' p r hn hP hns=>hns.imp λm hm=>⟨hm,λh' hb=>?_⟩
 have hb:=SameBut.but hb
 have q':=p.lone2 (t:=σ'.s.toks) hn hP hb
 exact q acc (σ'.to h' σ'.s.toks) ⟨⟨q'.mv,q'.calm,λz=>nomatch h.nv.symm.trans z⟩,r.quiet (hb.keep hP.1) rfl⟩
theorem jk(hI:Snd n I){c:Lc}{y:Str}{py:Pos}(hc:ur ls y py c.sc c.cp=true):Al (Internal.bd (lX I ls c) λv=>Internal.bd (asg ls y (.v v)) λls'=>ok (.nx,ls')) g (SOk n (.Assign [.Name y py] c.e pos) ls g):=(nu hI).bd λv g' h=>.asg λhm=>.ok λF σ i A Q E rm q=>by
 obtain⟨elt,x,px,it,a,sc,cp⟩:=c
 obtain rfl:a=0:=h.a0
 show wpC _ _ (exec (.Assign [.Name y py] (.ListComp elt [⟨.Name x px,it,[],0⟩] sc cp) pos) F.env) _ _ _
 refine x02 (aw hc) λc12 c3=>?_
 refine x02 (aw c12) λc1 c2=>?_
 have hsw:swapsWith (.ListComp elt [⟨.Name x px,it,[],0⟩] sc cp) (some (.Name y py)) pos.line F.env=pure true:=by
  show(pure (F.env.blockKind==.function&&F.env.kindOf y==some .local&&py.line==cp.line&&!(sc.names.any λ(n,k)=>n==y&&(k==.local || k==.cell))):Sem Bool)=pure true
  have bk:F.env.blockKind=.function:=by unfold Env.blockKind; rw [i.fs.fn]; rfl
  rw [bk,i.kind (of_decide_eq_true c1) (.inl rfl),c2,c3]; rfl
 rw [exec_Assign_Name_used _ _ _ _ hsw]
 refine ad (aq (ad ?_))
 show wpC _ A (do let _ <- comprehension (.ListComp elt [⟨.Name x px,it,[],0⟩] sc cp) sc F.env _ (newList []) false (eval it F.env) (some (assign (.Name y py) F.env))) _ _ _
 refine ad ?_
 refine h.run F σ _ (some (assign (.Name y py) F.env)) A _ E i rm λL acc σ' p r hn hP hns=>?_
 refine x43 hns λm oL es ep eL dL mL=>?_
 show wpC _ A (assign (.Name y py) F.env acc) _ E _
 rw [PySem.assign_Name]
 refine ad (aq ?_)
 have i':Inv F ls g'.w σ':=i.post ⟨p.mv,p.calm,λz=>nomatch h.nv.symm.trans z⟩
 have hXL:¬ F.X L:=λz=>(i.fd.xP L z).2.2.elim λo e=>nomatch hn.symm.trans e
 refine fM (n:=n) (lv:=.v v) (u:=acc) hm i' r nofun A _ E rm λ_1 σ2 p2=>?_
 refine x02 (hP.smv hXL p2.1.mv) λhP2 e2=>?_
 have eL2:=e2.trans eL
 refine⟨m,⟨oL,es,ep,eL2,dL,mL⟩,λh' hb=>ae (ae ?_)⟩
 have hb:=SameBut.but hb
 have p3:aL F.X g σ g' σ2:=p.toS.trans (X':=F.X) (λ_1=>.inl) p2.1
 exact q .next (σ2.to h' σ2.s.toks) (.of (p3.lone2 hn hP2.1 hP2.2.1 hb) rfl (p2.2.1.lone hP2 hXL (λv z=>z.elim λo y=>by rw [<- Option.some.inj (eL2.symm.trans y.1)] at y; exact nomatch dL.symm.trans y.2) hb))
end
end
end
section
open PySem PySem.W PyProof.Rows PySem.Calls
section
section
variable {Ω:Om}{n:Nat}{g:G}{ls:Loc}{I:Ev}
theorem nA{α:Type}:∀{l:List α},nil l=true->l=[]
 | [],_1=>rfl
theorem wv{b:Bool}(h:(!b)=true):b=false:=Bool.not_eq_true' _ |>.mp h
theorem wx(hΩ:ΩOk n Ω)(hI:Snd n I){e:Expr}:Al (zl Ω I e ls) g (EOk n e ls g):=by
 cases e with
 | Constant c k p=>exact uV
 | Name x p=>exact .wh λh=>xB (wv h)
 | BinOp l op r p=>exact uW hI
 | UnaryOp op x p=>exact oH hI
 | BoolOp op vs p=>exact Al.as (qB (pos:=p) hI vs g) λF=>rfl
 | IfExp c a b p=>exact uZ hI
 | Compare l ops rs p=>exact .bdo λop h=>.bdo λr h'=>.wh λhs=>by rw [one_e h,one_e h']; exact oM hI hs
 | List es p=>exact xz hI
 | Tuple es k p=>exact uU hI
 | Attribute o name p=>exact .bdo λq h=>by rw [dw h]; exact xH hI
 | Subscript o i p=>exact .vw (λq h=>by rw [lW h]; exact mO hI) λ_1=>kH hI
 | Call f as ks p=>exact .vw (λq h=>.wh λc=>by rw [ki h]; exact v7 hΩ hI (aw c).1 (aw (aw c).2).1 (Nat.le_of_ble_eq_true (aw (aw c).2).2)) λh=>.wh λc=>by rw [nA c]; exact vO hΩ hI h
 | ListComp elt gs sc cp=>exact .bdo λc h=>by rw [qc h]; exact ny hI
 | _=>exact .no
theorem wy(hI:Snd n I){e:Expr}(hE:∀ {e g},Al (I.e e ls) g (EOk n e ls g)):Al (stepT Ω I e ls) g (TOk n e ls g):=by
 cases e with
 | UnaryOp op x p=>cases op with
  | Not=>exact Ax hI
  | _=>exact qz hI rfl
 | BoolOp op vs p=>exact Al.as (qA hI vs g) λF=>rfl
 | Compare l ops rs p=>exact .vw (λq h=>.bdo λr h'=>.wh λhs=>by rw [jC h,jC h']; exact ky hI hs) λ_1=>.bdo λop h=>.bdo λr h'=>.wh λhs=>by rw [one_e h,one_e h']; exact mu hI hs
 | IfExp c a b p=>exact .no
 | _=>exact qz hI rfl
theorem pm(hI:Snd n I){x:Str}{p pos:Pos}{e:Expr}:Al (qm I ls x p e) g (SOk n (.Assign [.Name x p] e pos) ls g) :=
 .vw (λc h=>.wh λhc=>by rw [qc h]; exact jk hI hc) λ_1=>.ei (λ_1=>o7 hI) λ_1=>.ei (λ_1=>pg hI) λ_1 =>
 .vw (λq h=>by
  cases hb:qe x <;> rw [hb] at h
  . cases h
  . rw [p9 h]; exact sM hI) λ_1=>.vw (λq h=>by rw [(im h).1]; exact wj hI) λ_1=>rZ hI
theorem pp(hI:Snd n I){o e:Expr}{name:Str}{p pos:Pos}:Al (qn I ls o name e) g (SOk n (.Assign [.Attribute o name p] e pos) ls g) :=
 .ei (λh=>wk hI (aw h).1) λ_1=>.ei (λh=>o8 hI h) λ_1=>.ei (λh=>nh hI h) λ_1=>oQ hI
theorem wz{e:Expr}{q:Ap}(h:oq ls e=some q):xApp e=some q:=by
 unfold oq at h
 cases hx:xApp e with
 | none=>rw [hx] at h; cases h
 | some q' =>
  rw [hx] at h
  dsimp only at h
  cases ho:uz (ls.get q'.y) <;> rw [ho] at h <;> cases h
  rfl
theorem wA(hI:Snd n I){s:Stmt}:Al (zo Ω I s ls) g (SOk n s ls g):=by
 cases s with
 | Pass p=>exact xC
 | Continue p=>exact my
 | Return v p=>exact rY hI
 | If t a b p=>exact If_ok hI
 | While t body els p=>exact .wh λh=>by rw [nA h]; exact vD hI
 | For x it body els p=>exact .wh λh=>.bdo λq hq=>(by
  rw [nA h,dw hq]
  exact .vw (λc hc=>by rw [(im hc).1]; exact sH hI) λ_1=>.wh λhs=>AD hI hs)
 | Expr e p=>exact .vw (λq h=>(by obtain⟨e1,e2,e3⟩:=Am (wz h); rw [e1]; exact sI hI e2 e3)) λ_1=>xD hI
 | AugAssign t op e p=>exact .bdo λq hq=>.wh λhd=>.bdo λlv hl=>(by
  rw [dw hq]
  cases lv with
  | v a=>exact Ay hI (wv hd) hl
  | _=>exact .no)
 | Assign ts e p=>exact .bdo λt ht=>(by
  rw [one_e ht]
  exact .vw (λq h=>by rw [dw h]; exact pm hI) λ_1=>.vw (λq h=>by rw [ki h]; exact pp hI) λ_1=>.vw (λq h=>by rw [Ah h]; exact sG hI) λ_1 =>
   .bdo λq h=>.wh λhc=>by rw [Ai h]; exact wn hI hc)
 | _=>exact .no
theorem Snd.step(hΩ:ΩOk n Ω)(hI:Snd n I):Snd n (step Ω I):=⟨λe ls g=>wx hΩ hI,λe ls g=>wy (Ω:=Ω) hI λ{e g}=>hI.e e ls g,λs ls g=>wA (Ω:=Ω) hI⟩
theorem Snd.ev(hΩ:ΩOk n Ω):∀ k,Snd n (ev Ω k)
 | 0=>.none
 | k+1=>.step hΩ (Snd.ev hΩ k)
end
end
end
section
open PySem PySem.W PyProof.Rows PySem.Calls
set_option backward.match.sparseCases false
section
noncomputable def grd{α:Type}(b:Bool)(o:Option α):Option α:=cond b o none
theorem iS{α:Type}{b:Bool}{o:Option α}{x:α}(h:grd b o=some x):b=true/\o=some x:=by
 cases b
 . exact xNS h
 . exact⟨rfl,h⟩
noncomputable def oP{α:Type}(o:Option α)(k:α->Prop):Prop:=match o with
 | some a=>k a
 | none=>False
theorem nC{α:Type}{o:Option α}{k:α->Prop}(h:oP o k):∃ a,o=some a/\k a:=by
 cases o with
 | none=>exact h.elim
 | some a=>exact⟨a,rfl,h⟩
noncomputable def bP(b:Bool)(p:Prop):Prop:=cond b p False
theorem bP_e{b:Bool}{p:Prop}(h:bP b p):b=true/\p:=by
 cases b
 . exact h.elim
 . exact⟨rfl,h⟩
noncomputable abbrev P0:Params:=w0.params
noncomputable def fnT(P:Params):List (Nat×Obj):=[(229,k14 29 "enforce_number" "flatbuffers.number_types" 363 228),(236,k14 32 "Write" "flatbuffers.encode" 733 235),(343,k35 3 "Builder.__init__" 336),(350,k36 4 "Builder.Clear" 349),(357,k36 5 "Builder.Output" 356),(364,k36 6 "Builder.StartObject" 363),(371,k36 7 "Builder.WriteVtable" 370),(378,k36 8 "Builder.EndObject" 377),(385,k36 9 "Builder.GrowByteBuffer" 384),(392,k36 10 "Builder.Head" 391),(399,k36 11 "Builder.Offset" 398),(406,k36 12 "Builder.Pad" 405),(413,k36 13 "Builder.Prep" 412),(420,k36 14 "Builder.PrependSOffsetTRelative" 419),(427,k36 15 "Builder.PrependUOffsetTRelative" 426),(434,k36 16 "Builder.StartVector" 433),(442,k35 17 "Builder.EndVector" 435),(449,k36 18 "Builder.CreateSharedString" 448),(456,k36 19 "Builder.CreateString" 455),(463,k36 20 "Builder.CreateByteVector" 462),(470,k36 21 "Builder.assertNested" 469),(477,k36 22 "Builder.assertNotNested" 476),(484,k36 23 "Builder.assertStructIsInline" 483),(491,k36 24 "Builder.Slot" 490),(499,k35 25 "Builder.__Finish" 492),(507,k35 26 "Builder.Finish" 500),(515,k35 27 "Builder.FinishSizePrefixed" 508),(522,k36 28 "Builder.Prepend" 521),(529,k36 29 "Builder.PrependSlot" 528),(536,k36 30 "Builder.PrependBoolSlot" 535),(550,k36 32 "Builder.PrependUint8Slot" 549),(557,k36 33 "Builder.PrependUint16Slot" 556),(564,k36 34 "Builder.PrependUint32Slot" 563),(571,k36 35 "Builder.PrependUint64Slot" 570),(578,k36 36 "Builder.PrependInt8Slot" 577),(585,k36 37 "Builder.PrependInt16Slot" 584),(592,k36 38 "Builder.PrependInt32Slot" 591),(599,k36 39 "Builder.PrependInt64Slot" 598),(606,k36 40 "Builder.PrependUOffsetTRelativeSlot" 605),(613,k36 41 "Builder.PrependStructSlot" 612),(620,k36 42 "Builder.PrependBool" 619),(634,k36 44 "Builder.PrependUint8" 633),(641,k36 45 "Builder.PrependUint16" 640),(648,k36 46 "Builder.PrependUint32" 647),(655,k36 47 "Builder.PrependUint64" 654),(662,k36 48 "Builder.PrependInt8" 661),(669,k36 49 "Builder.PrependInt16" 668),(676,k36 50 "Builder.PrependInt32" 675),(683,k36 51 "Builder.PrependInt64" 682),(690,k36 52 "Builder.ForceDefaults" 689),(697,k36 53 "Builder.PrependVOffsetT" 696),(704,k36 54 "Builder.Place" 703),(718,k36 56 "Builder.PlaceSOffsetT" 717),(725,k36 57 "Builder.PlaceUOffsetT" 724),(758,k14 45 "_law_kinds" "law_ke0008_01" 1429 757),(765,k14 46 "_law_take" "law_ke0008_01" 1429 764),(772,k14 47 "_law_value" "law_ke0008_01" 1429 771),(779,k14 48 "_law_text" "law_ke0008_01" 1429 778),(786,k14 49 "_law_put" "law_ke0008_01" 1429 785),(793,k14 50 "_law_slot" "law_ke0008_01" 1429 792),(800,k14 51 "_law_align" "law_ke0008_01" 1429 799),(807,k14 52 "_law_write" "law_ke0008_01" 1429 806),(814,k14 53 "_law_octets" "law_ke0008_01" 1429 813),(819,k14 54 "_law_numbers" "law_ke0008_01" 1429 818),(826,k14 55 "_law_offset" "law_ke0008_01" 1429 825),(831,k14 56 "_law_offsets" "law_ke0008_01" 1429 830),(838,k14 57 "_law_field" "law_ke0008_01" 1429 837),(843,k14 58 "_law_table" "law_ke0008_01" 1429 842),(850,k14 59 "_law_thing" "law_ke0008_01" 1429 849),(855,k14 60 "_law_finish" "law_ke0008_01" 1429 854),(862,k14 61 "law" "law_ke0008_01" 1429 861)]
noncomputable def nE:List (Nat×Nat):=[(229,2),(236,4),(343,2),(350,1),(357,1),(364,2),(371,1),(378,1),(385,1),(392,1),(399,1),(406,2),(413,3),(420,2),(427,2),(434,4),(442,1),(442,2),(449,2),(456,2),(463,2),(470,1),(477,1),(484,2),(491,2),(499,4),(507,2),(507,3),(515,2),(515,3),(522,3),(529,5),(606,4),(613,4),(620,2),(634,2),(641,2),(648,2),(655,2),(662,2),(669,2),(676,2),(683,2),(690,2),(697,2),(704,3),(718,2),(725,2),(758,0),(765,2),(772,2),(779,1),(786,3),(793,5),(800,3),(807,3),(814,3),(819,3),(826,2),(831,3),(838,4),(843,3),(850,3),(855,4),(862,1)]
noncomputable def qR:List Nat:=[536,550,557,564,571,578,585,592,599]
noncomputable def fdO(o:Obj):Option FuncData:=match o.data with
 | .func fd=>some fd
 | _1=>none
theorem fdO_e{o:Obj}{fd:FuncData}(h:fdO o=some fd):o.data=.func fd:=by
 unfold fdO at h
 cases e:o.data <;> rw [e] at h <;> first | exact xNS h | exact congrArg _ (Option.some.inj h)
noncomputable def fdA(P:Params)(f:Nat):Option FuncData:=(bA f (fnT P)).bind fdO
noncomputable abbrev fdN:Nat->Option FuncData:=fdA P0
noncomputable def cQ(fd:FuncData):List Str:=fd.params.args.map (·.arg)
noncomputable def dE(fd:FuncData):List Str:=match fd.params.vararg with
 | some a=>[a.arg]
 | none=>[]
noncomputable def sT:List Str->List AV->List (Str×LV)
 | [],_1=>[]
 | x::r,[]=>(x,.v .none)::sT r []
 | x::r,v::q=>(x,.v v)::sT r q
noncomputable def gB:List Str->List Value->List (Str×Value)
 | [],_1=>[]
 | x::r,[]=>(x,.none)::gB r []
 | x::r,v::q=>(x,v)::gB r q
noncomputable def locP(f:Nat)(fd:FuncData)(vs:List AV):Option (List (Str×LV)):=grd (nE.any λp=>Nat.beq p.1 f&&Nat.beq p.2 vs.length) (some (sT (cQ fd) vs))
noncomputable def locS(f:Nat)(fd:FuncData):List AV->Option (List (Str×LV))
 | []=>none
 | v::r=>grd (qR.any (Nat.beq f)) (grd (Nat.beq r.length 3) (grd (bC r) (some (sT (cQ fd++dE fd) [v,.tup r]))))
noncomputable def kN(f:Nat)(fd:FuncData)(vs:List AV):Option (List (Str×LV)):=cond (nil (dE fd)) (locP f fd vs) (locS f fd vs)
noncomputable def eO(k:AV->Option W->Prop)(x:Fl×Loc)(g:G):Prop:=oP (vn x.1) λv=>bP (aX v) (k v (cond g.wr (some g.w) none))
noncomputable def stmts:FuncBody->Option (List Stmt)
 | .stmts b=>some b
 | _1=>none
noncomputable def ak(Ω:Om)(f:Nat)(vs:List AV)(w:W)(k:AV->Option W->Prop):Prop:=oP (fdN f) λfd=>oP (stmts fd.body) λb=>oP (kN f fd vs) λl=>evS (ev Ω 60) b ⟨l,fd.scope.names⟩ ⟨w,false⟩ (eO k)
noncomputable def isLK:NameKind->Bool
 | .local=>true
 | .cell=>true
 | _1=>false
noncomputable def locN(l:List (Str×NameKind))(x:Str):Bool:=(l.lookup x).any isLK
theorem AQ{l:List (Str×NameKind)}{x:Str}(h:locN l x=true):l.lookup x=some .local\/l.lookup x=some .cell:=by
 unfold locN at h
 cases e:l.lookup x with
 | none=>rw [e] at h; exact xFT h
 | some k=>rw [e] at h; cases k <;> first | exact .inl rfl | exact .inr rfl | exact xFT h
noncomputable def ym(l:List (Str×NameKind)):Bool:=l.all λp=>match p.2 with
 | .free=>false
 | _1=>true
noncomputable def kO:List Str->Bool
 | []=>true
 | x::r=>!(r.any λy=>sq x y)&&kO r
theorem nF:∀{l:List Str},kO l=true->l.Nodup
 | [],_1=>List.nodup_nil
 | x::r,h=>List.nodup_cons.mpr ⟨λm=>(by unfold kO at h; rw [show(r.any λy=>sq x y)=true from List.any_eq_true.mpr ⟨x,m,uG x⟩] at h; exact nomatch (aw h).1),nF (aw h).2⟩
noncomputable def bD(fd:FuncData):List Str:=cQ fd++dE fd
noncomputable def okFd(K:Frag)(f:Nat)(fd:FuncData):Bool:=keepIn K (.ref f)&&(Nat.beq fd.globals mainGlobals&&(Nat.beq fd.builtins builtinsNs&&(fd.closure.isEmpty&&(codeIn K fd.code fd.qualname&&(isFn fd.scope.kind&&(!fd.scope.isCoroutine&&(!fd.scope.isGenerator&&(ym fd.scope.names&&(kO (bD fd)&&(bD fd).all (locN fd.scope.names))))))))))
theorem fnP(P:Params):(fnT P).all (λp=>(fdO p.2).all (okFd (KP P) p.1))=true:=by kernel_rfl
theorem fnK(P:Params):(fnT P).map (λp=>(KP P).lookup p.1)=(fnT P).map λp=>some p.2:=by kernel_rfl
theorem bndP(P:Params)(S:Setting)(a b c d e:Value):nE.map (λp=>(fdA P p.1).bind λfd=>peek (KP P) S (bindArgs fd ⟨[a,b,c,d,e].take p.2,[]⟩))=nE.map λp=>(fdA P p.1).map λfd=>gB (cQ fd) ([a,b,c,d,e].take p.2):=by kernel_rfl
theorem bnd5:nE.all (λp=>Nat.ble p.2 5)=true:=by kernel_rfl
theorem kwP(P:Params)(S:Setting)(a b c d:Value):((fdA P kwF).bind λfd=>peek (KP P) S (bindArgs fd ⟨[a,b,c],[(Str.ofString "file_identifier",d)]⟩))=(fdA P kwF).map λfd=>gB (cQ fd) [a,b,c,d]:=by kernel_rfl
theorem staP(P:Params)(S:Setting)(u a b c:Value)(D:Addr):qR.map (λf=>(fdA P f).bind λfd=>(peek1 (KP P) S (bindArgs fd ⟨[u,a,b,c],[]⟩)).map λr=>(r.1,r.2 D))=qR.map λf=>(fdA P f).map λfd=>(lC [a,b,c],some (gB (bD fd) [u,.ref D])):=by kernel_rfl
structure FnI(f:Nat)(fd:FuncData)(b:List Stmt):Prop where
 ok:FnOk f fd b
 nd:(bD fd).Nodup
 lo:∀ x∈bD fd,fd.scope.names.lookup x=some .local\/fd.scope.names.lookup x=some .cell
theorem fn_i{f:Nat}{fd:FuncData}{b:List Stmt}(h:fdN f=some fd)(hb:stmts fd.body=some b):FnI f fd b:=by
 unfold fdN fdA at h
 obtain⟨o,h1,h2⟩:=Option.bind_eq_some_iff.mp h
 have hm:=bL h1
 have e:=cj (fnP P0) _ hm
 rw [show fdO (f,o).2=some fd from h2] at e
 have e:okFd (KP P0) f fd=true:=e
 have at_:K0.lookup f=some o:=cV (fnK P0) _ hm
 obtain⟨k1,e⟩:=aw e
 obtain⟨k3,e⟩:=aw e
 obtain⟨k4,e⟩:=aw e
 obtain⟨k5,e⟩:=aw e
 obtain⟨k6,e⟩:=aw e
 obtain⟨k7,e⟩:=aw e
 obtain⟨k8,e⟩:=aw e
 obtain⟨k9,e⟩:=aw e
 obtain⟨k10,e⟩:=aw e
 obtain⟨k11,k12⟩:=aw e
 refine⟨⟨⟨o,at_,fdO_e h2⟩,k1,?_,Nat.eq_of_beq_eq_true k3,Nat.eq_of_beq_eq_true k4,List.isEmpty_iff.mp k5,k6,?_,wv k8,wv k9,λy z=>nomatch (cj k10 (y,.free) (mem_of_lookup z))⟩,nF k11,λx hx=>AQ (cj k12 x hx)⟩
 . cases hf:fd.body <;> rw [hf] at hb <;> cases hb
   rfl
 . exact of_decide_eq_true k7
section
variable {w w':W}{σ σ':St}{g g':G}{n:Nat}{π:Str->Addr}{v a:AV}{Ω:Om}{f:Nat}{fd:FuncData}{b:List Stmt}{vs:List AV}{us:List Value}{k:AV->Option W->Prop}
theorem fT:∀{ns:List Str}{us:List Value},(gB ns us).map (·.1)=ns
 | [],_1=>rfl
 | x::r,[]=>congrArg (x::·) (fT (us:=[]))
 | x::r,_::q=>congrArg (x::·) (fT (us:=q))
theorem gr.zip:∀{ns:List Str}{vs:List AV}{us:List Value},aQ vs=true->RVL σ w π vs us->gr σ w (sT ns vs) (gB ns us)
 | [],_1,_2,_3,_4=>rfl
 | x::r,[],us,hn,h=>by rw [show us=[] from h]; exact⟨.none,.none,_,rfl,rfl,rfl,rfl,gr.zip (vs:=[]) (us:=[]) rfl rfl⟩
 | x::r,v::q,us,hn,h=>by
  obtain⟨u,us',rfl,h1,h2⟩:=h
  unfold aQ at hn
  cases hv:aX v <;> rw [hv] at hn
  . cases hn
  . exact⟨v,u,_,rfl,rfl,RV.pi hv h1,hv,gr.zip hn h2⟩
theorem FnI.bind(fi:FnI f fd b){ns:List Str}(hs:∀ x∈ns,x∈bD fd)(hd:ns.Nodup)(hn:aQ vs=true)(r:RVL σ w π vs us):fg σ w fd (sT ns vs) (gB ns us) :=
 ⟨.zip hn r,by rw [fT]; exact hd,λx hx=>fi.lo _ (hs _ (by rw [<- fT (ns:=ns) (us:=us)]; exact List.mem_map_of_mem hx))⟩
theorem take5:∀{us:List Value},us.length<=5->∃ a b c d e,us=[a,b,c,d,e].take us.length
 | [],_1=>⟨.none,.none,.none,.none,.none,rfl⟩
 | [a],_1=>⟨a,.none,.none,.none,.none,rfl⟩
 | [a,b],_1=>⟨a,b,.none,.none,.none,rfl⟩
 | [a,b,c],_1=>⟨a,b,c,.none,.none,rfl⟩
 | [a,b,c,d],_1=>⟨a,b,c,d,.none,rfl⟩
 | [a,b,c,d,e],_1=>⟨a,b,c,d,e,rfl⟩
 | _1::_::_::_::_::_::_,h=>absurd h (by simp)
theorem wB{α:Type}{K:Frag}{M:Model}{A:Around}{E:Value->Shared->Prop}{s:Shared}{Q:α->Shared->Prop}{o:Obj}{r:Addr->α}(X:K.In s.heap)(q:Q (r s.heap.objs.size) { s with heap:=s.heap.push o }) :
 ∀ (t:Sem α) (g:Addr->Option α),peek1 K ⟨M.prog,M.w.params⟩ t=some (o,g)->(∀ D,g D=some (r D))->wpAny M A t Q E s:=by
 intro t
 induction t with
 | rule _1 k ih=>intro g e hg Γ p hΓ; exact ih () g e hg Γ p hΓ
 | point _1 k ih=>intro g e hg Γ p hΓ; exact ih () g e hg Γ p hΓ
 | ask k ih=>intro g e hg Γ p hΓ; exact ih _ g e hg Γ p hΓ
 | load a _1 k ih =>
  intro g e hg Γ p hΓ
  cases z:K.lookup a with
  | none=>unfold peek1 at e; rw [z] at e; cases e
  | some ob =>
   have e:peek1 K ⟨M.prog,M.w.params⟩ (k ob)=some (o,g):=by unfold peek1 at e; rw [z] at e; exact e
   have x:wpAny M A (loadPart a none >>= k) Q E s:=wpAny_bind (wpAny_loadPart (X _ _ z) (ih ob g e hg))
   exact x Γ p hΓ
 | alloc ob k ih =>
  intro g e hg
  obtain⟨e1,e2⟩:=Prod.mk.inj (Option.some.inj (show some (ob,λD=>peek K ⟨M.prog,M.w.params⟩ (k D))=some (o,g) from e))
  subst e1 e2
  show wpAny M A (alloc ob >>= k) Q E s
  exact wpAny_bind (wpAny_alloc ((Looks.of_peek (M:=M) (h:=s.heap.push ob) (X.keeps λb x hb=>Heap.get?_push_of_some _ hb) (hg s.heap.objs.size)).here (s:={ s with heap:=s.heap.push ob }) q))
 | _=>intro g e; cases e
theorem lnS{α:Type}{l:List α}{n:Nat}(h:l.length=n+1):∃ a r,l=a::r/\r.length=n:=by
 cases l with
 | nil=>exact absurd h.symm (Nat.succ_ne_zero n)
 | cons a r=>exact⟨a,r,rfl,Nat.succ.inj h⟩
theorem len3{α:Type}{l:List α}(h:l.length=3):∃ a b c,l=[a,b,c] :=
 x22 (lnS h) λa r e h=>x22 (lnS h) λb r' e' h=>x22 (lnS h) λc r'' e'' h=>⟨a,b,c,by rw [e,e',e'',List.length_eq_zero_iff.mp h]⟩
theorem len4{α:Type}{l:List α}(h:l.length=4):∃ a b c d,l=[a,b,c,d] :=
 x22 (lnS h) λa r e h=>x31 (len3 h) λb c d e'=>⟨a,b,c,d,by rw [e,e']⟩
theorem AR{l:List (Str×LV)}(h:fdN f=some fd)(fi:FnI f fd b)(hs:dE fd=[])(hl:locP f fd vs=some l)(hn:aQ vs=true)(gd:aj g.w σ)(r:RVL σ g.w π vs us):Wp n σ (bindArgs fd ⟨us,[]⟩) (PR true g σ g λb σ1=>fg σ1 g.w fd l b):=by
 refine(List.any_eq_true.mp (iS hl).1).elim λp hq=>?_
 have e:=aw hq.2
 have e1:=Nat.eq_of_beq_eq_true e.1
 have e2:p.2=us.length:=(Nat.eq_of_beq_eq_true e.2).trans (RVL.length r).symm
 refine x51 (take5 (us:=us) (by rw [<- e2]; exact Nat.le_of_ble_eq_true (cj bnd5 p hq.1))) λx1 x2 x3 x4 x5 hu=>?_
 have na:bD fd=cQ fd:=by unfold bD; rw [hs,List.append_nil]
 rw [<- Option.some.inj (iS hl).2]
 refine .any λA Q E rm q=>kp_binds gd.base (λS=>?_) _ _ _ _ (q (gB (cQ fd) us) σ ⟨.refl gd,fi.bind (λx hx=>na▸hx) (na▸fi.nd) hn r⟩)
 have:=cV (bndP P0 S x1 x2 x3 x4 x5) p hq.1
 rw [e1,show fdA P0 f=some fd from h,e2,<- hu] at this
 exact this
theorem sta_p(h:fdN f=some fd)(hf:qR.any (Nat.beq f)=true)(S:Setting)(u x1 x2 x3:Value):∃ gg,peek1 (KP P0) S (bindArgs fd ⟨[u,x1,x2,x3],[]⟩)=some (lC [x1,x2,x3],gg)/\∀ D,gg D=some (gB (bD fd) [u,.ref D]):=by
 refine(List.any_eq_true.mp hf).elim λq hq=>?_
 have key:=λD=>cV (staP P0 S u x1 x2 x3 D) _ hq.1
 rw [<- Nat.eq_of_beq_eq_true hq.2,show fdA P0 f=some fd from h] at key
 refine x12 (Option.map_eq_some_iff.mp (key 0)) λp e1 e2=>?_
 refine⟨p.2,e1.trans (congrArg some (Prod.ext (Prod.mk.inj e2).1 rfl)),λD=>?_⟩
 refine x12 (Option.map_eq_some_iff.mp (key D)) λp' e1' e2'=>?_
 rw [Option.some.inj (e1.symm.trans e1')]
 exact(Prod.mk.inj e2').2
theorem AS{l:List (Str×LV)}(h:fdN f=some fd)(fi:FnI f fd b)(hl:locS f fd (a::vs)=some l)(hn:aX a=true)(gd:aj g.w σ){u:Value}(ru:RV σ g.w π a u)(r:RVL σ g.w π vs us):Wp n σ (bindArgs fd ⟨u::us,[]⟩) (PR true g σ g λb σ1=>fg σ1 g.w fd l b):=by
 have h2:=iS (iS hl).2
 have h3:=iS h2.2
 refine x31 (len3 ((RVL.length r).trans (Nat.eq_of_beq_eq_true h2.1))) λx1 x2 x3 e=>?_
 rw [<- Option.some.inj h3.2]
 refine x12 (sta_p h (iS hl).1 ⟨M0.prog,M0.w.params⟩ u x1 x2 x3) λgg e1 e2=>?_
 refine .any λA Q E rm q=>?_
 have p:au true g σ g (σ.new (lC us) σ.s.toks):=.new gd rfl rfl rfl
 refine wB (M:=M0) (o:=lC us) (r:=λD=>gB (bD fd) [u,.ref D]) gd.base ?_ _ gg (by rw [e]; exact e1) e2
 exact q _ (σ.new (lC us) σ.s.toks) ⟨p,fi.bind (π:=π) (vs:=[a,.tup vs]) (λ_1 h=>h) fi.nd (by unfold aQ; rw [hn]; rfl)
  ⟨u,_,rfl,RV.post gd p (.inr (.inr ⟨rfl,rfl⟩)) ru,.ref _,_,rfl,⟨_,_,rfl,.inr rfl,gG,RDs.keep .new (RVL.data h3.1 r)⟩,rfl⟩⟩
theorem jP{l:List (Str×LV)}(h:fdN f=some fd)(fi:FnI f fd b)(hl:kN f fd vs=some l)(hn:aQ vs=true)(gd:aj g.w σ)(r:RVL σ g.w π vs us):Wp n σ (bindArgs fd ⟨us,[]⟩) (PR true g σ g λb σ1=>fg σ1 g.w fd l b):=by
 unfold kN at hl
 cases hs:nil (dE fd) with
 | true=>rw [hs] at hl; exact AR h fi (nA hs) hl hn gd r
 | false =>
  rw [hs] at hl
  cases vs with
  | nil=>exact xNS hl
  | cons a vs =>
   refine x23 r λu us' e r1 r2=>?_
   rw [e]
   refine AS h fi hl ?_ gd r1 r2
   unfold aQ at hn
   cases hv:aX a with
   | true=>rfl
   | false=>rw [hv] at hn; exact xFT hn
theorem gO_er{u:Value}(w:W)(p:ER true (g00 w) σ v g' π u σ'):ER true (g00 w) σ v (gO w (cond g'.wr (some g'.w) none)) π u σ':=by
 obtain⟨w',wr⟩:=g'
 cases wr with
 | true=>exact p
 | false=>obtain rfl:w'=w:=(p.po.calm rfl).2.1; exact p
theorem nG(hΩ:ΩOk n Ω)(h:ak Ω f vs w k):∃ v o,k v o/\aX v=true/\keepIn K0 (.ref f)=true/\∃ fd b l,fdN f=some fd/\FnI f fd b/\kN f fd vs=some l/\∀ {π σ args},aj w σ->Wp n σ (bindArgs fd args) (PR true (g00 w) σ (g00 w) λb σ1=>fg σ1 w fd l b) ->
 CWp (n+1) σ (.call (.ref f) args) (ER true (g00 w) σ v (gO w o) π):=by
 refine x12 (nC h) λfd hf h=>x12 (nC h) λb hb h=>x12 (nC h) λl hl h=>?_
 have fi:=fn_i hf hb
 refine x22 (ff (Snd.ev hΩ 60) b ⟨l,fd.scope.names⟩ ⟨w,false⟩ _ h) λx g' hx hk=>x12 (nC hk) λv hv hk=>?_
 exact⟨v,_,(bP_e hk).2,(bP_e hk).1,fi.ok.keep,fd,b,l,hf,fi,hl,λgd hb=>(vo (g:=⟨w,false⟩) fi.ok hx hv (bP_e hk).1 gd hb).mono λu σ' p=>gO_er w p⟩
theorem kP(hΩ:ΩOk n Ω)(hn:aQ vs=true)(h:ak Ω f vs w k):∃ v o,k v o/\aX v=true/\keepIn K0 (.ref f)=true/\∀ π σ us,aj w σ->RVL σ w π vs us->CWp (n+1) σ (.call (.ref f) ⟨us,[]⟩) (ER true (g00 w) σ v (gO w o) π):=by
 obtain⟨v,o,h1,h2,h3,fd,b,l,hf,fi,hl,run⟩:=nG hΩ h
 exact⟨v,o,h1,h2,h3,λπ σ us gd r=>run gd (jP hf fi hl hn gd r)⟩
end
end
end
section
open PySem PySem.W PyProof.Rows PySem.Calls
section
noncomputable abbrev kQ:=List AV->W->(AV->Option W->Prop)->Prop
noncomputable def Ω0:Om:=λ_1 _2 _3 _4=>False
noncomputable def bg(f:Nat)(sp:kQ)(Ω:Om):Om:=λf' vs w k=>match Nat.beq f' f with
 | true=>sp vs w k
 | false=>Ω f' vs w k
noncomputable def addG(fs:List Nat)(Ω:Om):Om:=λf vs w k=>match fs.any (Nat.beq f) with
 | true=>ak Ω f vs w k
 | false=>Ω f vs w k
section
variable {w w':W}{σ σ':St}{g g':G}{n:Nat}{π:Str->Addr}{v a:AV}{Ω Ω':Om}{f:Nat}{k:AV->Option W->Prop}
theorem CWp.up{c:Code}{Φ:Value->St->Prop}(x:CWp n σ c Φ):CWp (n+1) σ c Φ:=λA Q r q=>x A Q (r.less (Nat.le_succ n)) q
theorem RVL.snoc{b:AV}{u:Value}:∀{vs:List AV}{us:List Value},RVL σ w π vs us->RV σ w π b u->RVL σ w π (vs++[b]) (us++[u])
 | [],_1,h,r=>by rw [show _=[] from h]; exact⟨u,[],rfl,r,rfl⟩
 | _1::_,_,h,r=>h.elim λv h=>h.elim λq h=>⟨v,_,by rw [h.1]; rfl,h.2.1,RVL.snoc h.2.2 r⟩
theorem AT:∀ m,(nE.any λp=>Nat.beq p.1 kwF&&Nat.beq p.2 m)=true->m=4:=λm h=>by
 refine x12 (List.any_eq_true.mp h) λp hp e=>?_
 rw [<- Nat.eq_of_beq_eq_true (aw e).2]
 have:=cj (f:=λp=>!(Nat.beq p.1 kwF) || Nat.beq p.2 4) (l:=nE) (by kernel_rfl) p hp
 rw [(aw e).1] at this
 exact Nat.eq_of_beq_eq_true this
theorem yo:(fdA P0 kwF).map dE=some []:=by kernel_rfl
theorem qS(hΩ:ΩOk n Ω){vs:List AV}{va:AV}(hn:aQ (vs++[va])=true)(h:ak Ω kwF (vs++[va]) w k):∃ v o,k v o/\aX v=true/\keepIn K0 (.ref kwF)=true/\∀ π σ us ua,aj w σ->RVL σ w π vs us->RV σ w π va ua ->
 CWp (n+1) σ (.call (.ref kwF) ⟨us,[(Str.ofString "file_identifier",ua)]⟩) (ER true (g00 w) σ v (gO w o) π):=by
 refine jZ (nG hΩ h) λv o h1 h2 h3 fd b l hf fi hl run=>?_
 refine⟨v,o,h1,h2,h3,λπ σ us ua gd r ra=>run gd ?_⟩
 have rr:=r.snoc ra
 have hf':fdA P0 kwF=some fd:=hf
 have hs:dE fd=[]:=by have:=yo; rw [hf'] at this; exact Option.some.inj this
 unfold kN at hl
 rw [hs] at hl
 have hl:=iS hl
 have hz:=AT _ hl.1
 rw [List.length_append] at hz
 refine x31 (len3 ((RVL.length r).trans (Nat.succ.inj hz):us.length=3)) λa1 a2 a3 e48_3=>?_
 have na:bD fd=cQ fd:=by unfold bD; rw [hs,List.append_nil]
 rw [<- Option.some.inj hl.2]
 refine .any λA Q E rm q=>kp_binds gd.base (λS=>?_) _ _ _ _ (q (gB (cQ fd) (us++[ua])) σ ⟨.refl gd,fi.bind (λx hx=>na▸hx) (na▸fi.nd) hn rr⟩)
 have:=kwP P0 S a1 a2 a3 ua
 rw [hf'] at this
 rw [e48_3]
 exact this
theorem zC{u:Value}:∀{o:Option W},ER true (g00 w) σ v (gO w o) π u σ'->ER true (g00 w) σ v (gO w (some (o.getD w))) π u σ'
 | none,p=>⟨⟨p.po.mv,nofun,nofun⟩,p.rv⟩
 | some _1,p=>p
noncomputable abbrev wrK(w:W)(k:AV->Option W->Prop)(v:AV)(o:Option W):Prop:=k v (some (o.getD w))
theorem ΩOk.over(hΩ:ΩOk n Ω)(h:∀ f vs w k,Ω' f vs w k->Ω f vs w k\/ak Ω f vs w k\/ak Ω f vs w (wrK w k)):ΩOk (n+1) Ω' where
 ok f vs w k hn e:=(h f vs w k e).elim (λe=>(hΩ.ok f vs w k hn e).imp λv z=>z.imp λo z=>⟨z.1,z.2.1,z.2.2.1,λπ σ us gd r=>(z.2.2.2 π σ us gd r).up⟩) λe=>e.elim (kP hΩ hn) λe=>(kP hΩ hn e).imp λv z=>z.elim λo z=>⟨some (o.getD w),z.1,z.2.1,z.2.2.1,λπ σ us gd r=>(z.2.2.2 π σ us gd r).mono λu σ'=>zC⟩
 kw vs va w k hn e:=(h kwF _ w k e).elim (λe=>(hΩ.kw vs va w k hn e).imp λv z=>z.imp λo z=>⟨z.1,z.2.1,z.2.2.1,λπ σ us ua gd r ra=>(z.2.2.2 π σ us ua gd r ra).up⟩) λe=>e.elim (qS hΩ hn) λe=>(qS hΩ hn e).imp λv z=>z.elim λo z=>⟨some (o.getD w),z.1,z.2.1,z.2.2.1,λπ σ us ua gd r ra=>(z.2.2.2 π σ us ua gd r ra).mono λu σ'=>zC⟩
theorem ΩOk.zero:ΩOk n Ω0:=⟨λ_1 _2 _3 _4 _5 e=>e.elim,λ_1 _2 _3 _4 _5 e=>e.elim⟩
theorem ΩOk.add(hΩ:ΩOk n Ω){sp:kQ}(h:∀ vs w k,sp vs w k->ak Ω f vs w (wrK w k)):ΩOk (n+1) (bg f sp Ω):=hΩ.over λf' vs w k e=>by
 unfold bg at e
 cases c:Nat.beq f' f <;> rw [c] at e
 . exact .inl e
 . exact .inr (.inr (Nat.eq_of_beq_eq_true c▸h vs w k e))
theorem ΩOk.addR(hΩ:ΩOk n Ω){sp:kQ}(h:∀ vs w k,sp vs w k->ak Ω f vs w k):ΩOk (n+1) (bg f sp Ω):=hΩ.over λf' vs w k e=>by
 unfold bg at e
 cases c:Nat.beq f' f <;> rw [c] at e
 . exact .inl e
 . exact .inr (.inl (Nat.eq_of_beq_eq_true c▸h vs w k e))
theorem ΩOk.addG(hΩ:ΩOk n Ω){fs:List Nat}:ΩOk (n+1) (addG fs Ω):=hΩ.over λf' vs w k e=>by
 unfold Internal.addG at e
 cases c:fs.any (Nat.beq f') <;> rw [c] at e
 . exact .inl e
 . exact .inr (.inl e)
end
end
end
section
open PySem PySem.W PyProof.Rows PySem.Calls
open Builtin Builtin.ObjectAttr
set_option backward.match.sparseCases false
section
inductive IV where
 | v (a:AV) | ba (k:Int) | dict
noncomputable def zD(I:Ev)(ls:Loc)(e:Expr):EM IV:=ei (ik e) (ok .dict) (vw (km e "bytearray") (λq=>bd (uC I ls (.Name q.x q.px) q.as) λk=>ok (.ba k)) (wh (!cz e) (bd (I.e e ls) λv=>wh (jy v) (ok (.v v)))))
noncomputable def zE(I:Ev)(ls:Loc)(K:EM (List (Nat×IV)))(t:Expr)(els:List Stmt):EM (List (Nat×IV)):=wh (nil els) (bd (I.t t ls) λb=>wh (!b) K)
noncomputable def wC(I:Ev)(ls:Loc)(self:Str)(K:EM (List (Nat×IV)))(ts:List Expr)(e:Expr):EM (List (Nat×IV)):=bd (opt (one ts)) λt=>bd (opt (jv t)) λq=>bd (opt (fJ q.1)) λy=>wh (sq y.1 self) (bd (opt (dI q.2.1 gk)) λi=>bd (zD I ls e) λv=>bd K λq=>ok ((i,v)::q))
noncomputable def zF(I:Ev)(ls:Loc)(self:Str)(s:Stmt)(K:EM (List (Nat×IV))):EM (List (Nat×IV)):=match s with
 | .If t _1 els _2=>zE I ls K t els
 | .Assign ts e _1=>wC I ls self K ts e
 | _1=>no
theorem wD{I:Ev}{ls:Loc}{self:Str}{K:EM (List (Nat×IV))}{g:G}{P:Stmt->List (Nat×IV)->G->Prop}(h1:∀ t a els p,Al (zE I ls K t els) g (P (.If t a els p)))(h2:∀ ts e p,Al (wC I ls self K ts e) g (P (.Assign ts e p)))(s:Stmt):Al (zF I ls self s K) g (P s):=by
 cases s with
 | If t a els p=>exact h1 t a els p
 | Assign ts e p=>exact h2 ts e p
 | _=>exact .no
noncomputable def wE(I:Ev)(ls:Loc)(self:Str):List Stmt->EM (List (Nat×IV)):=List.foldr (zF I ls self) (ok [])
noncomputable def valR:AV->Value->Prop
 | .none,u=>u=.none
 | .bool b,u=>u=.bool b
 | .int i,u=>∃ t,u=.int i t
 | _1,_2=>False
noncomputable def RIV(L:List (Addr×Obj)):IV->Value->Prop
 | .v a,u=>valR a u
 | .ba k,u=>∃ B,u=.ref B/\(B,cB (List.replicate k.toNat 0))∈L
 | .dict,u=>∃ B,u=.ref B/\(B,emptyDict)∈L
theorem RIV.mono{L L':List (Addr×Obj)}(h:∀ x∈L,x∈L'){u:Value}:∀{v:IV},RIV L v u->RIV L' v u
 | .v _1,x=>x
 | .ba _1,x=>x.imp λB e=>⟨e.1,h _ e.2⟩
 | .dict,x=>x.imp λB e=>⟨e.1,h _ e.2⟩
noncomputable def gM(a:Array (Option Value))(i:Nat)(u:Value):Array (Option Value):=(a++Array.replicate (i+1-a.size) none).setIfInBounds i (some u)
noncomputable def kR(L:List (Addr×Obj)):List (Nat×IV)->Array (Option Value)->Array (Option Value)->Prop
 | [],a,b=>b=a
 | (i,v)::r,a,b=>∃ u,RIV L v u/\kR L r (gM a i u) b
theorem kR.mono{L L':List (Addr×Obj)}(h:∀ x∈L,x∈L'):∀{q:List (Nat×IV)}{a b:Array (Option Value)},kR L q a b->kR L' q a b
 | [],_1,_2,x=>x
 | _1::_,_,_,x=>x.imp λu x=>⟨x.1.mono h,kR.mono h x.2⟩
noncomputable abbrev nH(dx:Addr)(sl:Array (Option Value)):Obj:=⟨.ref CB,some dx,.plain,sl⟩
section
variable {w w':W}{σ σ' σ0:St}{g g' g0 g1 g2:G}{nv:Bool}{n:Nat}{π:Str->Addr}{v a:AV}{ls:Loc}{I:Ev}{F:Fr'}{h':Heap}{t:Nat}{D dx:Addr}{pos:Pos}{L L':List (Addr×Obj)}{o o':Obj}{sl:Array (Option Value)}
theorem yp{u:Value}{a:AV}(h:jy a=true)(r:RV σ w π a u):valR a u:=by
 rcases qC h with z | ⟨b,z⟩ | ⟨i,z⟩ <;> rw [z] at r ⊢ <;> exact r
theorem MSt.fresh(m:MSt F ls g0 σ0 g σ L)(q:au (ao ls.v) g σ g1 σ')(hn:σ.h.get? D=none)(hP:aO σ' g1.w D)(hD:σ'.h.get? D=some o):MSt F ls g0 σ0 g1 σ' ((D,o)::L):=by
 have s:=m.step q
 refine⟨s.i,s.p,λx hx=>(List.mem_cons.mp hx).elim (λe=>?_) (s.h x),List.nodup_cons.mpr ⟨λhm=>?_,m.nd⟩⟩
 . rw [e]; exact⟨m.p.mv.fresh hn,hP,hD⟩
 . refine x12 (List.mem_map.mp hm) λx hx e=>?_
   have:=(m.h x hx).2.2
   rw [e,hn] at this; cases this
structure IS(F:Fr')(ls:Loc)(g0:G)(σ0:St)(g:G)(σ:St)(D dx:Addr)(sl:Array (Option Value))(L:List (Addr×Obj)):Prop where
 m:MSt F ls g0 σ0 g σ L
 n:σ0.h.get? D=none
 p:aO σ g.w D
 e:σ.h.get? D=some (nH dx sl)
 x:¬ F.X D
 ne:D ∉ L.map (·.1)
 dx:(dx,emptyDict)∈L
theorem IS.step(s:IS F ls g0 σ0 g σ D dx sl L)(q:au (ao ls.v) g σ g1 σ'):IS F ls g0 σ0 g1 σ' D dx sl L:=⟨s.m.step q,s.n,(s.p.mv q.mv).1,(s.p.mv q.mv).2.trans s.e,s.x,s.ne,s.dx⟩
theorem IS.fresh{B:Addr}(s:IS F ls g0 σ0 g σ D dx sl L)(q:au (ao ls.v) g σ g1 σ')(hn:σ.h.get? B=none)(hP:aO σ' g1.w B)(hB:σ'.h.get? B=some o):IS F ls g0 σ0 g1 σ' D dx sl ((B,o)::L) :=
 have k:=s.step q
 ⟨s.m.fresh q hn hP hB,k.n,k.p,k.e,k.x,λz=>(List.mem_cons.mp z).elim (λz=>by have z:D=B:=z; rw [z] at s; exact nomatch hn.symm.trans s.e) k.ne,.tail _ k.dx⟩
theorem IS.set{sl':Array (Option Value)}(s:IS F ls g0 σ0 g σ D dx sl L)(hb:But D σ.h h')(hn:h'.get? D=some (nH dx sl')):IS F ls g0 σ0 g (σ.to h' t) D dx sl' L :=
 ⟨⟨s.m.i.lone s.p s.x (λv z=>z.elim λo y=>by rw [<- Option.some.inj (s.e.symm.trans y.1)] at y; exact nomatch y.2) hb,s.m.p.lone2 s.n s.p hb,λx hx=>⟨(s.m.h x hx).1,(s.m.h x hx).2.1.lone hb ⟨_,hn⟩,hb _ _ (λz=>s.ne (z▸List.mem_map_of_mem hx)) (s.m.h x hx).2.2⟩,s.m.nd⟩,
  s.n,⟨s.p.1,s.p.2.1,_,hn⟩,hn,s.x,s.ne,s.dx⟩
noncomputable def InitV(n:Nat)(ls:Loc)(g:G)(e:Expr)(v:IV)(g':G):Prop:=(!cz e)=true/\∀ F σ0 g0 σ D dx sl L,IS F ls g0 σ0 g σ D dx sl L->Wp n σ (eval e F.env) λu σ'=>∃ L',IS F ls g0 σ0 g' σ' D dx sl (L'++L)/\RIV L' v u
theorem wF(hI:Snd n I){e:Expr}:Al (zD I ls e) g (InitV n ls g e):=.ei (λh=>.ok (by
 refine(wl h).elim λp e68_1=>?_
 subst e68_1
 exact⟨rfl,λF σ0 g0 σ D dx sl L s=>(kI F σ s.m.i).mono λu σ' q=>q.rv.elim λB z=>z.elim λoB z=>⟨[(B,emptyDict)],s.fresh q.po z.2.1 z.2.2.1 (z.2.2.2.1.trans (by rw [z.2.2.2.2])),B,z.1,.head _⟩⟩))
 λ_1=>.vw (λq hq=>(nf hI).bd λk g1 h=>.ok (by
  rw [(im hq).1]
  exact⟨rfl,λF σ0 g0 σ D dx sl L s=>(h F σ s.m.i).mono λu σ' q=>q.rv.elim λB z=>⟨[(B,_)],s.fresh q.po z.2.1 z.2.2.1 z.2.2.2,B,z.1,.head _⟩⟩))
 λ_1=>.wh λhc=>(hI.e e ls g).bd λv g1 h=>.wh λhv=>.ok ⟨hc,λF σ0 g0 σ D dx sl L s=>(h F σ s.m.i).mono λu σ' q=>⟨[],s.step q.po,yp hv q.rv⟩⟩
theorem iT(hI:Snd n I){self:Str}:∀ (b:List Stmt) (g:G),Al (wE I ls self b) g λq g'=>∀ F σ0 g0 σ D dx sl L,kj self=false->ls.get self=some (.v (.top D))->IS F ls g0 σ0 g σ D dx sl L ->
 Wp n σ (execs b F.env) λf σ'=>f=.next/\∃ sl' L',IS F ls g0 σ0 g' σ' D dx sl' (L'++L)/\kR L' q sl sl'
 | [],g=>.ok λF σ0 g0 σ D dx sl L hd hs s=>.pure ⟨rfl,sl,[],s,rfl⟩
 | st::r,g=>wD (P:=λst q g'=>∀ F σ0 g0 σ D dx sl L,kj self=false->ls.get self=some (.v (.top D))->IS F ls g0 σ0 g σ D dx sl L ->
  Wp n σ (execs (st::r) F.env) λf σ'=>f=.next/\∃ sl' L',IS F ls g0 σ0 g' σ' D dx sl' (L'++L)/\kR L' q sl sl') (λt a els p=>.wh λhe=>(hI.t t ls g).bd λb g1 h=>.wh λhb=>(iT hI r g1).imp λq g' k F σ0 g0 σ D dx sl L hd hs s=>(by
   rw [nA he,cW,exec_If]
   refine .bind (.stand ((h F σ s.m.i).bnd λu σ1 p1=>?_))
   rw [p1.rv,wv hb]
   exact .pure (k F σ0 g0 σ1 D dx sl L hd hs (s.step p1.po))))
  (λts e p=>.bdo λt ht=>.bdo λq hq=>.bdo λy hy=>.wh λhsf=>.bdo λi hi=>(wF hI).bd λv g1 h=>(iT hI r g1).bd λqq g' k=>.ok λF σ0 g0 σ D dx sl L hd hs s=>(by
   obtain⟨o,name,pn⟩:=q
   obtain⟨yn,py⟩:=y
   obtain rfl:yn=self:=bZ.mp hsf
   rw [one_e ht,ki hq,show o=.Name yn py from dw hy,cW,plainObj_exec_Assign_Attribute _ _ _ _ _ (aZ h.1)]
   refine .bind (.stand ((h.2 F σ0 g0 σ D dx sl L s).bnd λu σ1 z=>?_))
   refine x12 z λL1 s1 r1=>?_
   refine x12 (s1.m.i.look hs hd) λu' hu ld=>?_
   obtain rfl:u'=.ref D:=hu
   refine .bnd (Φ:=λ_1 σ2=>IS F ls g0 σ0 g1 σ2 D dx (gM sl i u) (L1++L)) ?_ λ_1 σ2 s2=>.pure (.mono (k F σ0 g0 σ2 D dx _ _ hd hs s2) λf σ3 z=>?_)
   . show Wp n σ1 (do
      let ov <- holding [u] (eval (.Name yn py) F.env)
      standAt pn.atName
      holding [u,ov] (setAttr ov name u)
      release [u,ov] []) _
     rw [eval_Name F.env yn py (kr hd).1]
     refine .bnd (Φ:=λv σ2=>v=.ref D/\σ2=σ1) (.hold (.stand (.any λA Q E rm q=>ld A Q E (q _ _ ⟨rfl,rfl⟩)))) λv σ2 z=>?_
     rw [z.1,z.2]
     refine(qD hi).elim λqq f=>?_
     refine .stand (.bnd (Φ:=λ_1 σ2=>IS F ls g0 σ0 g1 σ2 D dx (gM sl i u) (L1++L)) (.hold (.any λA Q E rm q=>?_)) λ_1 σ3 z=>λA Q E rm q=>cn (q () σ3 z))
     have s1:=s1
     refine kz s1.m.i.gd (o:=nH dx sl) ⟨s1.e,rfl,rfl,(s1.m.h _ s1.dx).2.2⟩ f (q () (σ1.to _ _) ?_)
     exact s1.set (sl':=gM sl i u) (SameBut.but (Heap.SameBut.update ..)) (Heap.get?_update_self (se i u) s1.e rfl)
   . refine tE z λz1 sl' L2 s3 z2=>?_
     exact⟨z1,sl',L2++L1,by rw [List.append_assoc]; exact s3,u,r1.mono λx hx=>List.mem_append_right _ hx,z2.mono λx hx=>List.mem_append_left _ hx⟩)) st
end
end
end
section
open PySem PySem.W PyProof.Rows PySem.Calls
section
section
variable {prog:Program}{w:World}{A:Around}{E:Value->Shared->Prop}{K:Frag}{CB:Addr}{R:Result->Shared->Prop}{h:Heap}{g:Array GenState}{d:Drawn}{t:Nat}{os:OsState}
theorem makeC{rest:List Value}{fI:Addr}(X:K.In h)(hm:makesIn K CB=true)(hi:findIn K (.ref CB) "__init__"=some (some (.ref fI)))(hf:typeIn K (.ref fI)=some (.type "function"))
 (hq:aT (model prog w) (A.under (.builtin "type.__call__" ⟨.ref CB::rest,[]⟩)) (.call (.ref fI) ⟨.ref (h.objs.size+1)::rest,[]⟩)
  (λr s'=>match r with | .ok (.ret v)=>v=.none/\R (.ok (.ret (.ref (h.objs.size+1)))) s' | _1=>False) ⟨(h.push emptyDict).push (instObj CB h.objs.size),g,d,t,os⟩) :
 aT (model prog w) A (.call (.ref CB) ⟨rest,[]⟩) R ⟨h,g,d,t,os⟩:=by
 have Y:=makes_of (M:=model prog w) X hm
 have Y':=Y
 have hi0:=looks_findIn (M:=model prog w) X hi
 obtain⟨⟨oc,od,cd,sl,hC,e1,e2,e4⟩,made,base,self,top,call,typ⟩:=Y
 refine aH rfl ?_
 show wpC _ _ (callAny (.ref CB) _) _ _ _
 unfold callAny
 refine ad (.of (wpAny_load hC ?_))
 show wpC _ _ (callAny.viaDunder (.ref CB) _) _ _ _
 unfold callAny.viaDunder
 refine ad (.of (call.at ?_))
 dsimp only
 rw [tc_bind]
 refine ad (ae (ad (ae ?_)))
 refine ae (a:=Fin.again (.call (.builtin "type.__call__") ⟨.ref CB::rest,[]⟩)) ⟨rfl,?_⟩
 refine aH rfl ?_
 show wpC _ A.in1 (do checkBuiltinCall "type.__call__" ⟨.ref CB::rest,[]⟩; again (.builtin "type.__call__" ⟨.ref CB::rest,[]⟩)) _ _ _
 refine ad (.of (check_slot tc_kind tc_split typ (tc_args _ _ _) (ae ⟨Code.quiet_builtin _ (by decide +kernel),eR (BA.clean_call _) entry_typeCall ?_⟩)))
 generalize A.under (.builtin "type.__call__" ⟨.ref CB::rest,[]⟩)=A1 at hq ⊢
 unfold Builtin.«type.__call__»
 have hm:Looks (model prog w) h (mroOf (.ref CB)) cd.mro:=((Looks.ld (part:=none) hC).andThen .now).andThen .now
 dsimp only
 rw [if_neg (by exact Bool.false_ne_true)]
 refine ad (Looks.hereC hm ?_)
 rw [if_neg (by rw [e4]; exact Bool.false_ne_true)]
 refine ad (Looks.hereC made (ad (ae (ad (ag (cq (.of ?_)))))))
 refine new_K Y' hi0 (.inl rfl) ?_
 have k:∀ b o,h.get? b=some o->((h.push emptyDict).push (instObj CB h.objs.size)).get? b=some o:=λb o e=>Heap.get?_push_of_some _ (Heap.get?_push_of_some _ e)
 have hx:((h.push emptyDict).push (instObj CB h.objs.size)).get? (h.objs.size+1)=some (instObj CB h.objs.size):=by heap_get
 have t1:Looks (model prog w) ((h.push emptyDict).push (instObj CB h.objs.size)) (typeOf (.ref (h.objs.size+1))) (.ref CB):=(Looks.ld hx).andThen .now
 have s1:=self.keeps k
 have i1:=hi0.keeps k
 have b1:=(bind_fn (M:=model prog w) X (.ref (h.objs.size+1)) hf).keeps k
 unfold isInstance callSpecial? specialOf
 dsimp only
 refine ad (ad (Looks.hereC t1 (Looks.hereC s1 ?_)))
 rw [if_neg (by exact Bool.false_ne_true)]
 refine ad (ag (ad (ad (Looks.hereC t1 (Looks.hereC i1 (ag (ad (Looks.hereC b1 (ad (cq (g5 hq λr s' z=>?_)))))))))))
 rcases r with e | (v | _ | _ | _) <;> first | exact z.elim | skip
 obtain⟨rfl,z⟩:=z
 exact ae (ae z)
end
noncomputable def dj:Nat:=343
noncomputable def ef(i:Int):BS:=⟨List.replicate i.toNat 0,none,i,1,none,[],false,false,false,none,none⟩
noncomputable def W.addB(w:W)(b:BS):W:=⟨w.bs++[b],w.mn,w.bx⟩
noncomputable def jQ(i:Int):List (Nat×IV):=[(0,.ba i),(1,.v .none),(4,.v (.int i)),(5,.v (.int 1)),(7,.v .none),(10,.dict),(6,.v (.bool false)),(3,.v (.bool false)),(8,.v .none),(2,.v (.bool false))]
noncomputable def iU:Str:=Str.ofString "self"
noncomputable def nI:Str:=Str.ofString "initialSize"
noncomputable def fU(Ω:Om)(i:Int)(w:W):Prop:=∀ D,oP (fdN dj) λfd=>oP (stmts fd.body) λb=>wE (ev Ω 60) ⟨[(iU,.v (.top D)),(nI,.v (.int i))],fd.scope.names⟩ iU b ⟨w,false⟩ λq g=>q=jQ i/\g=⟨w,false⟩
noncomputable def mkSp(Ω:Om):kQ:=λvs w k=>oP (one vs) λv=>oP (vI v) λi=>fU Ω i w/\k (.key (.bld w.bs.length)) (some (w.addB (ef i)))
noncomputable def bY(r:Nat):List Key:=[.bld r,.comp r .bytes,.comp r .vt]
theorem wG{r:Nat}:(bY r).Nodup:=by simp [bY]
theorem mkP(P:Params):(makesIn (KP P) CB,findIn (KP P) (.ref CB) "__init__",typeIn (KP P) (.ref dj),keepIn (KP P) (.ref CB),(fdA P dj).map cQ,(fdA P dj).map dE)=(true,some (some (.ref dj)),some (.type "function"),true,some [iU,nI],some []):=by kernel_rfl
theorem AU:(nE.any λp=>Nat.beq p.1 dj&&Nat.beq p.2 2)=true:=by kernel_rfl
theorem sU{L:List (Addr×Obj)}{i:Int}{sl:Array (Option Value)}(h:kR L (jQ i) #[] sl):∃ B V t3 t4,(B,cB (List.replicate i.toNat 0))∈L/\(V,emptyDict)∈L /\
 sl=#[some (.ref B),some .none,some (.bool false),some (.bool false),some (.int i t3),some (.int 1 t4),some (.bool false),some .none,some .none,none,some (.ref V)]:=by
 refine x12 h λu0 r0 h=>x12 h λu1 r1 h=>x12 h λu2 r2 h=>x12 h λu3 r3 h=>x12 h λu4 r4 h=>x12 h λu5 r5 h=>x12 h λu6 r6 h=>x12 h λu7 r7 h=>x12 h λu8 r8 h=>x12 h λu9 r9 e=>?_
 refine r0.elim λB rB=>r2.elim λt3 z3=>r3.elim λt4 z4=>r5.elim λV rV=>⟨B,V,t3,t4,rB.2,rV.2,?_⟩
 rw [show sl=_ from e,rB.1,show u1=_ from r1,z3,z4,show u4=_ from r4,rV.1,show u6=_ from r6,show u7=_ from r7,show u8=_ from r8,show u9=_ from r9]
 kernel_rfl
section
variable {w w':W}{σ σ' σ0:St}{g g' g0:G}{n:Nat}{π:Str->Addr}{v a:AV}{Ω:Om}{L:List (Key×Addr)}{r:Nat}{i:Int}
theorem qT{α:Type}{l:List α}{x:α}{r:Nat}{p:α->Bool}:((l++[x])[r]?.any p)=true↔(l[r]?.any p)=true\/(r=l.length/\p x=true):=by
 rcases Nat.lt_trichotomy r l.length with h | h | h
 . rw [kJ h]; exact⟨.inl,λz=>z.elim id λz=>absurd z.1 (Nat.ne_of_lt h)⟩
 . subst h; rw [pa]; simp
 . rw [List.getElem?_eq_none (by rw [List.length_append]; exact h),List.getElem?_eq_none (Nat.le_of_lt h)]; exact⟨.inl,λz=>z.elim id λz=>absurd z.1 (Nat.ne_of_gt h)⟩
theorem nJ{α:Type}:∀{o:Option α},o.isSome=o.any λ_1=>true
 | none=>rfl
 | some _1=>rfl
noncomputable def bK(n:Nat):Key->Bool
 | .bld r=>Nat.beq r n
 | .comp r c=>Nat.beq r n&&ce (ef 0) c
 | _1=>false
theorem iV{n:Nat}{q:Key}(h:q∈bY n):bK n q=true:=cj (f:=bK n) (l:=bY n) (by
 show(Nat.beq n n&&((Nat.beq n n&&true)&&((Nat.beq n n&&true)&&true)))=true
 rw [Nat.beq_refl]; rfl) q h
theorem AW{n:Nat}{c:Cp}(h:ce (ef i) c=true):Key.comp n c∈bY n:=by
 cases c <;> first | exact xFT h | exact .tail _ (.head _) | exact .tail _ (.tail _ (.head _))
theorem nK{c:Cp}(h:ce (ef 0) c=true):aI c=true:=by cases c <;> first | rfl | exact xFT h
theorem wH{n:Nat}{P:Key->Prop}(h1:P (.bld n))(h2:P (.comp n .bytes))(h3:P (.comp n .vt))(q:Key)(h:q∈bY n):P q:=by
 unfold bY at h
 simp only [List.mem_cons,List.not_mem_nil,or_false] at h
 rcases h with h | h | h <;> rw [h] <;> assumption
theorem kT{n r:Nat}{c:Cp}(h:Key.comp r c∈bY n):r=n/\ce (ef 0) c=true:=⟨Nat.eq_of_beq_eq_true (aw (iV h)).1,(aw (iV h)).2⟩
theorem jR(q:Key):live (w.addB (ef i)) q↔live w q\/q∈bY w.bs.length:=by
 cases q with
 | bld r =>
  show((w.bs++[ef i])[r]?).isSome=true↔(w.bs[r]?).isSome=true\/_
  rw [nJ,nJ,qT]
  exact or_congr_right ⟨λz=>z.1▸.head _,λz=>⟨Nat.eq_of_beq_eq_true (iV z),rfl⟩⟩
 | comp r c =>
  show bH (w.addB (ef i)) r c (aI c)↔bH w r c (aI c)\/_
  cases hc:aI c with
  | false=>exact⟨.inl,λh=>h.elim id λz=>xFT (hc.symm.trans (nK (kT z).2))⟩
  | true=>exact qT.trans (or_congr_right ⟨λz=>z.1▸AW z.2,λz=>kT z⟩)
 | mine=>exact⟨.inl,λh=>h.elim id λz=>xFT (iV z)⟩
 | box r=>exact⟨.inl,λh=>h.elim id λz=>xFT (iV z)⟩
theorem wI(hL:L.map (·.1)=bY w.bs.length){b:BS}:∀{q:Key}{o:Obj},Rep σ w q o->Rep ⟨σ.S,αL σ.α L,σ.s⟩ (w.addB b) q o
 | .bld r,o,z=>z.imp λb' z=>have lt:=(List.getElem?_eq_some_iff.mp z.1).1
  ⟨(kJ lt).trans z.1,z.2.c,z.2.p,z.2.z,z.2.d,z.2.s.at λd _1=>αL_ne λm=>by rw [hL] at m; exact absurd (kT m).1 (Nat.ne_of_lt lt)⟩
 | .comp r c,o,z=>by
  have z:b9 ⟨σ.S,αL σ.α L,σ.s⟩ w r c o (aI c):=b9.keep (σ:=σ) (σ':=⟨σ.S,αL σ.α L,σ.s⟩) ⟨λ_1 h=>h,λ_1 _2 _3 e=>e⟩ (show b9 σ w r c o (aI c) from z)
  show b9 _ (w.addB b) r c o (aI c)
  cases hc:aI c <;> rw [hc] at z
  . exact z
  . exact z.imp λb' z=>⟨(kJ (List.getElem?_eq_some_iff.mp z.1).1).trans z.1,z.2⟩
 | .mine,o,z=>z.imp λm z=>z.imp λt z=>⟨z.1,by
  have k:∀ c,aI c=false->(⟨σ.S,αL σ.α L,σ.s⟩:St).α (.comp 0 c)=σ.α (.comp 0 c):=λc hc=>αL_ne λm=>by rw [hL] at m; exact xFT (hc.symm.trans (nK (kT m).2))
  have z:=z.2
  unfold bp at z ⊢
  rw [k _ rfl,k _ rfl,k _ rfl,k _ rfl,k _ rfl]; exact z⟩
 | .box r,o,z=>z.imp λx z=>⟨z.1,z.2.imp λu y=>y.imp λt y=>⟨RD.keep (σ:=σ) (σ':=⟨σ.S,αL σ.α L,σ.s⟩) (a:=.ints _) ⟨λ_1 h=>h,λ_1 _2 _3 e=>e⟩ y.1,y.2⟩⟩
theorem bz.make{A:Around}{l:List Value}(r:bz (n+1) A):bz n (A.under (.builtin "type.__call__" ⟨.ref CB::l,[]⟩)):=by
 refine Ab r λr1 r2 r3 r4 l r5=>?_
 refine⟨?_,?_,r3,?_,l,?_⟩
 . show A.depth+1+n<=900; lia
 . show A.units+1+30*n<=9000; lia
 . have e:∀ a,(Code.builtin "type.__call__" a).guards=[]:=λa=>by kernel_rfl
   unfold Around.under; dsimp only; rw [e,r4]; rfl
 . have e:∀ a,(Code.builtin "type.__call__" a).envs=[]:=λa=>by kernel_rfl
   unfold Around.under; dsimp only; rw [e,r5]; rfl
theorem wJ(hΩ:ΩOk n Ω)(hin:fU Ω i w){σ1:St}{D dx:Addr}{t:Tok}(p0:au true (g00 w) σ (g00 w) σ1)(nD:σ.h.get? D=none)(nx:σ.h.get? dx=none)(pD:aO σ1 w D)(px:aO σ1 w dx)(hD:σ1.h.get? D=some (nH dx #[]))(hx:σ1.h.get? dx=some emptyDict) :
 CWp (n+1) σ1 (.call (.ref dj) ⟨[.ref D,.int i t],[]⟩) λv σ'=>v=.none/\∃ F ls sl' L,ao ls.v=true/\IS F ls (g00 w) σ (g00 w) σ' D dx sl' (L++[(dx,emptyDict)])/\kR L (jQ i) #[] sl':=λA Q rm q=>by
 have mk:=mkP w0.params
 refine x02 (Prod.mk.inj mk) λ_1 mk=>?_
 refine x02 (Prod.mk.inj mk) λ_1 mk=>?_
 refine x02 (Prod.mk.inj mk) λ_1 mk=>?_
 refine x02 (Prod.mk.inj mk) λ_1 mk=>?_
 refine x02 (Prod.mk.inj mk) λm5 m6=>?_
 have hin:=hin D
 refine x12 (nC hin) λfd hf hin=>?_
 . refine x12 (nC hin) λb hb hin=>?_
   . have fi:=fn_i hf hb
     have fo:=fi.ok
     rw [show fdA P0 dj=some fd from hf] at m5 m6
     have ha:cQ fd=[iU,nI]:=Option.some.inj m5
     have hs:dE fd=[]:=Option.some.inj m6
     have hl:kN dj fd [.top D,.int i]=some [(iU,.v (.top D)),(nI,.v (.int i))]:=by
      unfold kN
      rw [hs]
      show locP _ _ _=_
      unfold locP
      rw [show(nE.any λp=>Nat.beq p.1 dj&&Nat.beq p.2 ([.top D,.int i]:List AV).length)=true from AU,ha]; rfl
     have gd1:=p0.good
     refine x12 fo.at_ λo ho hd=>?_
     refine cA (Nat.lt_of_lt_of_le (Nat.lt_of_lt_of_le (Nat.lt_add_of_pos_right (Nat.succ_pos n)) rm.1) (by decide)) (gd1.base _ _ ho) hd fo.co fo.gen fo.bodyE (codeRec_of gd1.base fo.code) ?_
     refine jP (n:=n) (π:=π0) (g:=g00 w) hf fi hl rfl gd1 (us:=[.ref D,.int i t]) ⟨_,_,rfl,rfl,_,_,rfl,⟨t,rfl⟩,rfl⟩ A.in1 _ _ rm.in1 λb1 σ2 p1=>?_
     rw [fo.clo]
     refine .of (wpAny_newFunctionEnv_cells fo.kind (λy hy=>(p1.rv.kd y hy).imp id λz=>⟨z,?_⟩) λenv he s2 ic=>?_)
     . exact(cM (m:=σ2.h.objs.size+1) (acc:=[]) (.inr (mem_of_lookup z))).elim λc hc=>by rw [hc]; rfl
     subst he
     refine x02 (enter fo p1.po.good p1.rv ic) λmv i2=>?_
     refine⟨lim mv.good.base,hA ?_⟩
     refine x23 (iT (Snd.ev hΩ 60) b ⟨w,false⟩ _ hin) λqq g' run e1 e2=>?_
     subst e1 e2
     have p2:au true (g00 w) σ1 (g00 w) ⟨σ2.S,σ2.α,s2⟩:=p1.po.trans ⟨mv,λz=>⟨z,rfl,rfl⟩,nofun⟩
     have D2:=pD.mv p2.mv
     have x2:=px.mv p2.mv
     have Ds:=(pD.mv p1.po.mv).2.trans hD
     refine(run ⟨callEnvC fd σ2.h.objs.size dj,π0,vm fd σ2.h.objs.size dj⟩ σ (g00 w) ⟨σ2.S,σ2.α,s2⟩ D dx #[] [(dx,emptyDict)] (by kernel_rfl) (by kernel_rfl) ⟨⟨i2,p0.trans p2,λx hm=>?_,by simp⟩,nD,D2.1,D2.2.trans hD,?_,?_,.head _⟩) _ _ _ rm.deeper λf σ3 z=>?_
     . rw [List.mem_singleton.mp hm]; exact⟨nx,x2.1,x2.2.trans hx⟩
     . intro z
       have le:σ2.h.objs.size<=D:=z.elim (λz=>z▸Nat.le_refl _) λz=>z.elim λx hc=>Nat.le_of_lt (ic.above x D (mem_of_lookup hc))
       exact absurd (Heap.lt_size Ds) (Nat.not_lt.mpr le)
     . intro z
       have z:D=dx:=List.mem_singleton.mp z
       rw [z] at hD
       exact nomatch congrArg (Option.map λo=>o.cls) (hD.symm.trans hx)
     . refine tE z λe175_0 sl' L' s3 hq=>?_
       clear z
       subst e175_0
       exact q .none σ3 ⟨rfl,_,_,sl',L',rfl,s3,hq⟩
theorem yq(hΩ:ΩOk n Ω)(hin:fU Ω i w)(gd:aj w σ){t:Tok}:CWp (n+2) σ (.call (.ref CB) ⟨[.int i t],[]⟩) (ER true (g00 w) σ (.key (.bld w.bs.length)) ⟨w.addB (ef i),true⟩ π):=by
 have mk:=mkP w0.params
 refine x02 (Prod.mk.inj mk) λm1 mk=>?_
 refine x02 (Prod.mk.inj mk) λm2 mk=>?_
 refine x02 (Prod.mk.inj mk) λm3 mk=>?_
 intro A Q rm q
 refine makeC (h:=σ.h) (g:=σ.s.gens) (d:=σ.s.drawn) (t:=σ.s.toks) (os:=σ.s.os) gd.base m1 m2 m3 ?_
 have hD:((σ.h.push emptyDict).push (instObj CB σ.h.objs.size)).get? (σ.h.objs.size+1)=some (nH σ.h.objs.size #[]):=by heap_get
 have hx:((σ.h.push emptyDict).push (instObj CB σ.h.objs.size)).get? σ.h.objs.size=some emptyDict:=by heap_get
 have nD:σ.h.get? (σ.h.objs.size+1)=none:=by
  cases e:σ.h.get? (σ.h.objs.size+1) with
  | none=>rfl
  | some o=>exact absurd (Heap.lt_size e) (Nat.not_lt.mpr (Nat.le_succ _))
 have pn:∀ {b},σ.h.get? b=none->(∃ o,((σ.h.push emptyDict).push (instObj CB σ.h.objs.size)).get? b=some o)->aO (σ.to ((σ.h.push emptyDict).push (instObj CB σ.h.objs.size)) σ.s.toks) w b:=λhb hx=>⟨(aU gd hb).1,(aU gd hb).2,hx⟩
 refine wJ hΩ hin (σ1:=σ.to ((σ.h.push emptyDict).push (instObj CB σ.h.objs.size)) σ.s.toks) (.stay gd rfl rfl λa o e=>Heap.get?_push_of_some _ (Heap.get?_push_of_some _ e)) nD get?_size (pn nD ⟨_,hD⟩) (pn get?_size ⟨_,hx⟩) hD hx _ _ (bz.make rm) λv σ3 z=>?_
 refine tG z λe194_0 F ls sl' L hnv s hs=>?_
 clear z
 subst e194_0
 refine x43 (sU hs) λB V t3 t4 mB mV e195_6=>?_
 subst e195_6
 refine⟨rfl,?_⟩
 generalize σ.h.objs.size+1=D at *
 generalize σ.h.objs.size=dx at *
 have aB:=s.m.h _ (List.mem_append_left _ mB)
 have aV:=s.m.h _ (List.mem_append_left _ mV)
 have ax:=s.m.h _ s.dx
 have pT:au true (g00 w) σ (g00 w) σ3:=by have p:=s.m.p; rw [hnv] at p; exact p
 have dB:D≠B:=λz=>s.ne (z▸List.mem_map_of_mem (List.mem_append_left _ mB))
 have dV:D≠V:=λz=>s.ne (z▸List.mem_map_of_mem (List.mem_append_left _ mV))
 have dX:D≠dx:=λz=>s.ne (by rw [z]; exact List.mem_map_of_mem (f:=Prod.fst) s.dx)
 have cl:∀{a b:Addr}{o o':Obj},σ3.h.get? a=some o->σ3.h.get? b=some o'->o.cls≠o'.cls->a≠b:=λh h' n z=>n (by rw [z] at h; rw [Option.some.inj (h.symm.trans h')])
 have bV:B≠V:=cl aB.2.2 aV.2.2 λh=>absurd (Value.type.inj h) (by decide)
 have bX:B≠dx:=cl aB.2.2 ax.2.2 λh=>absurd (Value.type.inj h) (by decide)
 have nd:=s.m.nd
 rw [List.map_append] at nd
 have vX:V≠dx:=(List.nodup_append.mp nd).2.2 V (List.mem_map_of_mem (f:=Prod.fst) mV) dx (.head _)
 have fz:=pT.freeze (D:=dx) ax.1 ax.2.1
 have pr:∀ {a},a≠dx->aO σ3 w a->aO ⟨λb=>σ3.S b\/b=dx,σ3.α,σ3.s⟩ w a:=λne p=>⟨λz=>z.elim p.1 ne,p.2⟩
 have at_:=λ(k:Key) (b:Addr) (h:(k,b)∈(bY w.bs.length).zip [D,B,V])=>αL_at (α:=σ3.α) (L:=(bY w.bs.length).zip [D,B,V]) wG h
 have e0:=at_ (.bld w.bs.length) D (.head _)
 have e1:=at_ (.comp w.bs.length .bytes) B (.tail _ (.head _))
 have e2:=at_ (.comp w.bs.length .vt) V (.tail _ (.tail _ (.head _)))
 have gb:(w.addB (ef i)).bs[w.bs.length]?=some (ef i):=pa
 have ex:∀ k,k∈bY w.bs.length->∃ b,αL σ3.α ((bY w.bs.length).zip [D,B,V]) k=b/\σ.h.get? b=none/\b≠dx/\aO σ3 w b:=λk hk=>by
  exact wH (P:=λk=>∃ b,αL σ3.α ((bY w.bs.length).zip [D,B,V]) k=b/\σ.h.get? b=none/\b≠dx/\aO σ3 w b) ⟨D,e0,s.n,dX,s.p⟩ ⟨B,e1,aB.1,bX,aB.2.1⟩ ⟨V,e2,aV.1,vX,aV.2.1⟩ k hk
 refine q (.ref D) ⟨λb=>σ3.S b\/b=dx,αL σ3.α ((bY w.bs.length).zip [D,B,V]),σ3.s⟩ ⟨au.add (N:=λk=>k∈bY w.bs.length) (w':=w.addB (ef i)) fz jR (λk hk l=>?_) (λk hk=>αL_ne hk) (λk hk=>?_) (λk k' hk hk' z=>?_) (wH ?_ ?_ ?_) (λk o _1 z=>wI (σ:=⟨λb=>σ3.S b\/b=dx,σ3.α,σ3.s⟩) rfl z) λk hk=>?_,(jR _).mpr (.inr (.head _)),congrArg Value.ref e0.symm⟩
 . have nb:w.bs[w.bs.length]?=none:=List.getElem?_eq_none (Nat.le_refl _)
   exact(wH (P:=λk=>live w k->False) (λl=>xFT ((congrArg Option.isSome nb).symm.trans l)) (λl=>xFT ((congrArg (Option.any λb=>ce b .bytes) nb).symm.trans l)) (λl=>xFT ((congrArg (Option.any λb=>ce b .vt) nb).symm.trans l)) k hk l).elim
 . refine x14 (ex k hk) λb z1 _1 z2 z3=>?_
   rw [z1]; exact pr z2 z3
 . have nd3:[D,B,V].Nodup:=by simp [dB,dV,bV]
   exact(Prod.mk.inj (kK (f:=Prod.snd) (L:=(bY w.bs.length).zip [D,B,V]) nd3 (αL_mem hk) (αL_mem hk') z)).1
 . refine⟨_,by rw [e0]; exact s.e,?_⟩
   exact⟨ef i,gb,rfl,rfl,rfl,⟨dx,rfl,.inr rfl,ax.2.2⟩,congrArg (λa=>some (Value.ref a)) e1.symm,rfl,rfl,rfl,⟨t3,rfl⟩,⟨t4,rfl⟩,rfl,⟨.none,rfl,rfl⟩,rfl,(show slN none _ from (rfl:_=none)),congrArg (λa=>some (Value.ref a)) e2.symm⟩
 . exact⟨_,by rw [e1]; exact aB.2.2,ef i,gb,rfl⟩
 . exact⟨_,by rw [e2]; exact aV.2.2,ef i,gb,[],⟨rfl,rfl,rfl⟩,⟨#[],_,rfl,rfl⟩,λx hx=>(nomatch hx),List.nodup_nil,rfl⟩
 . refine x13 (ex k hk) λb z1 z2 _1=>?_
   rw [z1]; exact z2
theorem ΩOk.make(hΩ:ΩOk n Ω):ΩOk (n+2) (bg CB (mkSp Ω) Ω) where
 ok f vs w k hn e:=by
  unfold bg at e
  cases c:Nat.beq f CB <;> rw [c] at e <;> dsimp only at e
  . exact(hΩ.ok f vs w k hn e).imp λv z=>z.imp λo z=>⟨z.1,z.2.1,z.2.2.1,λπ σ us gd r=>((z.2.2.2 π σ us gd r).up).up⟩
  . obtain rfl:=Nat.eq_of_beq_eq_true c
    unfold mkSp at e
    refine x12 (nC e) λv hv e1=>?_
    . refine x12 (nC e1) λi hi e2=>?_
      . obtain rfl:=one_e hv
        refine⟨_,_,e2.2,rfl,(Prod.mk.inj (Prod.mk.inj (Prod.mk.inj (Prod.mk.inj (mkP w0.params)).2).2).2).1,λπ σ us gd r=>?_⟩
        refine x23 r λu _1 e256_2 ru e256_4=>?_
        clear r
        subst e256_2
        subst e256_4
        refine(rI ru hi).elim λt e257_1=>?_
        subst e257_1
        exact yq hΩ e2.1 gd
 kw vs va w k hn e:=(hΩ.kw vs va w k hn e).imp λv z=>z.imp λo z=>⟨z.1,z.2.1,z.2.2.1,λπ σ us ua gd r ra=>((z.2.2.2 π σ us ua gd r ra).up).up⟩
end
end
end
section
open PySem PySem.W PyProof.Rows PySem.Calls
set_option backward.match.sparseCases false
section
noncomputable def aJ(f:Nat):List Stmt:=match fdN f with
 | some fd=>match stmts fd.body with
  | some b=>b
  | none=>[]
 | none=>[]
noncomputable def scF(f:Nat):List (Str×NameKind):=match fdN f with
 | some fd=>fd.scope.names
 | none=>[]
noncomputable def whT(s:Stmt):Expr:=(sP s).1
noncomputable def whB(s:Stmt):List Stmt:=(sP s).2
noncomputable def cmp_(s:Stmt):Option Lc:=qb (sP s).1
noncomputable def cmE(s:Stmt):Expr:=match cmp_ s with
 | some c=>c.elt
 | none=>default
noncomputable def cmS(s:Stmt):List (Str×NameKind):=match cmp_ s with
 | some c=>c.sc.names
 | none=>[]
noncomputable def stI(f i:Nat):Stmt:=(aJ f).getD i default
noncomputable def cZ(I:Ev)(b:List Stmt)(K:Fl×Loc->G->Prop)(x:Fl×Loc)(g:G):Prop:=(match x.1 with
 | .nx=>evS I b x.2
 | f=>ok (f,x.2)) g K
theorem qU{I:Ev}{b2:List Stmt}{K:Fl×Loc->G->Prop}:∀{b1:List Stmt}{ls:Loc}{g:G},evS I b1 ls g (cZ I b2 K)=evS I (b1++b2) ls g K
 | [],ls,g=>rfl
 | s::r,ls,g=>congrArg (I.s s ls g) (funext λx=>funext λg'=>by
  obtain⟨f,l⟩:=x
  cases f with
  | nx=>exact qU (b1:=r)
  | _=>rfl)
theorem yr{I:Ev}{b:List Stmt}{K:Fl×Loc->G->Prop}{ls:Loc}{g:G}(i:Nat)(h:evS I (b.take i) ls g (cZ I (b.drop i) K)):evS I b ls g K:=by
 rw [qU,List.take_append_drop] at h; exact h
structure Bm where
 x:List UInt8
 h:Int
 a:Int
noncomputable def Bm.up(q:Bm)(b:BS):BS:={ b with bytes:=q.x,head:=q.h,minalign:=q.a }
noncomputable def a0(as:List AV)(P:Prop):Prop:=match as with
 | []=>P
 | _1=>False
noncomputable def aA(as:List AV)(P:AV->List AV->Prop):Prop:=match as with
 | []=>False
 | a::r=>P a r
noncomputable def cx{α:Type}(o:Option α)(P:α->Prop):Prop:=match o with
 | some a=>P a
 | none=>False
noncomputable def aV{α:Type}(v:AV->Option α)(as:List AV)(P:α->List AV->Prop):Prop:=aA as λa r=>cx (v a) λi=>P i r
theorem a0_e{as:List AV}{P:Prop}(h:a0 as P):as=[]/\P:=by
 cases as with
 | nil=>exact⟨rfl,h⟩
 | cons a r=>exact h.elim
theorem aA_e{as:List AV}{P:AV->List AV->Prop}(h:aA as P):∃ a r,as=a::r/\P a r:=by
 cases as with
 | nil=>exact h.elim
 | cons a r=>exact⟨a,r,rfl,h⟩
theorem kV{α:Type}{o:Option α}{P:α->Prop}(h:cx o P):∃ a,o=some a/\P a:=by
 cases o with
 | none=>exact h.elim
 | some a=>exact⟨a,rfl,h⟩
theorem aV_e{α:Type}{v:AV->Option α}{as:List AV}{P:α->List AV->Prop}(h:aV v as P):∃ a i r,as=a::r/\v a=some i/\P i r:=(aA_e h).elim λa h=>h.elim λr h=>(kV h.2).elim λi g=>⟨a,i,r,h.1,g⟩
theorem aE{α:Type}{v:AV->Option α}{c:α->AV}(hv:∀ a i,v a=some i->a=c i){as:List AV}{P:α->List AV->Prop}(h:aV v as P):∃ i r,as=c i::r/\P i r:=(aV_e h).elim λa h=>h.elim λi h=>h.elim λr h=>⟨i,r,by rw [h.1,hv a i h.2.1],h.2.2⟩
noncomputable def is0(o:Option Nat):Option Unit:=match o with
 | some 0=>some ()
 | _1=>none
theorem zG{o:Option Nat}{u:Unit}(h:is0 o=some u):o=some 0:=by
 match o,h with
 | some 0,_1=>rfl
noncomputable def vB0(v:AV):Option Unit:=is0 (vB v)
theorem zH(v:AV)(u:Unit)(h:vB0 v=some u):v=.key (.bld 0):=vB_e (zG h)
noncomputable def bsp(f:List AV->BS->(AV->BS->Prop)->Prop):kQ:=λvs w k=>aV vB0 vs λ_1 as=>cx (one w.bs) λb=>f as b λv b'=>k v (some ⟨[b'],w.mn,w.bx⟩)
theorem bsp_e{f:List AV->BS->(AV->BS->Prop)->Prop}{vs:List AV}{w:W}{k:AV->Option W->Prop}(h:bsp f vs w k):∃ b m x as,vs=.key (.bld 0)::as/\w=⟨[b],m,x⟩/\f as b λv b'=>k v (some ⟨[b'],m,x⟩):=by
 refine x22 (aE (c:=λ_1=>.key (.bld 0)) zH h) λ_1 as e80_2 h=>?_
 subst e80_2
 refine x12 (kV h) λb e h=>?_
 obtain⟨bs,m,x⟩:=w
 obtain rfl:=one_e e
 exact⟨b,m,x,as,rfl,rfl,h⟩
theorem aI_e{as:List AV}{P:Int->List AV->Prop}(h:aV vI as P):∃ i r,as=.int i::r/\P i r:=aE (c:=.int) (λ_1 _2=>gy) h
theorem aTop_e{as:List AV}{P:Nat->List AV->Prop}(h:aV f6 as P):∃ i r,as=.top i::r/\P i r:=aE (c:=.top) (λ_1 _2=>ds) h
section
variable {G:List AV->Prop}
theorem a0K{P:Prop}(H:P->G [])(as:List AV)(h:a0 as P):G as:=by
 cases as with
 | nil=>exact H h
 | cons a r=>exact h.elim
theorem aAK{P:AV->List AV->Prop}(H:∀ a r,P a r->G (a::r))(as:List AV)(h:aA as P):G as:=by
 cases as with
 | nil=>exact h.elim
 | cons a r=>exact H a r h
theorem eP{α:Type}{o:Option α}{P:α->Prop}{G:Prop}(H:∀ a,o=some a->P a->G)(h:cx o P):G:=by
 cases o with
 | none=>exact h.elim
 | some a=>exact H a rfl h
theorem aVK{α:Type}{v:AV->Option α}{P:α->List AV->Prop}(H:∀ a i r,v a=some i->P i r->G (a::r))(as:List AV)(h:aV v as P):G as:=aAK (λa r=>eP (H a · r)) as h
theorem aEK{α:Type}{v:AV->Option α}(c:α->AV)(hv:∀ a i,v a=some i->a=c i){P:α->List AV->Prop}(H:∀ i r,P i r->G (c i::r))(as:List AV)(h:aV v as P):G as:=aAK (λa r=>eP λi e h=>by rw [hv a i e]; exact H i r h) as h
theorem aIK{P:Int->List AV->Prop}(H:∀ i r,P i r->G (.int i::r))(as:List AV)(h:aV vI as P):G as:=aEK .int (λ_1 _2=>gy) H as h
theorem wK{P:Nat->List AV->Prop}(H:∀ i r,P i r->G (.top i::r))(as:List AV)(h:aV f6 as P):G as:=aEK .top (λ_1 _2=>ds) H as h
end
theorem fw{f:List AV->BS->(AV->BS->Prop)->Prop}{Q:List AV->W->(AV->Option W->Prop)->Prop}(H:∀ b m x k as,f as b (λv b'=>k v (some ⟨[b'],m,x⟩))->Q (.key (.bld 0)::as) ⟨[b],m,x⟩ k)(vs:List AV)(w:W)(k:AV->Option W->Prop)(h:bsp f vs w k):Q vs w k:=by
 refine x43 (bsp_e h) λb m x as e108_4 e108_5 h=>?_
 subst e108_4
 subst e108_5
 exact H b m x k as h
noncomputable abbrev BK:=BS->(AV->BS->Prop)->Prop
noncomputable def I0(f:BK)(as:List AV)(b:BS)(K:AV->BS->Prop):Prop:=a0 as (f b K)
noncomputable def I1(f:Int->BK)(as:List AV)(b:BS)(K:AV->BS->Prop):Prop:=aV vI as λi as=>a0 as (f i b K)
noncomputable def I2(f:Int->Int->BK)(as:List AV)(b:BS)(K:AV->BS->Prop):Prop:=aV vI as λi as=>I1 (f i) as b K
noncomputable def I3(f:Int->Int->Int->BK)(as:List AV)(b:BS)(K:AV->BS->Prop):Prop:=aV vI as λi as=>I2 (f i) as b K
section
variable {Q:List AV->W->(AV->Option W->Prop)->Prop}
theorem sI0{f:BK}(H:∀ b m x k,f b (λv b'=>k v (some ⟨[b'],m,x⟩))->Q [.key (.bld 0)] ⟨[b],m,x⟩ k)(vs:List AV)(w:W)(k:AV->Option W->Prop)(h:bsp (I0 f) vs w k):Q vs w k :=
 fw (λb m x k=>a0K (G:=λas=>Q (_::as) _ k) (H b m x k)) vs w k h
theorem sI1{f:Int->BK}(H:∀ i b m x k,f i b (λv b'=>k v (some ⟨[b'],m,x⟩))->Q [.key (.bld 0),.int i] ⟨[b],m,x⟩ k)(vs:List AV)(w:W)(k:AV->Option W->Prop)(h:bsp (I1 f) vs w k):Q vs w k :=
 fw (λb m x k=>aIK (G:=λas=>Q (_::as) _ k) λi=>a0K (G:=λas=>Q (_::_::as) _ k) (H i b m x k)) vs w k h
theorem sI2{f:Int->Int->BK}(H:∀ i j b m x k,f i j b (λv b'=>k v (some ⟨[b'],m,x⟩))->Q [.key (.bld 0),.int i,.int j] ⟨[b],m,x⟩ k)(vs:List AV)(w:W)(k:AV->Option W->Prop)(h:bsp (I2 f) vs w k):Q vs w k :=
 fw (λb m x k=>aIK (G:=λas=>Q (_::as) _ k) λi=>aIK (G:=λas=>Q (_::_::as) _ k) λj=>a0K (G:=λas=>Q (_::_::_::as) _ k) (H i j b m x k)) vs w k h
theorem sI3{f:Int->Int->Int->BK}(H:∀ i j l b m x k,f i j l b (λv b'=>k v (some ⟨[b'],m,x⟩))->Q [.key (.bld 0),.int i,.int j,.int l] ⟨[b],m,x⟩ k)(vs:List AV)(w:W)(k:AV->Option W->Prop)(h:bsp (I3 f) vs w k):Q vs w k :=
 fw (λb m x k=>aIK (G:=λas=>Q (_::as) _ k) λi=>aIK (G:=λas=>Q (_::_::as) _ k) λj=>aIK (G:=λas=>Q (_::_::_::as) _ k) λl=>a0K (G:=λas=>Q (_::_::_::_::as) _ k) (H i j l b m x k)) vs w k h
end
theorem fV{c:Bool}{P Q:Prop}(h:c=true->P)(h':c=false->Q):cnd c P Q:=by cases c <;> first | exact h rfl | exact h' rfl
theorem dk{c:Bool}{P Q:Prop}(h:c=true)(h':P):cnd c P Q:=by subst h; exact h'
theorem dK{c:Bool}{P Q:Prop}(h:c=false)(h':Q):cnd c P Q:=by subst h; exact h'
theorem aF{p:Prop}[Decidable p]{P Q:Prop}(h:p)(h':P):cnd (decide p) P Q:=by rw [decide_eq_true h]; exact h'
theorem iW{p:Prop}[Decidable p]{P Q:Prop}(h:¬ p)(h':Q):cnd (decide p) P Q:=by rw [decide_eq_false h]; exact h'
theorem aW{p:Prop}[Decidable p]{P Q:Prop}(h:p->P)(h':¬ p->Q):cnd (decide p) P Q:=by
 by_cases e:p
 . exact aF e (h e)
 . exact iW e (h' e)
noncomputable def fy{α β:Type}(f:α->β):List α->List β
 | []=>[]
 | a::r=>f a::fy f r
theorem bU{α β:Type}{f g:α->β}:∀{l:List α},l.map f=fy g l->∀ a∈l,f a=g a
 | _1::_,h,a,m=>(List.mem_cons.mp m).elim (λe=>e▸(List.cons.inj h).1) (bU (List.cons.inj h).2 a)
noncomputable def kA(Ω:Om)(f i:Nat)(k:AV->Option W->Prop):Fl×Loc->G->Prop:=cZ (ev Ω 60) ((aJ f).drop i) (eO k)
theorem fA{Ω:Om}{f:Nat}{vs:List AV}{w:W}{k:AV->Option W->Prop}{l:List (Str×LV)}(h:((fdN f).bind λfd=>(stmts fd.body).bind λ_1=>kN f fd vs)=some l):kA Ω f 0 k (.nx,⟨l,scF f⟩) ⟨w,false⟩=ak Ω f vs w k:=by
 refine x12 (Option.bind_eq_some_iff.mp h) λfd e1 h=>x12 (Option.bind_eq_some_iff.mp h) λb e2 h=>?_
 have eb:aJ f=b:=by
  unfold aJ
  rw [e1]
  show(match stmts fd.body with | some b=>b | none=>[])=b
  rw [e2]
 have es:scF f=fd.scope.names:=by unfold scF; rw [e1]
 unfold ak
 rw [e1,es]
 show _=oP (stmts fd.body) _
 rw [e2]
 show _=oP (kN f fd vs) _
 rw [h]
 show evS (ev Ω 60) ((aJ f).drop 0) _ _ _=_
 rw [eb]
 rfl
theorem kA.st{Ω:Om}{f i:Nat}{k:AV->Option W->Prop}{L:Loc}{g:G}(hi:Nat.blt i (aJ f).length=true)(h:(ev Ω 60).s (stI f i) L g (kA Ω f (i+1) k)):kA Ω f i k (.nx,L) g:=by
 have hi:=Nat.le_of_ble_eq_true hi
 show evS (ev Ω 60) ((aJ f).drop i) L g (eO k)
 rw [List.drop_eq_getElem_cons hi,show(aJ f)[i]=stI f i by unfold stI; rw [List.getD_eq_getElem?_getD,List.getElem?_eq_getElem hi]; rfl]
 exact h
theorem kA.seg{Ω:Om}{f i:Nat}{k:AV->Option W->Prop}{L:Loc}{g:G}(n:Nat)(h:evS (ev Ω 60) (((aJ f).drop i).take n) L g (kA Ω f (i+n) k)):kA Ω f i k (.nx,L) g:=by
 refine yr n ?_
 rw [List.drop_drop]
 exact h
theorem kA.rt{Ω:Om}{f i:Nat}{k:AV->Option W->Prop}{L:Loc}{w:W}{v:AV}(hv:aX v=true)(h:k v (some w)):kA Ω f i k (.rt v,L) ⟨w,true⟩:=by
 show(match aX v with | true=>k v (some w) | false=>False)
 rw [hv]; exact h
noncomputable abbrev cS(xs:List Int)(i:Int)(f:Int->Prop):Prop:=cnd (decide (i < 0)) ((0<=i+xs.length/\xs.length<=16777216)/\f (bc xs (i+xs.length))) ((i < xs.length/\xs.length<=16777216)/\f (bc xs i))
theorem cS.i{xs:List Int}{i:Int}{f:Int->Prop}(h0:0<=i)(h1:i < xs.length)(h2:xs.length<=16777216)(h:f (bc xs i)):cS xs i f:=iW (by lia) ⟨⟨h1,h2⟩,h⟩
theorem evS_wh{Ω:Om}{n:Nat}{t:Expr}{b r:List Stmt}{p:Pos}{ls:Loc}{g:G}{K:Fl×Loc->G->Prop}(m:Nat)(h:dy (ev Ω n) t b m ls g (cZ (ev Ω (n+1)) r K)):evS (ev Ω (n+1)) (.While t b [] p::r) ls g K:=⟨m,h⟩
noncomputable def O1:Om:=addG [229,236,392,399,470,477,690,350,357,406] Ω0
theorem ok1:ΩOk 1 O1:=ΩOk.addG (n:=0) .zero
theorem AX(b:BS)(m:Option Mn)(x:List Bx)(k:AV->Option W->Prop) :
 ((b.bytes.length<=16777216)/\cnd (decide ((b.bytes.length:Int)=(2147483648:Int))) False ((b.bytes.length<=16777216)/\cnd (decide ((b.bytes.length:Int).natAbs < 2 ^ 64)) (cnd (decide ((min ((b.bytes.length:Int)*(2:Int)) (2147483648:Int))=(0:Int))) ((0<=(1:Int)/\(1:Int)<=16777216)/\(b.bytes.length<=16777216)/\(0<=((1:Int)-(b.bytes.length:Int))/\((1:Int)-(b.bytes.length:Int))<=(List.replicate (1:Int).toNat (0:UInt8)).length/\(List.replicate (1:Int).toNat (0:UInt8)).length<=16777216/\(b.bytes.length:Int)=(List.replicate (1:Int).toNat (0:UInt8)).length-((1:Int)-(b.bytes.length:Int)))/\k .none (some (W.mk [{ b with bytes:=(az (List.replicate (1:Int).toNat (0:UInt8)) ((1:Int)-(b.bytes.length:Int)) ((List.replicate (1:Int).toNat (0:UInt8)).length:Int) b.bytes) }] m x))) ((0<=(min ((b.bytes.length:Int)*(2:Int)) (2147483648:Int))/\(min ((b.bytes.length:Int)*(2:Int)) (2147483648:Int))<=16777216)/\(b.bytes.length<=16777216)/\(0<=((min ((b.bytes.length:Int)*(2:Int)) (2147483648:Int))-(b.bytes.length:Int))/\((min ((b.bytes.length:Int)*(2:Int)) (2147483648:Int))-(b.bytes.length:Int))<=(List.replicate (min ((b.bytes.length:Int)*(2:Int)) (2147483648:Int)).toNat (0:UInt8)).length/\(List.replicate (min ((b.bytes.length:Int)*(2:Int)) (2147483648:Int)).toNat (0:UInt8)).length<=16777216/\(b.bytes.length:Int)=(List.replicate (min ((b.bytes.length:Int)*(2:Int)) (2147483648:Int)).toNat (0:UInt8)).length-((min ((b.bytes.length:Int)*(2:Int)) (2147483648:Int))-(b.bytes.length:Int)))/\k .none (some (W.mk [{ b with bytes:=(az (List.replicate (min ((b.bytes.length:Int)*(2:Int)) (2147483648:Int)).toNat (0:UInt8)) ((min ((b.bytes.length:Int)*(2:Int)) (2147483648:Int))-(b.bytes.length:Int)) ((List.replicate (min ((b.bytes.length:Int)*(2:Int)) (2147483648:Int)).toNat (0:UInt8)).length:Int) b.bytes) }] m x)))) False)) =
 ak O1 385 [.key (.bld 0)] (W.mk [b] m x) k:=by kernel_rfl
end
end
section
open PySem PySem.W PyProof.Rows PySem.Calls
section
noncomputable def aG(x:List UInt8)(h:Int):List UInt8:=(x.drop h.toNat).reverse
noncomputable abbrev out(b:BS):List UInt8:=aG b.bytes b.head
noncomputable def zr(n:Nat):List UInt8:=List.replicate n 0
structure Co(x:List UInt8)(h:Int)(o:List UInt8):Prop where
 h0:0<=h
 h1:h<=x.length
 h2:x.length<=4000000
 e:aG x h=o
theorem Co.len{x:List UInt8}{h:Int}{o:List UInt8}(c:Co x h o):(x.length:Int)-h=o.length:=by
 have:=c.h0
 have:=c.h1
 rw [<- c.e]; unfold aG; rw [List.length_reverse,List.length_drop]; lia
theorem sW{l x:List UInt8}{h:Int}{n:Nat}(h0:(n:Int)<=h)(h1:h<=l.length)(hx:x.length=n):(az l (h-n) h x).length=l.length/\((az l (h-n) h x).drop (h-n).toNat)=x++l.drop h.toNat:=by
 unfold az
 have e:(l.take (h-n).toNat).length=(h-n).toNat:=by rw [List.length_take]; lia
 constructor
 . simp [hx]; lia
 . rw [List.append_assoc]
   exact(congrArg (λk=>List.drop k (l.take (h-n).toNat++(x++l.drop h.toNat))) e.symm).trans (List.drop_left ..)
theorem Co.put{x:List UInt8}{h:Int}{o:List UInt8}(c:Co x h o){z:List UInt8}{n:Nat}(hn:z.length=n)(hw:(n:Int)<=h):Co (az x (h-n) h z) (h-n) (o++z.reverse):=by
 have h1:=c.h1
 refine x02 (sW hw h1 hn) λf1 f2=>?_
 refine⟨by lia,by rw [f1]; lia,by rw [f1]; exact c.h2,?_⟩
 unfold aG
 rw [f2,List.reverse_append,<- c.e]; rfl
noncomputable def cD(l:List UInt8):List UInt8:=List.replicate (if l.length=0 then 1 else l.length) 0++l
theorem sX(l:List UInt8):(cD l).length=(if l.length=0 then 1 else l.length)+l.length:=by unfold cD; rw [List.length_append,List.length_replicate]
theorem Co.grow{x:List UInt8}{h:Int}{o:List UInt8}(c:Co x h o)(hl:x.length<=1999999):Co (cD x) (h+((cD x).length-x.length)) o/\x.length < (cD x).length:=by
 have h0:=c.h0
 have h1:=c.h1
 have g:=sX x
 have lt:x.length < (cD x).length:=by rw [g]; split <;> lia
 refine⟨⟨by lia,by lia,by rw [g]; split <;> lia,?_⟩,lt⟩
 rw [<- c.e]
 unfold aG cD
 congr 1
 rw [List.length_append,List.length_replicate,show(h+(((if x.length=0 then 1 else x.length)+x.length:Nat)-(x.length:Int))).toNat=(List.replicate (if x.length=0 then 1 else x.length) (0:UInt8)).length+h.toNat by rw [List.length_replicate]; lia,List.drop_append,List.drop_of_length_le (Nat.le_add_right _ _),Nat.add_sub_cancel_left,List.nil_append]
noncomputable def zI:BK:=λb K=>b.bytes.length<=1999999/\K .none { b with bytes:=cD b.bytes }
theorem iX{n:Nat}{l:List UInt8}(h:l.length<=n):az (List.replicate n 0) ((n:Int)-(l.length:Int)) (List.replicate n (0:UInt8)).length l=List.replicate (n-l.length) 0++l:=by
 unfold az
 rw [show((n:Int)-(l.length:Int)).toNat=n-l.length by lia]
 simp [Nat.min_eq_left (Nat.sub_le n l.length)]
theorem yt(b:BS)(m:Option Mn)(x:List Bx)(k:AV->Option W->Prop)(h:zI b λv b'=>k v (some ⟨[b'],m,x⟩)):ak O1 385 [.key (.bld 0)] ⟨[b],m,x⟩ (wrK ⟨[b],m,x⟩ k):=by
 refine x02 h λh1 h2=>?_
 rw [<- AX]
 refine⟨by lia,iW (by lia) ⟨by lia,aF (by omega) (aW (λe=>?_) λe=>?_)⟩⟩
 . have e0:b.bytes.length=0:=by lia
   have es:=iX (n:=1) (l:=b.bytes) (by lia)
   refine⟨by decide,by lia,by simp; lia,?_⟩
   have eg:cD b.bytes=az (List.replicate 1 0) ((1:Nat)-(b.bytes.length:Int)) (List.replicate 1 (0:UInt8)).length b.bytes:=by rw [es]; unfold cD; rw [e0]; rfl
   rw [eg] at h2; exact h2
 . have em:min ((b.bytes.length:Int)*2) 2147483648=((2*b.bytes.length:Nat):Int):=by lia
   have es:=iX (n:=2*b.bytes.length) (l:=b.bytes) (by lia)
   rw [em] at e ⊢
   refine⟨by lia,by lia,by simp; lia,?_⟩
   have eg:cD b.bytes=az (List.replicate (2*b.bytes.length) 0) ((2*b.bytes.length:Nat)-(b.bytes.length:Int)) (List.replicate (2*b.bytes.length) (0:UInt8)).length b.bytes:=by rw [es]; unfold cD; rw [if_neg (by lia),show 2*b.bytes.length-b.bytes.length=b.bytes.length by lia]
   rw [eg] at h2; exact h2
noncomputable def O2:Om:=bg 385 (bsp (I0 zI)) O1
theorem ok2:ΩOk 2 O2:=ok1.add (sI0 yt)
noncomputable def LP(s:Int)(n:Int)(hd:Int)(bl:Int)(al:Int)(need:Int):Loc:=⟨[(S "self",.v (.key (.bld 0))),(S "size",.v (.int s)),(S "additionalBytes",.v (.int n)),(S "head",.v (.int hd)),(S "buf_len",.v (.int bl)),(S "alignSize",.v (.int al)),(S "needed",.v (.int need))],scF 413⟩
noncomputable def fB:Nat->Loc->EM (Fl×Loc):=dy (ev O2 59) (whT (stI 413 6)) (whB (stI 413 6))
theorem qV(b:BS)(m:Option Mn)(x:List Bx)(s n hd bl al need:Int)(wr:Bool)(K:Fl×Loc->G->Prop):(cnd (decide (hd < need)) False (K (.nx,(LP s n hd bl al need)) ⟨W.mk [b] m x,wr⟩))=fB 0 (LP s n hd bl al need) ⟨W.mk [b] m x,wr⟩ K:=by kernel_rfl
theorem yu(b:BS)(m:Option Mn)(x:List Bx)(s n hd bl al need:Int)(wr:Bool)(N:Nat)(K:Fl×Loc->G->Prop):(cnd (decide (hd < need)) ((b.bytes.length<=1999999)/\((cD b.bytes).length<=16777216)/\fB N (LP s n (hd+(((cD b.bytes).length:Int)-bl)) ((cD b.bytes).length:Int) al need) ⟨W.mk [{ b with bytes:=(cD b.bytes) }] m x,true⟩ K) False)=fB (N+1) (LP s n hd bl al need) ⟨W.mk [b] m x,wr⟩ K:=by kernel_rfl
theorem AY(b:BS)(m:Option Mn)(x:List Bx)(s n:Int)(k:AV->Option W->Prop) :
 (cnd (decide (s > b.minalign)) ((b.bytes.length<=16777216)/\(∃ k:Nat,k<=4/\(s-(1:Int))+1=2 ^ k)/\∃ N,fB N (LP s n b.head (b.bytes.length:Int) (cT ((inv (((b.bytes.length:Int)-b.head)+n))+(1:Int)) (s-(1:Int))) (((cT ((inv (((b.bytes.length:Int)-b.head)+n))+(1:Int)) (s-(1:Int)))+s)+n)) ⟨W.mk [{ b with minalign:=s }] m x,true⟩ (cZ (ev O2 60) ((aJ 413).drop 7) (eO k))) ((b.bytes.length<=16777216)/\(∃ k:Nat,k<=4/\(s-(1:Int))+1=2 ^ k)/\∃ N,fB N (LP s n b.head (b.bytes.length:Int) (cT ((inv (((b.bytes.length:Int)-b.head)+n))+(1:Int)) (s-(1:Int))) (((cT ((inv (((b.bytes.length:Int)-b.head)+n))+(1:Int)) (s-(1:Int)))+s)+n)) ⟨W.mk [b] m x,false⟩ (cZ (ev O2 60) ((aJ 413).drop 7) (eO k)))) =
 ak O2 413 [.key (.bld 0),.int s,.int n] (W.mk [b] m x) k:=by kernel_rfl
theorem AZ(b:BS)(m:Option Mn)(x:List Bx)(s n hd bl al need:Int)(wr:Bool)(k:AV->Option W->Prop) :
 (cnd (decide (al<=(0:Int))) (k .none (some (W.mk [{ b with head:=hd }] m x))) ((-1048576<=al/\al<=1048576)/\(0<=(hd-al)/\(hd-al)<=hd/\hd<=b.bytes.length/\b.bytes.length<=16777216/\((List.replicate al.toNat (0:UInt8)).length:Int)=hd-(hd-al))/\k .none (some (W.mk [{ b with head:=(hd-al),bytes:=(az b.bytes (hd-al) hd (List.replicate al.toNat (0:UInt8))) }] m x)))) =
 cZ (ev O2 60) ((aJ 413).drop 7) (eO k) (.nx,(LP s n hd bl al need)) ⟨W.mk [b] m x,wr⟩:=by kernel_rfl
end
end
section
open PySem PySem.W PyProof.Rows PySem.Calls
section
noncomputable def sz(s:Int):Prop:=s=1\/s=2\/s=4\/s=8\/s=16
theorem cy{s:Int}(h:sz s):1<=s/\s<=16:=by rcases h with rfl | rfl | rfl | rfl | rfl <;> decide
theorem wL{s:Int}(h:sz s):∃ k:Nat,k<=4/\s-1+1=2 ^ k:=by
 rcases h with rfl | rfl | rfl | rfl | rfl
 . exact⟨0,by decide,by decide⟩
 . exact⟨1,by decide,by decide⟩
 . exact⟨2,by decide,by decide⟩
 . exact⟨3,by decide,by decide⟩
 . exact⟨4,by decide,by decide⟩
noncomputable def pd(s L:Int):Nat:=((-L) % s).toNat
noncomputable def mx(a s:Int):Int:=if s > a then s else a
structure Pu(o:List UInt8)(h:Int)(z:List UInt8)(a r:Int)(q:Bm):Prop where
 c:Co q.x q.h (o++z)
 a:q.a=a
 r:r<=q.h
 k:h-z.length<=q.h
theorem A9(n:Nat):(zr n).reverse=zr n:=List.reverse_replicate
theorem aC(n:Nat):(zr n).length=n:=List.length_replicate
noncomputable abbrev bM(s n:Int)(b:BS)(f:Bm->Prop):Prop:=(Co b.bytes b.head (out b)/\sz s/\0<=n/\(out b).length+n<=900000)/\∀ q,Pu (out b) b.head (zr (pd s ((out b).length+n))) (mx b.minalign s) (s+n) q->f q
noncomputable abbrev qW(s n:Int):BK:=λb K=>bM s n b λq=>K .none (q.up b)
theorem sY{b:BS}{m:Option Mn}{x:List Bx}{s n al need:Int}{o:List UInt8}{K:Fl×Loc->G->Prop}(ho:o.length+need<=950000):∀ (f:Nat) (X:List UInt8) (hd:Int) (wr:Bool),Co X hd o->950000<=f+X.length ->
 (∀ X' hd' wr',Co X' hd' o->need<=hd'->hd<=hd'->K (.nx,LP s n hd' X'.length al need) ⟨W.mk [{ b with bytes:=X' }] m x,wr'⟩)->∃ N,fB N (LP s n hd X.length al need) ⟨W.mk [{ b with bytes:=X }] m x,wr⟩ K:=by
 intro f
 induction f with
 | zero =>
  intro X hd wr c hf k
  have:=c.len
  exact⟨0,qV ..▸iW (by lia) (k _ _ _ c (by lia) (by lia))⟩
 | succ f ih =>
  intro X hd wr c hf k
  have:=c.len
  by_cases e:hd < need
  . refine x02 (c.grow (by lia)) λc' lt=>?_
    refine(ih _ _ true c' (by lia) λX' hd' wr' c2 h2 h3=>k X' hd' wr' c2 h2 (by lia)).elim λN h=>?_
    have:=c'.h2
    exact⟨N+1,yu ..▸aF e ⟨by show X.length<=_; lia,Nat.le_trans this (by decide),h⟩⟩
  . exact⟨0,qV ..▸iW e (k _ _ _ c (by omega) (by lia))⟩
theorem al_e(s L:Int)(h:sz s):cT (inv L+1) (s-1)=pd s L/\(pd s L:Int) < s:=by
 have h1:=cy h
 have e:cT (inv L+1) (s-1)=(-L) % s:=by unfold cT inv; rw [show s-1+1=s by lia,show -L-1+1=-L by lia]
 have:=Int.emod_nonneg (-L) (b:=s) (by lia)
 have:=Int.emod_lt_of_pos (-L) (b:=s) (by lia)
 unfold pd
 omega
theorem yw(s n:Int)(b:BS)(m:Option Mn)(x:List Bx)(k:AV->Option W->Prop)(h:qW s n b λv b'=>k v (some ⟨[b'],m,x⟩)):ak O2 413 [.key (.bld 0),.int s,.int n] ⟨[b],m,x⟩ (wrK ⟨[b],m,x⟩ k):=by
 obtain⟨⟨c,hs,hn,hm⟩,h⟩:=h
 have h1:=cy hs
 have cl:=c.len
 refine x02 (al_e s ((out b).length+n) hs) λe el=>?_
 generalize pd s ((out b).length+n)=p at *
 have h2:=c.h2
 have:=c.h1
 rw [<- AY,cl,e]
 have key:∀ (a:Int) (wr:Bool),a=mx b.minalign s->∃ N,fB N (LP s n b.head b.bytes.length p (p+s+n)) ⟨W.mk [{ b with minalign:=a }] m x,wr⟩ (cZ (ev O2 60) ((aJ 413).drop 7) (eO (wrK ⟨[b],m,x⟩ k))):=λa wr ha =>
  sY (b:={ b with minalign:=a }) (o:=out b) (by lia) 950000 b.bytes b.head wr c (by lia) λX hd wr' c' h3 h4=>by
   have hl:({ b with minalign:=a,bytes:=X,head:=hd-p }:BS)=Bm.up ⟨X,hd-p,a⟩ b:=rfl
   have cl':=c'.len
   have:=c'.h2
   have fin:∀ q:Bm,q.a=a->q.h=hd-p->Co q.x q.h (out b++zr p)->k .none (some ⟨[q.up b],m,x⟩):=λq h5 h6 h7=>h q ⟨h7,h5.trans ha,by lia,by rw [aC]; lia⟩
   have z:=AZ { b with minalign:=a,bytes:=X } m x s n hd X.length p (p+s+n) wr' (wrK ⟨[b],m,x⟩ k)
   rw [<- z]
   refine aW (λe0=>?_) λe0=>⟨by lia,⟨by lia,by lia,c'.h1,by show X.length<=_; lia,by simp; lia⟩,?_⟩
   . obtain rfl:p=0:=by lia
     exact fin ⟨X,hd,a⟩ rfl (by simp) (by rw [show zr 0=[] from rfl,List.append_nil]; exact c')
   . exact fin ⟨_,_,a⟩ rfl rfl (A9 p▸c'.put (aC p) (by lia))
 refine aW (λe=>⟨by lia,wL hs,?_⟩) λe=>⟨by lia,wL hs,?_⟩
 . exact key s true (if_pos e).symm
 . exact key b.minalign false (if_neg e).symm
noncomputable def O3:Om:=bg 413 (bsp (I2 qW)) O2
theorem ok3:ΩOk 3 O3:=ok2.add (sI2 yw)
end
end
section
open PySem PySem.W PyProof.Rows PySem.Calls
section
structure Kd where
 w:Nat
 sg:Bool
 bl:Bool
 lo:Int
 hi:Int
noncomputable def kds:List (Nat×Kd):=[(70,⟨1,false,true,0,1⟩),(84,⟨1,false,false,(0),(255)⟩),(98,⟨2,false,false,(0),(65535)⟩),(112,⟨4,false,false,(0),(4294967295)⟩),(126,⟨8,false,false,(0),(18446744073709551615)⟩),(140,⟨1,true,false,(-128),(127)⟩),(154,⟨2,true,false,(-32768),(32767)⟩),(168,⟨4,true,false,(-2147483648),(2147483647)⟩),(182,⟨8,true,false,(-9223372036854775808),(9223372036854775807)⟩),(220,⟨2,false,false,(0),(65535)⟩)]
noncomputable def RPl(d:Kd)(v:Int)(b:BS)(m:Option Mn)(x:List Bx)(k:AV->Option W->Prop):Prop :=
 cnd (decide (d.lo<=v)) (cnd (decide (v<=d.hi)) ((0<=(b.head-(d.w:Int))/\(b.head-(d.w:Int))+d.w<=b.bytes.length/\b.bytes.length<=16777216/\dU d.w d.sg d.bl v)/\k .none (some (W.mk [{ b with head:=(b.head-(d.w:Int)),bytes:=(az b.bytes (b.head-(d.w:Int)) ((b.head-(d.w:Int))+d.w) (le d.w v)) }] m x))) False) False
noncomputable def av(bl u:Bool)(i:Int):AV:=match bl with
 | true=>.bool u
 | false=>.int i
noncomputable def nv(bl u:Bool)(i:Int):Int:=match bl with
 | true=>bI u
 | false=>i
theorem eu{bl:Bool}{a:AV}{v:Int}(h:cu bl a=some v):∃ u i,a=av bl u i/\v=nv bl u i:=by
 cases bl with
 | true=>exact(Option.map_eq_some_iff.mp h).elim λp z=>⟨p,0,hY z.1,z.2.symm⟩
 | false=>exact⟨true,v,gy h,rfl⟩
noncomputable def KdOk(d:Kd):Prop:=sz d.w/\∀ v,d.lo<=v->v<=d.hi->dU d.w d.sg d.bl v
noncomputable def kdC(d:Kd):Bool:=(match d.bl,d.sg with
 | true,_1=>d.lo==0&&d.hi==1
 | false,true=>d.lo==-(2 ^ (8*d.w-1))&&d.hi==2 ^ (8*d.w-1)-1
 | false,false=>d.lo==0&&d.hi==2 ^ (8*d.w)-1)&&(d.w==1 || d.w==2 || d.w==4 || d.w==8)
noncomputable def KdA(d:Kd):Prop:=(d.w=1\/d.w=2\/d.w=4\/d.w=8)/\(∀ v,d.lo<=v->v<=d.hi->dU d.w d.sg d.bl v)/\(d.lo<=0/\0<=d.hi)/\(d.bl=true->d.lo=0/\d.hi=1)
theorem zJ{d:Kd}(h:kdC d=true):KdA d:=by
 obtain⟨w,sg,bl,lo,hi⟩:=d
 refine x02 (Bool.and_eq_true_iff.mp h) λh1 h2=>?_
 have hw:w=1\/w=2\/w=4\/w=8:=by simpa [or_assoc] using h2
 have p1:(0:Int) < 2 ^ (8*w-1):=Int.pow_pos (by decide)
 have p2:(0:Int) < 2 ^ (8*w):=Int.pow_pos (by decide)
 cases bl with
 | true =>
  refine x02 (Bool.and_eq_true_iff.mp h1) λh3 h4=>?_
  obtain rfl:lo=0:=eq_of_beq h3
  obtain rfl:hi=1:=eq_of_beq h4
  exact⟨hw,λv h1 h2=>by show v=0\/v=1; dsimp only at h1 h2; lia,⟨Int.le_refl _,(by decide:(0:Int)<=1)⟩,λ_1=>⟨rfl,rfl⟩⟩
 | false =>
  cases sg with
  | true =>
   refine x02 (Bool.and_eq_true_iff.mp h1) λh3 h4=>?_
   obtain rfl:lo=-(2 ^ (8*w-1)):=eq_of_beq h3
   obtain rfl:hi=2 ^ (8*w-1)-1:=eq_of_beq h4
   exact⟨hw,λv h1 h2=>⟨h1,Int.lt_of_le_sub_one h2⟩,⟨Int.neg_nonpos_of_nonneg (Int.le_of_lt p1),Int.le_sub_one_of_lt p1⟩,nofun⟩
  | false =>
   refine x02 (Bool.and_eq_true_iff.mp h1) λh3 h4=>?_
   obtain rfl:lo=0:=eq_of_beq h3
   obtain rfl:hi=2 ^ (8*w)-1:=eq_of_beq h4
   exact⟨hw,λv h1 h2=>⟨h1,Int.lt_of_le_sub_one h2⟩,⟨Int.le_refl _,Int.le_sub_one_of_lt p2⟩,nofun⟩
theorem sZ{w:Nat}(h:w=1\/w=2\/w=4\/w=8):sz w:=by unfold sz; lia
theorem zK:kds.all (λp=>kdC p.2)=true:=by kernel_rfl
theorem wM{c:Nat}{d:Kd}(h:bA c kds=some d):KdA d:=zJ (List.all_eq_true.mp zK _ (bL h))
theorem wN{c:Nat}{d:Kd}(h:bA c kds=some d):KdOk d:=⟨sZ (wM h).1,(wM h).2.1⟩
theorem yx:kds.map (λp (u:Bool) (i:Int) b m x k=>RPl p.2 (nv p.2.bl u i) b m x k)=fy (λp u i b m x k=>ak O3 704 [.key (.bld 0),av p.2.bl u i,.top p.1] ⟨[b],m,x⟩ k) kds:=by kernel_rfl
noncomputable def leR(w:Nat)(v:Int):List UInt8:=(le w v).reverse
noncomputable abbrev plQ(d:Kd)(v:Int)(b:BS)(f:Bm->Prop):Prop:=(Co b.bytes b.head (out b)/\d.w<=b.head/\d.lo<=v/\v<=d.hi)/\∀ q,Pu (out b) b.head (leR d.w v) b.minalign (b.head-d.w) q->f q
noncomputable abbrev plS(d:Kd)(v:Int):BK:=λb K=>plQ d v b λq=>K .none (q.up b)
theorem ay{w:Nat}{v:Int}:(leR w v).length=w:=by rw [leR,List.length_reverse,iK]
theorem Co.le{b:BS}(c:Co b.bytes b.head (out b)){w:Nat}(v:Int)(h:(w:Int)<=b.head):0<=b.head-w/\b.head-w+w<=b.bytes.length/\b.bytes.length<=16777216/\Pu (out b) b.head (leR w v) b.minalign (b.head-w) ⟨az b.bytes (b.head-w) (b.head-w+w) (le w v),b.head-w,b.minalign⟩:=by
 have h2:=c.h1
 have h3:=c.h2
 refine⟨by lia,by lia,by lia,?_,rfl,Int.le_refl _,by rw [ay]; exact Int.le_refl _⟩
 rw [Int.sub_add_cancel]
 exact c.put iK h
theorem pt{d:Kd}(o:KdOk d){v:Int}{b:BS}{m:Option Mn}{x:List Bx}{k:AV->Option W->Prop}(h:plS d v b λv b'=>k v (some ⟨[b'],m,x⟩)):RPl d v b m x k:=by
 obtain⟨⟨c,hl,h1,h2⟩,h⟩:=h
 refine x04 (c.le v hl) λe1 e2 e3 e4=>?_
 exact aF h1 (aF h2 ⟨⟨e1,e2,e3,o.2 v h1 h2⟩,h _ e4⟩)
noncomputable def plA(as:List AV)(b:BS)(K:AV->BS->Prop):Prop:=aA as λa as=>aV f6 as λc as=>a0 as (cx (bA c kds) λd=>cx (cu d.bl a) λv=>plS d v b K)
theorem pl_ok:∀ vs w k,bsp plA vs w k->ak O3 704 vs w k:=fw λb m x k=>aAK λa=>wK λc=>a0K λh=>eP (λd e1 h=>eP (λv e2 h=>(eu e2).elim λu z=>z.elim λi z=>by
 rw [z.1,<- congrFun (congrFun (congrFun (congrFun (congrFun (congrFun (bU yx _ (bL e1)) u) i) b) m) x) k]
 exact pt (wN e1) (z.2▸h)) h) h
noncomputable def O4:Om:=bg 704 (bsp plA) O3
theorem ok4:ΩOk 4 O4:=ok3.addR pl_ok
noncomputable abbrev kS:Kd:=⟨4,true,false,-2147483648,2147483647⟩
noncomputable abbrev kU:Kd:=⟨4,false,false,0,4294967295⟩
theorem r_U(v:Int)(b:BS)(m:Option Mn)(x:List Bx)(k:AV->Option W->Prop):RPl kU v b m x k=ak O4 725 [.key (.bld 0),.int v] ⟨[b],m,x⟩ k:=by kernel_rfl
noncomputable def O5:Om:=bg 725 (bsp (I1 (plS kU))) O4
theorem r_S(v:Int)(b:BS)(m:Option Mn)(x:List Bx)(k:AV->Option W->Prop):RPl kS v b m x k=ak O5 718 [.key (.bld 0),.int v] ⟨[b],m,x⟩ k:=by kernel_rfl
noncomputable def O6:Om:=bg 718 (bsp (I1 (plS kS))) O5
theorem kOk:KdOk kS/\KdOk kU:=⟨⟨by unfold sz; simp,λv h1 h2=>by unfold dU; dsimp at *; lia⟩,by unfold sz; simp,λv h1 h2=>by unfold dU; dsimp at *; lia⟩
theorem ok5:ΩOk 5 O5:=ok4.addR (sI1 λv b m x k h=>r_U ..▸pt kOk.2 h)
theorem ok6:ΩOk 6 O6:=ok5.addR (sI1 λv b m x k h=>r_S ..▸pt kOk.1 h)
theorem Pu.trans{o:List UInt8}{h:Int}{z y:List UInt8}{a r a' r':Int}{q q':Bm}(p:Pu o h z a r q)(p':Pu (aG q.x q.h) q.h y a' r' q'):Pu o h (z++y) a' r' q':=⟨by
 have h:=p'.c
 rw [p.c.e,List.append_assoc] at h
 exact h,p'.a,p'.r,by
 have:=p.k
 have:=p'.k
 rw [List.length_append]; lia⟩
noncomputable abbrev puQ(d:Kd)(v:Int)(b:BS)(f:Bm->Prop):Prop:=(Co b.bytes b.head (out b)/\(out b).length<=900000/\d.lo<=v/\v<=d.hi)/\∀ q,Pu (out b) b.head (zr (pd d.w (out b).length)++leR d.w v) (mx b.minalign d.w) 0 q->f q
noncomputable abbrev puS(d:Kd)(v:Int):BK:=λb K=>puQ d v b λq=>K .none (q.up b)
theorem Pu.co{o:List UInt8}{h:Int}{z:List UInt8}{a r:Int}{q:Bm}(p:Pu o h z a r q):Co q.x q.h (aG q.x q.h):=by
 rw [p.c.e]; exact p.c
theorem puS.use{d:Kd}{v:Int}(o:sz d.w){b:BS}{K:AV->BS->Prop}(h:puS d v b K):qW d.w 0 b λ_1 b'=>plS d v b' K:=by
 obtain⟨⟨c,hl,h1,h2⟩,h⟩:=h
 refine⟨⟨c,o,by decide,by lia⟩,λq p=>⟨⟨p.co,by have:=p.r; show _<=q.h; lia,h1,h2⟩,λq' p'=>h q' ?_⟩⟩
 rw [Int.add_zero] at p
 obtain⟨e1,e2,e3,e4⟩:=p.trans p'
 exact⟨e1,e2.trans p.a,by have:=p.r; have:(q.up b).head=q.h:=rfl; lia,e4⟩
theorem Ba:kds.map (λp (u:Bool) (i:Int) (b:BS) (m:Option Mn) (x:List Bx) (k:AV->Option W->Prop)=>qW p.2.w 0 b λ_1 b=>plS p.2 (nv p.2.bl u i) b λv b=>k v (some ⟨[b],m,x⟩))=fy (λp u i b m x k=>ak O6 522 [.key (.bld 0),.top p.1,av p.2.bl u i] ⟨[b],m,x⟩ k) kds:=by kernel_rfl
noncomputable def prS(as:List AV)(b:BS)(K:AV->BS->Prop):Prop:=aV f6 as λc as=>aA as λa as=>a0 as (cx (bA c kds) λd=>cx (cu d.bl a) λv=>puS d v b K)
theorem pr_ok:∀ vs w k,bsp prS vs w k->ak O6 522 vs w k:=fw λb m x k=>wK λc=>aAK λa=>a0K λh=>eP (λd e1 h=>eP (λv e2 h=>(eu e2).elim λu z=>z.elim λi z=>by
 rw [z.1,<- congrFun (congrFun (congrFun (congrFun (congrFun (congrFun (bU Ba _ (bL e1)) u) i) b) m) x) k]
 exact puS.use (wN e1).1 (z.2▸h)) h) h
noncomputable def O7:Om:=bg 522 (bsp prS) O6
theorem ok7:ΩOk 7 O7:=ok6.addR pr_ok
end
end
section
open PySem PySem.W PyProof.Rows PySem.Calls
section
noncomputable def O8:Om:=addG [491,484] O7
noncomputable def RS1(d:Kd)(o v:Int)(e:Int)(b:BS)(m:Option Mn)(x:List Bx)(c:List Int)(k:AV->Option W->Prop):Prop :=
 cnd (decide (d.lo<=v)) (cnd (decide (v<=d.hi)) (cnd (decide (d.lo<=e)) (cnd (decide (e<=d.hi)) (cnd (!decide (v=e)) (puQ d v ({ b with cv:=some c }) λq1=>cnd (b.nested) ((q1.x.length<=16777216)/\(0<=o/\o < c.length/\c.length<=16777216)/\k .none (some (W.mk [(q1.up ({ b with cv:=some (c.set o.toNat ((q1.x.length:Int)-q1.h)) }))] m x))) False) (cnd (b.force) (puQ d v ({ b with cv:=some c }) λq1=>cnd (b.nested) ((q1.x.length<=16777216)/\(0<=o/\o < c.length/\c.length<=16777216)/\k .none (some (W.mk [(q1.up ({ b with cv:=some (c.set o.toNat ((q1.x.length:Int)-q1.h)) }))] m x))) False) (k .none none))) False) False) False) False
noncomputable def RS0(d:Kd)(o v:Int)(b:BS)(m:Option Mn)(x:List Bx)(c:List Int)(k:AV->Option W->Prop):Prop :=
 cnd (decide (d.lo<=v)) (cnd (decide (v<=d.hi)) (puQ d v ({ b with cv:=some c }) λq1=>cnd (b.nested) ((q1.x.length<=16777216)/\(0<=o/\o < c.length/\c.length<=16777216)/\k .none (some (W.mk [(q1.up ({ b with cv:=some (c.set o.toNat ((q1.x.length:Int)-q1.h)) }))] m x))) False) False) False
noncomputable def nvO(a:AV):Option (Option Int):=match isNone a with
 | true=>some none
 | false=>(toI a).map some
theorem zL{a:AV}{e:Option Int}(h:nvO a=some e):a=.none/\e=none\/(∃ i,a=.int i/\e=some i)\/∃ u,a=.bool u/\e=some (bI u):=by
 unfold nvO at h
 cases z:isNone a <;> rw [z] at h
 . refine .inr ((Option.map_eq_some_iff.mp h).elim λx y=>?_)
   rw [<- y.2]
   exact(uQ y.1).imp (λq=>⟨x,q,rfl⟩) λq=>q.imp λu q=>⟨q.1,by rw [q.2]⟩
 . exact .inl ⟨dS z,(Option.some.inj h).symm⟩
theorem rs0:(kds.take 9).map (λp (u:Bool) (i:Int) b m x c o k=>RS0 p.2 o (nv p.2.bl u i) b m x c k)=fy (λp u i b m x c o k=>ak O8 529 [.key (.bld 0),.top p.1,.int o,av p.2.bl u i,.none] ⟨[{ b with cv:=some c }],m,x⟩ k) (kds.take 9):=by kernel_rfl
theorem rs1:(kds.take 9).map (λp (u:Bool) (i j:Int) b m x c o k=>RS1 p.2 o (nv p.2.bl u i) j b m x c k)=fy (λp u i j b m x c o k=>ak O8 529 [.key (.bld 0),.top p.1,.int o,av p.2.bl u i,.int j] ⟨[{ b with cv:=some c }],m,x⟩ k) (kds.take 9):=by kernel_rfl
theorem rs2:(kds.take 9).map (λp (u:Bool) (i:Int) (j:Bool) b m x c o k=>RS1 p.2 o (nv p.2.bl u i) (bI j) b m x c k)=fy (λp u i j b m x c o k=>ak O8 529 [.key (.bld 0),.top p.1,.int o,av p.2.bl u i,.bool j] ⟨[{ b with cv:=some c }],m,x⟩ k) (kds.take 9):=by kernel_rfl
noncomputable def RSe(d:Kd)(o v:Int)(e:Option Int)(b:BS)(m:Option Mn)(x:List Bx)(c:List Int)(k:AV->Option W->Prop):Prop:=match e with
 | none=>RS0 d o v b m x c k
 | some i=>RS1 d o v i b m x c k
theorem Bb{c:Nat}{d:Kd}(h:bA c (kds.take 9)=some d){a:AV}{v:Int}(hp:cu d.bl a=some v){e:AV}{e':Option Int}(he:nvO e=some e'){o:Int}{b:BS}{m:Option Mn}{x:List Bx}{c2:List Int}{k:AV->Option W->Prop}(r:RSe d o v e' b m x c2 k):ak O8 529 [.key (.bld 0),.top c,.int o,a,e] ⟨[{ b with cv:=some c2 }],m,x⟩ k:=by
 refine x22 (eu hp) λu i e37_2 e37_3=>?_
 subst e37_2
 subst e37_3
 have hm:=bL h
 rcases zL he with ⟨rfl,rfl⟩ | ⟨j,rfl,rfl⟩ | ⟨j,rfl,rfl⟩
 . exact cast (congrFun (congrFun (congrFun (congrFun (congrFun (congrFun (congrFun (congrFun (bU rs0 _ hm) u) i) b) m) x) c2) o) k) r
 . exact cast (congrFun (congrFun (congrFun (congrFun (congrFun (congrFun (congrFun (congrFun (congrFun (bU rs1 _ hm) u) i) j) b) m) x) c2) o) k) r
 . exact cast (congrFun (congrFun (congrFun (congrFun (congrFun (congrFun (congrFun (congrFun (congrFun (bU rs2 _ hm) u) i) j) b) m) x) c2) o) k) r
noncomputable def slS(d:Kd)(o v:Int)(e:Option Int)(b:BS)(f:BS->Prop):Prop:=(Co b.bytes b.head (out b)/\(out b).length<=900000/\d.lo<=v/\v<=d.hi/\b.nested=true/\0<=o/\∀ i,e=some i->d.lo<=i/\i<=d.hi) /\
 ∃ c:List Int,b.cv=some c/\o < c.length/\c.length<=1000/\(e=some v->b.force=false->f b) /\
  ((e=some v->b.force=true)->∀ q,Pu (out b) b.head (zr (pd d.w (out b).length)++leR d.w v) (mx b.minalign d.w) 0 q->f (q.up { b with cv:=some (c.set o.toNat (q.x.length-q.h)) }))
noncomputable def psS(as:List AV)(b:BS)(K:AV->BS->Prop):Prop:=aV f6 as λc as=>aV vI as λo as=>aA as λa as=>aV nvO as λe as=>a0 as (cx (bA c (kds.take 9)) λd=>cx (cu d.bl a) λv=>slS d o v e b (K .none))
theorem cv_e{b:BS}{c:List Int}(h:b.cv=some c):∃ b':BS,b={ b' with cv:=some c }:=⟨b,by rw [<- h]⟩
theorem yy{d:Kd}{o v:Int}{e:Option Int}{b:BS}{m:Option Mn}{x:List Bx}{k:AV->Option W->Prop}(h:slS d o v e b λb'=>k .none (some ⟨[b'],m,x⟩)):∃ (c:List Int) (b':BS),b={ b' with cv:=some c }/\RSe d o v e b' m x c (wrK ⟨[b],m,x⟩ k):=by
 obtain⟨⟨c0,c1,c2,c3,c4,c5,c8⟩,c,hc,g6,g7,g8,g9⟩:=h
 refine(cv_e hc).elim λb e51_1=>?_
 subst e51_1
 refine⟨c,b,rfl,?_⟩
 have put:(e=some v->b.force=true)->(Co b.bytes b.head (out b)/\(out b).length<=900000/\d.lo<=v/\v<=d.hi)/\(∀ q:Bm,Pu (out b) b.head (zr (pd d.w (out b).length)++leR d.w v) (mx b.minalign d.w) 0 q->cnd b.nested (q.x.length<=16777216/\(0<=o/\o < c.length/\c.length<=16777216)/\k .none (some ⟨[q.up { b with cv:=some (c.set o.toNat (q.x.length-q.h)) }],m,x⟩)) False):=λg=>⟨⟨c0,c1,c2,c3⟩,λq p=>dk c4 ⟨Nat.le_trans p.c.h2 (by decide),⟨c5,g6,Nat.le_trans g7 (by decide)⟩,g9 g q p⟩⟩
 cases e with
 | none=>exact aF c2 (aF c3 (put nofun))
 | some i=>exact aF c2 (aF c3 (aF (c8 i rfl).1 (aF (c8 i rfl).2 (fV (λe4=>put λe6=>by cases e6; simp at e4) λe4=>fV (λe5=>put λ_1=>e5) λe5=>g8 (by rw [show v=i by simpa using e4]) e5))))
theorem ps_ok:∀ vs w k,bsp psS vs w k->ak O8 529 vs w (wrK w k):=fw λb m x k=>wK λc=>aIK λo=>aAK λa=>aVK λe' e as e3=>a0K (G:=λas=>ak O8 529 (_::_::_::_::_::as) _ _) (λh=>eP (λd e1 h=>eP (λv e2 h=>(yy h).elim λc z=>z.elim λb z=>by
 obtain⟨rfl,z⟩:=z
 exact Bb e1 e2 e3 z) h) h) as
theorem ok8:ΩOk 8 O8:=.addG ok7
noncomputable def O9:Om:=bg 529 (bsp psS) O8
theorem ok9:ΩOk 9 O9:=ok8.add ps_ok
end
end
section
open PySem PySem.W PyProof.Rows PySem.Calls
section
noncomputable def O10:Om:=addG [620,634,641,648,655,662,669,676,683,697,536,550,557,564,571,578,585,592,599,434,442,420] O9
theorem t_uo(b:BS)(m:Option Mn)(x:List Bx)(o:Int)(k:AV->Option W->Prop) :
 ((bM (4:Int) (0:Int) b λq1=>(q1.x.length<=16777216)/\cnd (decide (o<=((q1.x.length:Int)-q1.h))) ((q1.x.length<=16777216)/\(plQ kU ((((q1.x.length:Int)-q1.h)-o)+(4:Int)) (q1.up b) λq2=>k .none (some (W.mk [(q2.up b)] m x)))) False)) =
 ak O10 427 [.key (.bld 0),.int o] (W.mk [b] m x) k:=by kernel_rfl
noncomputable def uoZ(L:Nat)(o:Int):List UInt8:=zr (pd 4 L)++leR 4 (L+pd 4 L+4-o)
noncomputable abbrev uoQ(o:Int)(b:BS)(f:Bm->Prop):Prop:=(Co b.bytes b.head (out b)/\(out b).length<=900000/\0<=o/\o<=(out b).length)/\∀ q,Pu (out b) b.head (uoZ (out b).length o) (mx b.minalign 4) 0 q->f q
noncomputable def ocZ(L:Nat)(p:List UInt8)(z:Nat):List UInt8:=zr (pd 4 (L+(p.length+z:Nat)))++(zr z++p.reverse)++leR 4 p.length
noncomputable abbrev ocQ(z:Nat)(p:List UInt8)(b:BS)(f:Bm->Prop):Prop:=(Co b.bytes b.head (out b)/\b.nested=false/\(out b).length+p.length<=800000)/\∀ q,Pu (out b) b.head (ocZ (out b).length p z) (mx b.minalign 4) 0 q->f q
noncomputable abbrev ocS(z:Nat)(p:List UInt8):BK:=λb K=>ocQ z p b λq=>K (.int (q.x.length-q.h)) (q.up { b with nested:=false,vecN:=some none })
noncomputable def vOc(a:AV):Option (Prop×List UInt8):=match vBy a with
 | some p=>some (True,p)
 | none=>(vS a).map λs=>(∀ c∈s.cps.toList,Str.isSurrogate c=false,cr s)
theorem vOc_e{a:AV}{p:Prop×List UInt8}(h:vOc a=some p):a=.bytes p.2\/∃ s,a=.str s/\p=(∀ c∈s.cps.toList,Str.isSurrogate c=false,cr s):=by
 unfold vOc at h
 cases e:vBy a with
 | some x=>rw [e] at h; exact .inl (by rw [lS e,<- Option.some.inj h])
 | none=>rw [e] at h; exact(Option.map_eq_some_iff.mp h).elim λx z=>.inr ⟨x,vS_e z.1,z.2.symm⟩
noncomputable def csA(as:List AV)(b:BS)(K:AV->BS->Prop):Prop:=aV vOc as λp as=>a0 as (p.1/\ocS 1 p.2 b K)
noncomputable def cbA(as:List AV)(b:BS)(K:AV->BS->Prop):Prop:=aV vBy as λp as=>a0 as (ocS 0 p b K)
noncomputable def O11:Om:=bg 427 (bsp (I1 λo b K=>uoQ o b λq=>K .none (q.up b))) O10
noncomputable def O12:Om:=bg 456 (bsp csA) O11
noncomputable def O13:Om:=bg 463 (bsp cbA) O12
noncomputable def RC(b:BS)(m:Option Mn)(x:List Bx)(p:List UInt8)(k:AV->Option W->Prop):Prop :=
 ((p.length<=16777216)/\cnd (decide (((p.length:Int)+(1:Int)).natAbs < 2 ^ 64)) (bM (4:Int) (((p.length:Int)+(1:Int))*(1:Int)) ({ b with nested:=true }) λq1=>(plQ ⟨1,false,false,(0),(255)⟩ (0:Int) (q1.up ({ b with nested:=true })) λq2=>(0<=(q2.h-(p.length:Int))/\(q2.h-(p.length:Int))<=((q2.h-(p.length:Int))+(p.length:Int))/\((q2.h-(p.length:Int))+(p.length:Int))<=q2.x.length/\q2.x.length<=16777216/\(p.length:Int)=((q2.h-(p.length:Int))+(p.length:Int))-(q2.h-(p.length:Int)))/\(plQ kU (p.length:Int) ({ b with nested:=false,bytes:=(az q2.x (q2.h-(p.length:Int)) ((q2.h-(p.length:Int))+(p.length:Int)) p),head:=(q2.h-(p.length:Int)),minalign:=q2.a,vecN:=some (some (p.length:Int)) }) λq3=>(q3.x.length<=16777216)/\k (.int ((q3.x.length:Int)-q3.h)) (some (W.mk [(q3.up ({ b with nested:=false,vecN:=some none }))] m x))))) False)
noncomputable def RB(b:BS)(m:Option Mn)(x:List Bx)(p:List UInt8)(k:AV->Option W->Prop):Prop :=
 ((p.length<=16777216)/\cnd (decide ((p.length:Int).natAbs < 2 ^ 64)) (bM (4:Int) ((p.length:Int)*(1:Int)) ({ b with nested:=true }) λq1=>(0<=(q1.h-(p.length:Int))/\(q1.h-(p.length:Int))<=((q1.h-(p.length:Int))+(p.length:Int))/\((q1.h-(p.length:Int))+(p.length:Int))<=q1.x.length/\q1.x.length<=16777216/\(p.length:Int)=((q1.h-(p.length:Int))+(p.length:Int))-(q1.h-(p.length:Int)))/\(plQ kU (p.length:Int) ({ b with nested:=false,bytes:=(az q1.x (q1.h-(p.length:Int)) ((q1.h-(p.length:Int))+(p.length:Int)) p),head:=(q1.h-(p.length:Int)),minalign:=q1.a,vecN:=some (some (p.length:Int)) }) λq2=>(q2.x.length<=16777216)/\k (.int ((q2.x.length:Int)-q2.h)) (some (W.mk [(q2.up ({ b with nested:=false,vecN:=some none }))] m x)))) False)
theorem t_cs(b:BS)(m:Option Mn)(x:List Bx)(p:List UInt8)(k:AV->Option W->Prop):cnd b.nested False (RC b m x p k)=ak O11 456 [.key (.bld 0),.bytes p] ⟨[b],m,x⟩ k:=by kernel_rfl
theorem t_cs1(b:BS)(m:Option Mn)(x:List Bx)(k:AV->Option W->Prop)(s:Str):cnd b.nested False (((∀ c∈s.cps.toList,Str.isSurrogate c=false)/\(cr s).length<=16777216)/\RC b m x (cr s) k)=ak O11 456 [.key (.bld 0),.str s] ⟨[b],m,x⟩ k:=by kernel_rfl
theorem t_cb(b:BS)(m:Option Mn)(x:List Bx)(p:List UInt8)(k:AV->Option W->Prop):cnd b.nested False (RB b m x p k)=ak O12 463 [.key (.bld 0),.bytes p] ⟨[b],m,x⟩ k:=by kernel_rfl
theorem ok10:ΩOk 10 O10:=.addG ok9
theorem Pu.less{o:List UInt8}{h:Int}{z z':List UInt8}{a a' r r':Int}{q:Bm}(p:Pu o h z a r q)(hz:z=z')(ha:a=a')(hr:r'<=r):Pu o h z' a' r' q:=⟨hz▸p.c,ha▸p.a,Int.le_trans hr p.r,hz▸p.k⟩
theorem Pu.len{o:List UInt8}{h:Int}{z:List UInt8}{a r:Int}{q:Bm}(p:Pu o h z a r q):(q.x.length:Int)-q.h=o.length+z.length:=by
 have:=p.c.len
 rw [List.length_append] at this
 exact this
theorem bw{s L:Int}(h:1<=s):(pd s L:Int) < s:=by
 have:=Int.emod_lt_of_pos (-L) (b:=s) (by lia)
 have:=Int.emod_nonneg (-L) (b:=s) (by lia)
 unfold pd; lia
theorem uo_ok(o:Int)(b:BS)(m:Option Mn)(x:List Bx)(k:AV->Option W->Prop)(h:uoQ o b λq=>k .none (some ⟨[q.up b],m,x⟩)):ak O10 427 [.key (.bld 0),.int o] ⟨[b],m,x⟩ k:=by
 obtain⟨⟨c,h1,h2,h3⟩,h⟩:=h
 rw [<- t_uo]
 refine⟨⟨c,by unfold sz; simp,by decide,by lia⟩,λq p=>?_⟩
 have e:=p.len
 have:=p.c.h2
 have:=p.r
 have:=@bw 4 ((out b).length+0) (by decide)
 rw [aC] at e
 refine⟨by lia,aF (by lia) ⟨by lia,⟨p.co,by show((4:Nat):Int)<=q.h; omega,by show(0:Int)<=_; lia,by show _<=(4294967295:Int); lia⟩,λq2 p2=>h q2 ((p.trans p2).less ?_ p.a ?_)⟩⟩
 . rw [e]; unfold uoZ; rw [Int.add_zero]; congr 2; lia
 . show(0:Int)<=q.h-4; omega
theorem Pu.oct{o:List UInt8}{h:Int}{z:List UInt8}{a r:Int}{q:Bm}(p:Pu o h z a r q){y:List UInt8}(hl:y.length<=r):(0<=q.h-y.length/\q.h-y.length<=q.h-y.length+y.length/\q.h-y.length+y.length<=q.x.length/\q.x.length<=16777216/\(y.length:Int)=q.h-y.length+y.length-(q.h-y.length))/\Pu o h (z++y.reverse) a (r-y.length) ⟨az q.x (q.h-y.length) (q.h-y.length+y.length) y,q.h-y.length,q.a⟩:=by
 have h1:=p.r
 have h2:=p.c.h1
 have h3:=p.c.h2
 have h4:=p.k
 refine⟨by lia,?_,p.a,by show _<=q.h-y.length; lia,by rw [List.length_append,List.length_reverse]; show _<=q.h-y.length; lia⟩
 rw [Int.sub_add_cancel,<- List.append_assoc]
 exact p.c.put rfl (by lia)
variable {b:BS}{m:Option Mn}{x:List Bx}{p:List UInt8}{k:AV->Option W->Prop}
theorem wO{z:List UInt8}{q:Bm}{L:Nat}{n:Nat}(h:∀ q,Pu (out b) b.head (ocZ L p n) (mx b.minalign 4) 0 q->k (.int (q.x.length-q.h)) (some ⟨[q.up { b with nested:=false,vecN:=some none }],m,x⟩))(pu:Pu (out b) b.head z (mx b.minalign 4) (4+p.length) q)(hz:z=zr (pd 4 (L+(p.length+n:Nat)))++zr n)(hp:p.length<=900000) :
 (0<=q.h-p.length/\q.h-p.length<=q.h-p.length+p.length/\q.h-p.length+p.length<=q.x.length/\q.x.length<=16777216/\(p.length:Int)=q.h-p.length+p.length-(q.h-p.length))/\(plQ kU p.length { b with nested:=false,bytes:=az q.x (q.h-p.length) (q.h-p.length+p.length) p,head:=q.h-p.length,minalign:=q.a,vecN:=some (some (p.length:Int)) } λq3=>q3.x.length<=16777216/\k (.int (q3.x.length-q3.h)) (some ⟨[q3.up { b with nested:=false,vecN:=some none }],m,x⟩)):=by
 refine x02 (pu.oct (y:=p) (by lia)) λh1 h2=>?_
 have hr:=h2.r
 refine⟨h1,⟨h2.co,by show((4:Nat):Int)<=_; show _<=q.h-p.length; have:4+(p.length:Int)-p.length<=q.h-p.length:=hr; lia,Int.natCast_nonneg _,by show _<=(4294967295:Int); lia⟩,λq3 p3=>⟨Nat.le_trans p3.c.h2 (by decide),h q3 ((h2.trans p3).less ?_ pu.a ?_)⟩⟩
 . rw [hz]; simp only [ocZ,List.append_assoc]
 . have:4+(p.length:Int)-p.length<=q.h-p.length:=hr
   show(0:Int)<=q.h-p.length-((4:Nat):Int); lia
theorem zM(h:ocS 1 p b λv b'=>k v (some ⟨[b'],m,x⟩)):RC b m x p k:=by
 obtain⟨⟨c,h0,h1⟩,h⟩:=h
 refine⟨by lia,aF (by omega) ⟨⟨c,by unfold sz; simp,by lia,by show((out b).length:Int)+_<=_; lia⟩,λq pu=>⟨⟨pu.co,?_,by decide,by decide⟩,λq2 p2=>wO h ((pu.trans p2).less rfl pu.a ?_) ?_ (by lia)⟩⟩⟩
 . have:=pu.r; show((1:Nat):Int)<=q.h; lia
 . have:=pu.r; show _<=q.h-((1:Nat):Int); lia
 . rw [show leR 1 0=zr 1 from rfl]; congr 3; show((out b).length:Int)+_=_; lia
theorem RB_ok(h:ocS 0 p b λv b'=>k v (some ⟨[b'],m,x⟩)):RB b m x p k:=by
 obtain⟨⟨c,h0,h1⟩,h⟩:=h
 refine⟨by lia,aF (by omega) ⟨⟨c,by unfold sz; simp,by lia,by show((out b).length:Int)+_<=_; lia⟩,λq pu=>wO h (pu.less rfl rfl (by lia)) ?_ (by lia)⟩⟩
 rw [show zr 0=[] from rfl,List.append_nil]; congr 2; show((out b).length:Int)+_=_; lia
theorem cs_ok:∀ vs w k,bsp csA vs w k->ak O11 456 vs w k:=fw λb m x k=>aVK λa p as e=>a0K (G:=λas=>ak O11 456 (_::_::as) _ _) (λh=>(vOc_e e).elim (λz=>by rw [z,<- t_cs]; exact dK h.2.1.2.1 (zM h.2)) λz=>z.elim λs z=>by
 rw [z.1,<- t_cs1]
 rw [z.2] at h
 exact dK h.2.1.2.1 ⟨⟨h.1,Nat.le_trans (Nat.le_trans (Nat.le_add_left _ _) h.2.1.2.2) (by decide)⟩,zM h.2⟩) as
theorem cb_ok:∀ vs w k,bsp cbA vs w k->ak O12 463 vs w k:=fw λb m x k=>aEK .bytes (λ_1 _2=>lS) λp=>a0K λh=>by rw [<- t_cb]; exact dK h.1.2.1 (RB_ok h)
theorem ok11:ΩOk 11 O11:=ok10.addR (sI1 uo_ok)
theorem ok12:ΩOk 12 O12:=ok11.addR cs_ok
theorem ok13:ΩOk 13 O13:=ok12.addR cb_ok
end
end
section
open PySem PySem.W PyProof.Rows PySem.Calls
section
noncomputable abbrev fiB:=whB
noncomputable abbrev ifA:=whB
noncomputable def LV1(oo:Int)(V:List Int)(t:Bool):Loc:=⟨[(S "self",.v (.key (.bld 0))),(S "objectOffset",.v (.int oo)),(S "vtKey",.own V),(S "trim",.v (.bool t))],scF 371⟩
noncomputable def LV2(oo:Int)(V:List Int)(t:Bool)(os:Int)(i:Int)(tr:Int):Loc:=⟨[(S "self",.v (.key (.bld 0))),(S "objectOffset",.v (.int oo)),(S "vtKey",.v (.itup V)),(S "trim",.v (.bool t)),(S "objectSize",.v (.int os)),(S "vt2Offset",.v .none),(S "i",.v (.int i)),(S "trailing",.v (.int tr))],scF 371⟩
noncomputable def kW:List Int->Loc->EM (Fl×Loc):=uj (ev O13 59) (S "elem") (fiB (stI 371 4))
theorem w0_WV(b:BS)(m:Option Mn)(x:List Bx)(c:List Int)(oe:Int)(oo e:Int)(V:List Int)(t:Bool)(wr:Bool)(K:Fl×Loc->G->Prop):(K (.nx,(LV1 oo V t)) ⟨W.mk [{ b with cv:=some c,objectEnd:=some oe }] m x,wr⟩)=kW [] (LV1 oo V t) ⟨W.mk [{ b with cv:=some c,objectEnd:=some oe }] m x,wr⟩ K:=by kernel_rfl
theorem w1_WV(b:BS)(m:Option Mn)(x:List Bx)(c:List Int)(oe:Int)(oo e:Int)(V:List Int)(t:Bool)(wr:Bool)(r:List Int)(K:Fl×Loc->G->Prop):(cnd (decide (e=(0:Int))) (cnd (t) (kW r (LV1 oo V t) ⟨W.mk [{ b with cv:=some c,objectEnd:=some oe }] m x,wr⟩ K) ((V.length<=16777215)/\kW r (LV1 oo (V++[e]) t) ⟨W.mk [{ b with cv:=some c,objectEnd:=some oe }] m x,wr⟩ K)) ((V.length<=16777215)/\kW r (LV1 oo (V++[(oo-e)]) false) ⟨W.mk [{ b with cv:=some c,objectEnd:=some oe }] m x,wr⟩ K))=kW (e::r) (LV1 oo V t) ⟨W.mk [{ b with cv:=some c,objectEnd:=some oe }] m x,wr⟩ K:=by kernel_rfl
noncomputable def nL:Nat->Loc->EM (Fl×Loc):=dy (ev O13 58) (whT ((ifA (stI 371 9)).getD 3 default)) (whB ((ifA (stI 371 9)).getD 3 default))
theorem w0_WW(b:BS)(m:Option Mn)(x:List Bx)(c:List Int)(oe:Int)(oo os i tr:Int)(V:List Int)(t:Bool)(wr:Bool)(K:Fl×Loc->G->Prop):(cnd (decide (i ≥ (0:Int))) False (K (.nx,(LV2 oo V t os i tr)) ⟨W.mk [{ b with cv:=some c,objectEnd:=some oe }] m x,wr⟩))=nL 0 (LV2 oo V t os i tr) ⟨W.mk [{ b with cv:=some c,objectEnd:=some oe }] m x,wr⟩ K:=by kernel_rfl
theorem w1_WW(b:BS)(m:Option Mn)(x:List Bx)(c:List Int)(oe:Int)(oo os i tr:Int)(V:List Int)(t:Bool)(wr:Bool)(N:Nat)(K:Fl×Loc->G->Prop):(cnd (decide (i ≥ (0:Int))) (cS c i λv1=>cnd (decide (v1=(0:Int))) (cnd (t) (nL N (LV2 oo V t os (i-(1:Int)) (tr+(1:Int))) ⟨W.mk [{ b with cv:=some c,objectEnd:=some oe }] m x,wr⟩ K) (puQ ⟨2,false,false,(0),(65535)⟩ (0:Int) ({ b with cv:=some c,objectEnd:=some oe }) λq2=>nL N (LV2 oo V t os (i-(1:Int)) tr) ⟨W.mk [(q2.up ({ b with cv:=some c,objectEnd:=some oe }))] m x,true⟩ K)) (puQ ⟨2,false,false,(0),(65535)⟩ (oo-v1) ({ b with cv:=some c,objectEnd:=some oe }) λq2=>nL N (LV2 oo V false os (i-(1:Int)) tr) ⟨W.mk [(q2.up ({ b with cv:=some c,objectEnd:=some oe }))] m x,true⟩ K)) False)=nL (N+1) (LV2 oo V t os i tr) ⟨W.mk [{ b with cv:=some c,objectEnd:=some oe }] m x,wr⟩ K:=by kernel_rfl
theorem t_WV(b:BS)(m:Option Mn)(x:List Bx)(c:List Int)(oe:Int)(k:AV->Option W->Prop):((bM (4:Int) (0:Int) ({ b with cv:=some c,objectEnd:=some oe }) λq1=>(q1.x.length<=16777216)/\cnd (decide ((0:Int)<=((q1.x.length:Int)-q1.h))) ((q1.x.length<=16777216)/\(plQ kS ((((q1.x.length:Int)-q1.h)-(0:Int))+(4:Int)) (q1.up ({ b with cv:=some c,objectEnd:=some oe })) λq2=>(q2.x.length<=16777216)/\kW c.reverse (LV1 ((q2.x.length:Int)-q2.h) [] true) ⟨W.mk [(q2.up ({ b with cv:=some c,objectEnd:=some oe }))] m x,true⟩ (cZ (ev O13 60) ((aJ 371).drop 5) (eO k)))) False))=ak O13 371 [.key (.bld 0)] (W.mk [{ b with cv:=some c,objectEnd:=some oe }] m x) k:=by kernel_rfl
theorem t_WI(b:BS)(m:Option Mn)(x:List Bx)(c:List Int)(oe:Int)(oo:Int)(V:List Int)(t:Bool)(k:AV->Option W->Prop):((V.length<=16777215)/\((V++[(oo-oe)]).length<=16777216)/\cnd ((aN (V++[(oo-oe)]) b.vt).isSome) ((b.bytes.length<=16777216)/\(0<=((b.bytes.length:Int)-oo)/\((b.bytes.length:Int)-oo)+4<=b.bytes.length/\b.bytes.length<=16777216/\dU 4 true false (((aN (V++[(oo-oe)]) b.vt).getD 0)-oo))/\k (.int oo) (some (W.mk [{ b with cv:=none,objectEnd:=some oe,head:=((b.bytes.length:Int)-oo),bytes:=(az b.bytes ((b.bytes.length:Int)-oo) (((b.bytes.length:Int)-oo)+4) (le 4 (((aN (V++[(oo-oe)]) b.vt).getD 0)-oo))) }] m x))) ((c.length<=16777216)/\∃ N,nL N (LV2 oo (V++[(oo-oe)]) true (oo-oe) ((c.length:Int)-(1:Int)) (0:Int)) ⟨W.mk [{ b with cv:=some c,objectEnd:=some oe }] m x,true⟩ (cZ (ev O13 59) ((ifA (stI 371 9)).drop 4) (cZ (ev O13 60) ((aJ 371).drop 10) (eO k)))))=(cZ (ev O13 60) ((aJ 371).drop 5) (eO k)) (.nx,(LV1 oo V t)) ⟨W.mk [{ b with cv:=some c,objectEnd:=some oe }] m x,true⟩:=by kernel_rfl
theorem t_WE(b:BS)(m:Option Mn)(x:List Bx)(c:List Int)(oe:Int)(oo os i tr:Int)(V:List Int)(t:Bool)(wr:Bool)(k:AV->Option W->Prop):((puQ ⟨2,false,false,(0),(65535)⟩ os ({ b with cv:=some c,objectEnd:=some oe }) λq1=>(c.length<=16777216)/\cnd (decide ((((c.length:Int)-tr)+(2:Int)).natAbs < 2 ^ 64)) (puQ ⟨2,false,false,(0),(65535)⟩ ((((c.length:Int)-tr)+(2:Int))*(2:Int)) (q1.up ({ b with cv:=some c,objectEnd:=some oe })) λq2=>(q2.x.length<=16777216)/\(q2.x.length<=16777216)/\(0<=((q2.x.length:Int)-oo)/\((q2.x.length:Int)-oo)+4<=q2.x.length/\q2.x.length<=16777216/\dU 4 true false (((q2.x.length:Int)-q2.h)-oo))/\((az q2.x ((q2.x.length:Int)-oo) (((q2.x.length:Int)-oo)+4) (le 4 (((q2.x.length:Int)-q2.h)-oo))).length<=16777216)/\(aN V b.vt=none/\b.vt.length<=1000)/\k (.int oo) (some (W.mk [{ b with cv:=none,objectEnd:=some oe,bytes:=(az q2.x ((q2.x.length:Int)-oo) (((q2.x.length:Int)-oo)+4) (le 4 (((q2.x.length:Int)-q2.h)-oo))),head:=q2.h,minalign:=q2.a,vt:=(b.vt++[(V,(((az q2.x ((q2.x.length:Int)-oo) (((q2.x.length:Int)-oo)+4) (le 4 (((q2.x.length:Int)-q2.h)-oo))).length:Int)-q2.h))]) }] m x))) False))=cZ (ev O13 59) ((ifA (stI 371 9)).drop 4) (cZ (ev O13 60) ((aJ 371).drop 10) (eO k)) (.nx,(LV2 oo V t os i tr)) ⟨W.mk [{ b with cv:=some c,objectEnd:=some oe }] m x,wr⟩:=by kernel_rfl
end
end
section
open PySem PySem.W PyProof.Rows PySem.Calls
section
noncomputable def ent(oo p:Int):Int:=if p=0 then 0 else oo-p
noncomputable def dz:List Int->List Int
 | []=>[]
 | x::r=>if x=0 then dz r else x::r
noncomputable def dzT:Bool->List Int->List Int
 | true,l=>dz l
 | false,l=>l
theorem dzT_1{x:Int}{l:List Int}(h:x≠0):∀ {t},dzT t (x::l)=x::l
 | true=>if_neg h
 | false=>rfl
theorem kX:∀ l:List Int,(dz l).length<=l.length
 | []=>Nat.le_refl _
 | x::r=>by
  unfold dz
  split
  . exact Nat.le_succ_of_le (kX r)
  . exact Nat.le_refl _
theorem Bc:∀{l:List Int}{y:Int},y∈dz l->y∈l
 | x::r,y,h=>by
  unfold dz at h
  split at h
  . exact .tail _ (Bc h)
  . exact h
theorem gN{b:BS}{m:Option Mn}{x:List Bx}{c:List Int}{oe oo:Int}{wr:Bool}{K:Fl×Loc->G->Prop}:∀ (l V:List Int) (t:Bool),(∀ p∈l,p≠0->oo-p≠0)->V.length+l.length<=1000->(∀ t',K (.nx,LV1 oo (V++dzT t (l.map (ent oo))) t') ⟨⟨[{ b with cv:=some c,objectEnd:=some oe }],m,x⟩,wr⟩) ->
 kW l (LV1 oo V t) ⟨⟨[{ b with cv:=some c,objectEnd:=some oe }],m,x⟩,wr⟩ K:=by
 intro l
 induction l with
 | nil =>
  intro V t _ _ k
  rw [<- w0_WV _ _ _ _ _ _ 0]
  have:=k t
  cases t <;> (rw [List.map_nil,show dzT _ []=[] from rfl,List.append_nil] at this; exact this)
 | cons e r gN =>
  intro V t h hl k
  rw [<- w1_WV]
  have hl:V.length+(r.length+1)<=1000:=hl
  have hr:=λp hp=>h p (.tail _ hp)
  have z:∀ y,y=ent oo e->(∀ t',K (.nx,LV1 oo ((V++[y])++dzT false (r.map (ent oo))) t') ⟨⟨[{ b with cv:=some c,objectEnd:=some oe }],m,x⟩,wr⟩)->V.length<=16777215/\kW r (LV1 oo (V++[y]) false) ⟨⟨[{ b with cv:=some c,objectEnd:=some oe }],m,x⟩,wr⟩ K:=λy hy k=>⟨by lia,gN _ false hr (by rw [List.length_append]; show _+1+_<=_; lia) k⟩
  refine aW (λhe=>?_) λhe=>?_
  . subst he
    cases t with
    | true=>exact gN V true hr (by lia) λt'=>k t'
    | false=>exact z 0 rfl λt'=>by rw [List.append_assoc]; exact k t'
  . refine z _ (if_neg he).symm λt'=>?_
    have:=k t'
    rw [List.map_cons,show ent oo e=oo-e from if_neg he,dzT_1 (h e (.head _) he)] at this
    rw [List.append_assoc]; exact this
theorem tc{s L:Int}(h:L % s=0):pd s L=0:=by unfold pd; rw [Int.neg_emod,if_pos (Int.dvd_of_emod_eq_zero h)]; rfl
theorem iY{a s:Int}(h:s<=a):mx a s=a:=if_neg (by lia)
theorem Pu.al{o:List UInt8}{h:Int}{w:Nat}{v a r:Int}{q:Bm}(p:Pu o h (zr (pd w o.length)++leR w v) (mx a w) r q)(e:(o.length:Int) % w=0)(ha:w<=a):Pu o h (leR w v) a r q:=p.less (by rw [tc e]; rfl) (iY ha) (Int.le_refl _)
theorem Pu.nil{b:BS}(c:Co b.bytes b.head (out b)):Pu (out b) b.head [] b.minalign 0 ⟨b.bytes,b.head,b.minalign⟩:=⟨(List.append_nil _).symm▸c,rfl,c.h0,by show b.head-(0:Nat)<=b.head; lia⟩
theorem wP(xs:List Int){n:Nat}(h:n < xs.length):(xs.take (n+1)).reverse=bc xs n::(xs.take n).reverse:=by
 rw [List.take_succ,List.reverse_append,List.getElem?_eq_getElem h]
 unfold bc
 rw [List.getD_eq_getElem?_getD,Int.toNat_natCast,List.getElem?_eq_getElem h]
 rfl
theorem fW{xs:List Int}{n:Nat}(h:n < xs.length):bc xs n∈xs:=by
 unfold bc
 rw [List.getD_eq_getElem?_getD,Int.toNat_natCast,List.getElem?_eq_getElem h]
 exact List.getElem_mem h
theorem gP{m:Option Mn}{x:List Bx}{c V:List Int}{oe oo os:Int}{K:Fl×Loc->G->Prop}(hc:c.length<=100)(hx:∀ p∈c,0<=ent oo p/\ent oo p<=65535/\(p≠0->oo-p≠0)):∀ (n:Nat),n<=c.length->∀ (b:BS) (tr:Int) (t wr:Bool),Co b.bytes b.head (out b)->((out b).length:Int) % (2:Nat)=0->(out b).length+2*n<=700000->2<=b.minalign ->
 (∀ q t' wr',Pu (out b) b.head ((dzT t ((c.take n).reverse.map (ent oo))).flatMap (leR 2)) b.minalign 0 q->K (.nx,LV2 oo V t' os (-1) (tr+(n-(dzT t ((c.take n).reverse.map (ent oo))).length))) ⟨⟨[q.up { b with cv:=some c,objectEnd:=some oe }],m,x⟩,wr'⟩) ->
 nL n (LV2 oo V t os (n-1) tr) ⟨⟨[{ b with cv:=some c,objectEnd:=some oe }],m,x⟩,wr⟩ K:=by
 intro n
 induction n with
 | zero =>
  intro hn b tr t wr co h2 hl ha k
  have:=k ⟨b.bytes,b.head,b.minalign⟩ t wr (by cases t <;> exact Pu.nil co)
  rw [<- w0_WW]
  refine iW (by decide) ?_
  have e:tr+(((0:Nat):Int)-(dzT t (((c.take 0).reverse).map (ent oo))).length)=tr:=by cases t <;> exact Int.add_zero _
  rw [e] at this
  exact this
 | succ n gP =>
  intro hn b tr t wr co h2 hl ha k
  have hm:=hx _ (fW hn)
  rw [show((n+1:Nat):Int)-1=n by lia,<- w1_WW]
  rw [wP c hn,List.map_cons] at k
  refine aF (by lia) (cS.i (by lia) (by lia) (by lia) ?_)
  have put:∀ v,v=ent oo (bc c n)->(t=true->v≠0)->puQ ⟨2,false,false,0,65535⟩ v { b with cv:=some c,objectEnd:=some oe } λq1=>nL n (LV2 oo V false os (n-1) tr) ⟨⟨[q1.up { b with cv:=some c,objectEnd:=some oe }],m,x⟩,true⟩ K:=λv e nz=>by
   have ez:dzT t (v::(c.take n).reverse.map (ent oo))=v::(c.take n).reverse.map (ent oo):=by
    cases t with
    | true=>exact if_neg (nz rfl)
    | false=>rfl
   rw [<- e,ez] at k
   refine⟨⟨co,by show(out b).length<=_; lia,e▸hm.1,e▸hm.2.1⟩,λq1 p1=>?_⟩
   have p1:=Pu.al (w:=2) p1 h2 ha
   have l1:=congrArg List.length p1.c.e
   rw [List.length_append,ay] at l1
   have l1:(out (q1.up b)).length=(out b).length+2:=l1
   refine gP (by lia) (q1.up b) tr false true p1.co (by lia) (by lia) (by show 2<=q1.a; rw [p1.a]; exact ha) λq t' wr' p=>?_
   have:=k q t' wr' ((p1.trans p).less rfl p1.a (Int.le_refl _))
   rw [List.length_cons,show((n+1:Nat):Int)-((((c.take n).reverse.map (ent oo)).length+1:Nat):Int)=n-(dzT false ((c.take n).reverse.map (ent oo))).length by show _=(n:Int)-((c.take n).reverse.map (ent oo)).length; lia] at this
   exact this
  refine aW (λhe=>?_) λhe=>?_
  . have e0:ent oo (bc c n)=0:=if_pos he
    cases t with
    | true =>
     refine gP (by lia) b (tr+1) true wr co h2 (by lia) ha λq t' wr' p=>?_
     have:=k q t' wr' (by rw [e0]; exact p)
     rw [e0,show dzT true (0::(c.take n).reverse.map (ent oo))=dzT true ((c.take n).reverse.map (ent oo)) from rfl,show tr+(((n+1:Nat):Int)-(dzT true ((c.take n).reverse.map (ent oo))).length)=tr+1+(n-(dzT true ((c.take n).reverse.map (ent oo))).length) by lia] at this
     exact this
    | false=>exact put 0 e0.symm nofun
  . have e1:ent oo (bc c n)=oo-bc c n:=if_neg he
    exact put _ e1.symm λ_1=>hm.2.2 he
end
end
section
open PySem PySem.W PyProof.Rows PySem.Calls
section
theorem pA{P J A y:List UInt8}{i k:Int}(hi:i=P.length)(hk:k=P.length+J.length):az (P++(J++A)) i k y=P++(y++A):=by
 unfold az
 rw [hi,hk,Int.toNat_natCast,List.take_left,show((P.length:Int)+J.length).toNat=(P++J).length by rw [List.length_append]; lia,<- List.append_assoc P J A,List.drop_left,List.append_assoc]
theorem Co.over{x:List UInt8}{h i:Int}{A J R y:List UInt8}(c:Co x h (A++(J++R)))(hy:y.length=J.length)(hi:i=x.length-(A.length+J.length)):Co (az x i (i+J.length) y) h (A++(y.reverse++R))/\(az x i (i+J.length) y).length=x.length:=by
 have h0:=c.h0
 have h1:=c.h1
 have e:x=x.take h.toNat++R.reverse++(J.reverse++A.reverse):=by
  have:=congrArg List.reverse c.e
  unfold aG at this
  rw [List.reverse_reverse,List.reverse_append,List.reverse_append] at this
  rw [List.append_assoc,<- List.append_assoc R.reverse,<- this,List.take_append_drop]
 have et:(x.take h.toNat).length=h.toNat:=by rw [List.length_take]; lia
 have ex:=congrArg List.length e
 rw [List.length_append,List.length_append,List.length_append,et,List.length_reverse,List.length_reverse,List.length_reverse] at ex
 have es:az x i (i+J.length) y=x.take h.toNat++R.reverse++(y++A.reverse):=by
  conv=>lhs; rw [e]
  refine pA ?_ ?_
  . rw [List.length_append,et,List.length_reverse]; lia
  . rw [List.length_append,et,List.length_reverse,List.length_reverse]; lia
 have el:(az x i (i+J.length) y).length=x.length:=by
  rw [es,List.length_append,List.length_append,List.length_append,et,List.length_reverse,List.length_reverse]; lia
 refine⟨⟨h0,by rw [el]; exact h1,by rw [el]; exact c.h2,?_⟩,el⟩
 unfold aG
 rw [es,List.append_assoc,List.drop_append,List.drop_of_length_le (by lia),et,Nat.sub_self,List.nil_append,List.drop_zero,List.reverse_append,List.reverse_append,List.reverse_reverse,List.reverse_reverse,List.append_assoc]
noncomputable def wvH(o:List UInt8):Int:=o.length+pd 4 o.length+4
noncomputable def wvD(o:List UInt8)(c:List Int):List Int:=dz (c.reverse.map (ent (wvH o)))
noncomputable def wvK(o:List UInt8)(c:List Int)(oe:Int):List Int:=wvD o c++[wvH o-oe]
noncomputable def wvL(o:List UInt8)(c:List Int)(oe:Int):List Int:=wvK o c oe++[2*(((wvD o c).length:Int)+1)+2]
noncomputable def wvZ(o:List UInt8)(c:List Int)(oe:Int)(vt:List (List Int×Int)):List UInt8:=zr (pd 4 o.length)++(match aN (wvK o c oe) vt with
 | some v=>leR 4 (v-wvH o)
 | none=>leR 4 (2*(wvL o c oe).length)++(wvL o c oe).flatMap (leR 2))
noncomputable def wvT(o:List UInt8)(c:List Int)(oe:Int)(vt:List (List Int×Int)):List (List Int×Int):=match aN (wvK o c oe) vt with
 | some _1=>vt
 | none=>vt++[(wvK o c oe,wvH o+2*(wvL o c oe).length)]
structure WvP(o:List UInt8)(vt:List (List Int×Int))(c:List Int)(oe:Int):Prop where
 xe:∀ p∈c,0<=p/\p<=o.length
 xl:c.length<=100
 o0:0<=oe/\oe<=o.length
 le:o.length<=62000
 vl:vt.length<=900
 sd:∀ k v,aN k vt=some v->0<=v/\v<=o.length
noncomputable abbrev wvQ(c:List Int)(oe:Int)(b:BS)(f:Bm->Prop):Prop:=Co b.bytes b.head (out b)/\WvP (out b) b.vt c oe/\∀ q,Pu (out b) b.head (wvZ (out b) c oe b.vt) (mx b.minalign 4) 0 q->f q
noncomputable def wvB(b:BS)(F:Int->BS->Prop):Prop:=∃ c oe,b.cv=some c/\b.objectEnd=some oe/\wvQ c oe b λq=>F (wvH (out b)) (q.up { b with cv:=none,vt:=wvT (out b) c oe b.vt })
noncomputable def wvS:BK:=λb K=>wvB b λv=>K (.int v)
theorem ey:∀ l:List Int,(l.flatMap (leR 2)).length=2*l.length
 | []=>rfl
 | e::r=>by rw [List.flatMap_cons,List.length_append,ey r,ay,List.length_cons]; lia
theorem Pu.snoc2{o Z:List UInt8}{h a v:Int}{q q':Bm}(p:Pu o h Z a 0 q)(e:((o.length+Z.length:Nat):Int) % (2:Nat)=0)(ha:2<=a)(p':Pu (aG q.x q.h) q.h (zr (pd 2 (aG q.x q.h).length)++leR 2 v) (mx q.a 2) 0 q'):Pu o h (Z++leR 2 v) a 0 q' :=
 p.trans ((Pu.al (w:=2) p' (by rw [p.c.e,List.length_append]; exact e) (by rw [p.a]; exact ha)).less rfl p.a (Int.le_refl _))
theorem dF{s L:Int}(h:1<=s):(L+pd s L) % s=0:=by
 have:=Int.emod_nonneg (-L) (b:=s) (by lia)
 unfold pd
 rw [Int.toNat_of_nonneg this,Int.add_emod_emod,Int.add_right_neg,Int.zero_emod]
theorem wv_ok(b:BS)(m:Option Mn)(x:List Bx)(k:AV->Option W->Prop)(h:wvS b λv b'=>k v (some ⟨[b'],m,x⟩)):ak O13 371 [.key (.bld 0)] ⟨[b],m,x⟩ k:=by
 refine x25 h λc oe hcv hoe co p h=>?_
 obtain⟨b,rfl⟩:∃ b':BS,b={ b' with cv:=some c,objectEnd:=some oe }:=⟨b,by rw [<- hcv,<- hoe]⟩
 obtain⟨xe,xl,o0,hle,vl,sd⟩:WvP (out b) b.vt c oe:=p
 have hd:=@bw 4 (out b).length (by decide)
 rw [<- t_WV]
 refine⟨⟨co,by unfold sz; simp,by decide,by show((out b).length:Int)+0<=_; lia⟩,λq1 p1=>?_⟩
 have p1:Pu (out b) b.head (zr (pd 4 (out b).length)) (mx b.minalign 4) 4 q1:=p1.less (by rw [Int.add_zero]) rfl (by decide)
 have l1:=p1.len
 rw [aC] at l1
 have:=p1.c.h2
 have:=p1.r
 refine⟨by lia,aF (by lia) ⟨by lia,⟨p1.co,by show((4:Nat):Int)<=q1.h; omega,by show(-2147483648:Int)<=_; lia,by show _<=(2147483647:Int); lia⟩,λq2 p2=>?_⟩⟩
 have a4:4<=mx b.minalign 4:=by unfold mx; split <;> lia
 have p2:Pu (out b) b.head (zr (pd 4 (out b).length)++leR 4 (q1.x.length-q1.h-0+4)) (mx b.minalign 4) 0 q2:=(p1.trans p2).less rfl p1.a (by show(0:Int)<=q1.h-((4:Nat):Int); omega)
 have lJ:(leR 4 (q1.x.length-q1.h-0+4)).length=4:=ay
 generalize leR 4 (q1.x.length-q1.h-0+4)=J at p2 lJ
 have l2:=p2.len
 rw [List.length_append,aC,lJ] at l2
 have hH:wvH (out b)=(out b).length+pd 4 (out b).length+4:=rfl
 have l2:(q2.x.length:Int)-q2.h=wvH (out b):=by lia
 have:=p2.c.h2
 have:=p2.c.h1
 show _/\kW _ (LV1 (q2.x.length-q2.h) _ _) _ _
 rw [l2]
 have nz:∀ p∈c,p≠0->wvH (out b)-p≠0:=λp hp _1=>by have:=xe p hp; lia
 refine⟨by lia,gN (b:=q2.up b) c.reverse [] true (λp hp=>nz p (List.mem_reverse.mp hp)) (by rw [List.length_reverse]; show 0+_<=_; lia) λt'=>?_⟩
 have ek:[]++dzT true (c.reverse.map (ent (wvH (out b))))=wvD (out b) c:=rfl
 have lD:(wvD (out b) c).length<=c.length:=by
  have:=kX (c.reverse.map (ent (wvH (out b))))
  rw [List.length_map,List.length_reverse] at this; exact this
 have lK:(wvK (out b) c oe).length=(wvD (out b) c).length+1:=by unfold wvK; rw [List.length_append]; rfl
 rw [ek,<- t_WI (q2.up b)]
 refine⟨by lia,?_⟩
 rw [show wvD (out b) c++[wvH (out b)-oe]=wvK (out b) c oe from rfl]
 refine⟨by lia,?_⟩
 have bt:(q2.up b).vt=b.vt:=rfl
 have bb:(q2.up b).bytes=q2.x:=rfl
 rw [bt,bb]
 cases ha:aN (wvK (out b) c oe) b.vt with
 | some v =>
  have sv:=sd _ v ha
  have eh:(q2.x.length:Int)-wvH (out b)=q2.h:=by lia
  rw [eh]
  refine⟨by lia,⟨p2.c.h0,by have:=p2.c.len; rw [List.length_append,List.length_append,lJ] at this; lia,by lia,by show(-2147483648:Int)<=_; show _<=v-wvH (out b); lia,by show v-wvH (out b) < 2147483648; lia⟩,?_⟩
  refine x02 (Co.over (A:=out b++zr (pd 4 (out b).length)) (J:=J) (R:=[]) (y:=le 4 (v-wvH (out b))) (i:=q2.h) (by rw [List.append_nil,List.append_assoc]; exact p2.c) (by rw [lJ,iK]) (by rw [List.length_append,aC,lJ]; lia)) λc3 l3=>?_
  rw [lJ] at c3
  have ez:wvZ (out b) c oe b.vt=zr (pd 4 (out b).length)++leR 4 (v-wvH (out b)):=by unfold wvZ; rw [ha]
  have:=h ⟨az q2.x q2.h (q2.h+(4:Nat)) (le 4 (v-wvH (out b))),q2.h,q2.a⟩ ⟨by
   rw [List.append_nil,List.append_assoc] at c3
   rw [show wvZ _ _ _ _=_ from ez]; exact c3,p2.a,p2.c.h0,by
   have hk:=p2.k
   rw [show wvZ _ _ _ _=_ from ez,List.length_append,ay]
   rw [List.length_append,lJ] at hk; exact hk⟩
  have et:wvT (out b) c oe b.vt=b.vt:=by unfold wvT; rw [ha]
  rw [show wvT _ _ _ _=_ from et] at this
  exact this
 | none =>
  have ex:∀ p∈c,0<=ent (wvH (out b)) p/\ent (wvH (out b)) p<=65535/\(p≠0->wvH (out b)-p≠0):=λp hp=>by
   have:=xe p hp
   refine⟨?_,?_,nz p hp⟩ <;> (unfold ent; split <;> lia)
  have ho:(aG q2.x q2.h).length=(out b).length+pd 4 (out b).length+4:=by rw [p2.c.e,List.length_append,List.length_append,aC,lJ,Nat.add_assoc]
  have ev:((aG q2.x q2.h).length:Int) % (2:Nat)=0:=by
   have:=@dF 4 (out b).length (by decide)
   rw [ho]; lia
  refine⟨by lia,c.length,gP xl ex c.length (Nat.le_refl _) (q2.up b) 0 true true p2.co ev (by show(aG q2.x q2.h).length+_<=_; lia) (by show 2<=q2.a; rw [p2.a]; lia) λq3 t3 wr3 p3=>?_⟩
  rw [List.take_length] at p3 ⊢
  rw [show dzT true (c.reverse.map (ent (wvH (out b))))=wvD (out b) c from rfl] at p3 ⊢
  have lf:=ey (wvD (out b) c)
  have P3:Pu (out b) b.head _ (mx b.minalign 4) 0 q3:=(p2.trans p3).less rfl p2.a (Int.le_refl _)
  have dv:=@dF 4 (out b).length (by decide)
  have co3:=P3.co
  have lo3:(aG q3.x q3.h).length=_:=congrArg List.length P3.c.e
  simp only [List.length_append,aC,lJ,lf] at lo3
  refine(t_WE (q3.up b) m x c oe (wvH (out b)) (wvH (out b)-oe) (-1) _ (wvK (out b) c oe) t3 wr3 k).mp ?_
  refine⟨⟨co3,by show(aG q3.x q3.h).length<=_; lia,by show(0:Int)<=_; lia,by show _<=(65535:Int); lia⟩,λq4 p4=>⟨by lia,aF (by lia) ?_⟩⟩
  have P4:=P3.snoc2 (by simp only [List.length_append,aC,lJ,lf]; lia) (by lia) p4
  have lo4:(aG q4.x q4.h).length=_:=congrArg List.length P4.c.e
  simp only [List.length_append,aC,lJ,lf,ay] at lo4
  rw [show((c.length:Int)-(0+(c.length-(wvD (out b) c).length))+2)*2=2*(((wvD (out b) c).length:Int)+1)+2 by lia]
  refine⟨⟨P4.co,by show(aG q4.x q4.h).length<=_; lia,by show(0:Int)<=_; lia,by show _<=(65535:Int); lia⟩,λq5 p5=>?_⟩
  have P5:=P4.snoc2 (by simp only [List.length_append,aC,lJ,lf,ay]; lia) (by lia) p5
  have lL:(wvL (out b) c oe).length=(wvD (out b) c).length+2:=by unfold wvL; rw [List.length_append,lK]; rfl
  have eL:(wvL (out b) c oe).flatMap (leR 2)=(wvD (out b) c).flatMap (leR 2)++(leR 2 (wvH (out b)-oe)++leR 2 (2*(((wvD (out b) c).length:Int)+1)+2)):=by
   unfold wvL wvK; rw [List.flatMap_append,List.flatMap_append,List.flatMap_singleton,List.flatMap_singleton,List.append_assoc]
  have P5:Pu (out b) b.head ((zr (pd 4 (out b).length)++J)++(wvL (out b) c oe).flatMap (leR 2)) (mx b.minalign 4) 0 q5:=P5.less (by rw [eL]; simp only [List.append_assoc]) rfl (Int.le_refl _)
  have l5:=P5.len
  rw [List.length_append,List.length_append,aC,lJ,ey] at l5
  have:=P5.c.h2
  have:=P5.c.h1
  have e5:(q5.x.length:Int)-q5.h-wvH (out b)=2*(wvL (out b) c oe).length:=by lia
  dsimp only
  rw [e5]
  refine x02 (Co.over (A:=out b++zr (pd 4 (out b).length)) (J:=J) (R:=(wvL (out b) c oe).flatMap (leR 2)) (y:=le 4 (2*((wvL (out b) c oe).length:Int))) (i:=q5.x.length-wvH (out b)) (by have:=P5.c; simp only [List.append_assoc] at this ⊢; exact this) (by rw [lJ,iK]) (by rw [List.length_append,aC,lJ]; lia)) λc6 l6=>?_
  rw [lJ] at c6 l6
  have l6:(az q5.x (q5.x.length-wvH (out b)) (q5.x.length-wvH (out b)+4) (le 4 (2*((wvL (out b) c oe).length:Int)))).length=q5.x.length:=l6
  rw [l6]
  refine⟨by lia,by lia,⟨by have:=P5.c.h0; lia,by lia,by lia,by show(-2147483648:Int)<=_; lia,by show _ < (2147483648:Int); lia⟩,by lia,⟨ha,by show b.vt.length<=_; lia⟩,?_⟩
  have ez:wvZ (out b) c oe b.vt=zr (pd 4 (out b).length)++(leR 4 (2*(wvL (out b) c oe).length)++(wvL (out b) c oe).flatMap (leR 2)):=by unfold wvZ; rw [ha]
  have:=h ⟨az q5.x (q5.x.length-wvH (out b)) (q5.x.length-wvH (out b)+(4:Nat)) (le 4 (2*(wvL (out b) c oe).length)),q5.h,q5.a⟩ ⟨by
   rw [show wvZ _ _ _ _=_ from ez]
   rw [List.append_assoc] at c6
   exact c6,P5.a,P5.c.h0,by
   have hk:=P5.k
   rw [show wvZ _ _ _ _=_ from ez,List.length_append,List.length_append,ay]
   rw [List.length_append,List.length_append,lJ,Nat.add_assoc] at hk; exact hk⟩
  have et:wvT (out b) c oe b.vt=b.vt++[(wvK (out b) c oe,wvH (out b)+2*(wvL (out b) c oe).length)]:=by unfold wvT; rw [ha]
  rw [show wvT _ _ _ _=_ from et] at this
  rw [show(q5.x.length:Int)-q5.h=wvH (out b)+2*(wvL (out b) c oe).length by lia]
  exact this
noncomputable def O14:Om:=bg 371 (bsp (I0 wvS)) O13
theorem ok14:ΩOk 14 O14:=ok13.addR (sI0 wv_ok)
end
end
section
open PySem PySem.W PyProof.Rows PySem.Calls
section
noncomputable abbrev BXK:=Bx->(AV->Bx->Prop)->Prop
noncomputable def vX0(v:AV):Option Unit:=is0 (vX v)
theorem zN(v:AV)(u:Unit)(h:vX0 v=some u):v=.key (.box 0):=vX_e (zG h)
noncomputable def xsp(f:List AV->BXK):kQ:=λvs w k=>aV vX0 vs λ_1 as=>cx (one w.bx) λx=>f as x λv x'=>k v (some ⟨w.bs,w.mn,[x']⟩)
theorem xsp_e{f:List AV->BXK}{vs:List AV}{w:W}{k:AV->Option W->Prop}(h:xsp f vs w k):∃ bs m x as,vs=.key (.box 0)::as/\w=⟨bs,m,[x]⟩/\f as x λv x'=>k v (some ⟨bs,m,[x']⟩):=by
 refine x22 (aE (c:=λ_1=>.key (.box 0)) zN h) λ_1 as e13_2 h1=>?_
 subst e13_2
 refine x12 (kV h1) λb e h2=>?_
 obtain⟨bs,m,x⟩:=w
 obtain rfl:=one_e e
 exact⟨bs,m,b,as,rfl,rfl,h2⟩
noncomputable def x1(f:Int->BXK)(as:List AV)(x:Bx)(K:AV->Bx->Prop):Prop:=aV vI as λi as=>a0 as (f i x K)
theorem xspK{f:List AV->BXK}{Q:List AV->W->(AV->Option W->Prop)->Prop}(H:∀ bs m x k as,f as x (λv x'=>k v (some ⟨bs,m,[x']⟩))->Q (.key (.box 0)::as) ⟨bs,m,[x]⟩ k)(vs:List AV)(w:W)(k:AV->Option W->Prop)(h:xsp f vs w k):Q vs w k:=by
 refine x43 (xsp_e h) λbs m x as e20_4 e20_5 h1=>?_
 subst e20_4
 subst e20_5
 exact H bs m x k as h1
theorem xI1{Q:List AV->W->(AV->Option W->Prop)->Prop}{f:Int->BXK}(H:∀ i bs m x k,f i x (λv x'=>k v (some ⟨bs,m,[x']⟩))->Q [.key (.box 0),.int i] ⟨bs,m,[x]⟩ k):∀ vs w k,xsp (x1 f) vs w k->Q vs w k :=
 xspK λbs m x k=>aIK (G:=λas=>Q (_::as) _ k) λi=>a0K (G:=λas=>Q (_::_::as) _ k) (H i bs m x k)
theorem Bd(bs:List BS)(mn:Option Mn)(x:Bx)(n:Int)(k:AV->Option W->Prop) :
 ((x.items.length<=16777216)/\cnd (decide (x.pos ≥ (x.items.length:Int))) (k (.int (0:Int)) none) (cS x.items x.pos λv1=>cnd (decide (n≠0)) (k (.int (v1.fmod n)) (some (W.mk bs mn [{ x with pos:=(x.pos+(1:Int)) }]))) False)) =
 ak O14 765 [.key (.box 0),.int n] (W.mk bs mn [x]) k:=by kernel_rfl
structure bj(x:Bx):Prop where
 p:0<=x.pos
 l:x.items.length<=1000
noncomputable abbrev taQ(n:Int)(x:Bx)(f:Int->Bx->Prop):Prop:=(bj x/\0 < n)/\∀ i x',bj x'->0<=i->i < n->f i x'
theorem ta_ok(n:Int)(bs:List BS)(m:Option Mn)(x:Bx)(k:AV->Option W->Prop)(h:taQ n x λi x'=>k (.int i) (some ⟨bs,m,[x']⟩)):ak O14 765 [.key (.box 0),.int n] ⟨bs,m,[x]⟩ (wrK ⟨bs,m,[x]⟩ k):=by
 obtain⟨⟨o,hn⟩,h⟩:=h
 have:=o.p
 have:=o.l
 rw [<- Bd]
 refine⟨by lia,aW (λe=>h 0 x o (Int.le_refl _) hn) λe=>cS.i (by omega) (by lia) (by lia) (aF (by lia) (h _ _ ⟨by show 0<=x.pos+1; lia,o.l⟩ ?_ ?_))⟩
 . rw [Int.fmod_eq_emod_of_nonneg _ (by lia)]; exact Int.emod_nonneg _ (by lia)
 . rw [Int.fmod_eq_emod_of_nonneg _ (by lia)]; exact Int.emod_lt_of_pos _ hn
noncomputable def O15:Om:=addG [758] (bg 765 (xsp (x1 λn x K=>taQ n x λi x'=>K (.int i) x')) O14)
theorem ok15:ΩOk 16 O15:=.addG (ok14.add (xI1 ta_ok))
noncomputable def kdI(i:Int):Option Kd:=if i < 0 then none else((kds.take 9)[i.toNat]?).map (·.2)
noncomputable def RVa(lo hi:Int)(bs:List BS)(mn:Option Mn)(x:Bx)(k:AV->Option W->Prop):Prop :=
 (taQ (18446744073709551616:Int) x λi1 x2=>cnd (decide ((hi+(1:Int))≠0)) (cnd (decide (((hi-lo)+(1:Int))≠0)) (cS [((i1.fdiv (5:Int)).fmod (hi+(1:Int))),lo,hi,(0:Int),(lo+((i1.fdiv (5:Int)).fmod ((hi-lo)+(1:Int))))] (i1.fmod (5:Int)) λv3=>k (.int v3) (some (W.mk bs mn [x2]))) False) False)
theorem Be(bs:List BS)(mn:Option Mn)(x:Bx)(k:AV->Option W->Prop) :
 ((taQ (18446744073709551616:Int) x λi1 x2=>k (.bool (decide ((i1.fmod (2:Int))=(1:Int)))) (some (W.mk bs mn [x2])))) =
 ak O15 772 [.key (.box 0),.int (0:Int)] (W.mk bs mn [x]) k:=by kernel_rfl
theorem Bf:((kds.take 9).zipIdx.drop 1).map (λp bs mn x k=>RVa p.1.2.lo p.1.2.hi bs mn x k)=fy (λp bs mn x k=>ak O15 772 [.key (.box 0),.int p.2] ⟨bs,mn,[x]⟩ k) ((kds.take 9).zipIdx.drop 1):=by kernel_rfl
theorem gv{i:Int}{d:Kd}(h:kdI i=some d):∃ c j:Nat,i=j/\j < 9/\((c,d),j)∈(kds.take 9).zipIdx/\(c,d)∈kds:=by
 unfold kdI at h
 split at h
 . cases h
 . refine x12 (Option.map_eq_some_iff.mp h) λp e1 e2=>?_
   have lt:=(List.getElem?_eq_some_iff.mp e1).1
   have m:=List.mem_of_getElem? e1
   subst e2
   exact⟨p.1,i.toNat,by lia,lt,List.mk_mem_zipIdx_iff_getElem?.mpr e1,List.mem_of_mem_take m⟩
theorem wQ{i:Int}{d:Kd}(h:kdI i=some d):KdA d:=(gv h).elim λc h=>h.elim λj h=>zJ (List.all_eq_true.mp zK _ h.2.2.2)
noncomputable abbrev vbQ(x:Bx)(f:Bool->Bx->Prop):Prop:=bj x/\∀ u x',bj x'->f u x'
noncomputable abbrev viQ(i:Int)(x:Bx)(f:Int->Bx->Prop):Prop:=(bj x/\(kdI i).isSome=true)/\∀ d v x',kdI i=some d->bj x'->d.lo<=v->v<=d.hi->f v x'
noncomputable def vaS(i:Int):BXK:=λx K=>cnd (decide (i=0)) (vbQ x λu=>K (.bool u)) (viQ i x λv=>K (.int v))
theorem kdI_n{i:Int}{d:Kd}(h:kdI i=some d):∃ j:Nat,i=j/\j < 9:=(gv h).elim λ_1 h=>h.imp λj h=>⟨h.1,h.2.1⟩
theorem zO{i:Int}{d:Kd}(h:kdI i=some d):d.lo<=0/\0<=d.hi:=(wQ h).2.2.1
theorem kd_w{i:Int}{d:Kd}(h:kdI i=some d):d.w=1\/d.w=2\/d.w=4\/d.w=8:=(wQ h).1
theorem kds_b:(kds.take 9).zipIdx.all (λp=>p.1.2.bl==decide ((p.2:Int)=0))=true:=by kernel_rfl
theorem zP{i:Int}{d:Kd}(h:kdI i=some d):d.bl=decide (i=0)/\(d.bl=true->d.lo=0/\d.hi=1):=⟨by
 refine x24 (gv h) λc j e73_2 _1 m _2=>?_
 subst e73_2
 exact eq_of_beq (List.all_eq_true.mp kds_b _ m),(wQ h).2.2.2⟩
theorem qX{i:Int}(h0:0<=i)(h9:i < 9):∃ d,kdI i=some d:=by
 have lt:i.toNat < (kds.take 9).length:=by show i.toNat < 9; lia
 exact⟨_,by unfold kdI; rw [if_neg (by lia),List.getElem?_eq_getElem lt]; rfl⟩
theorem va_ok(i:Int)(bs:List BS)(m:Option Mn)(x:Bx)(k:AV->Option W->Prop)(h:vaS i x λv x'=>k v (some ⟨bs,m,[x']⟩)):ak O15 772 [.key (.box 0),.int i] ⟨bs,m,[x]⟩ k:=by
 unfold vaS at h
 by_cases e:i=0
 . rw [decide_eq_true e] at h
   subst e
   rw [<- Be]
   exact⟨⟨h.1,by decide⟩,λi x' o _1 _2=>h.2 _ _ o⟩
 . rw [decide_eq_false e] at h
   obtain⟨⟨o,h1⟩,h2⟩:=h
   refine(Option.isSome_iff_exists.mp h1).elim λd e1=>?_
   refine x24 (gv e1) λc j e88_2 hj hm _1=>?_
   subst e88_2
   have hm:((c,d),j)∈(kds.take 9).zipIdx.drop 1:=(List.mem_cons.mp hm).resolve_left λz=>e (by rw [(Prod.mk.inj z).2]; rfl)
   rw [<- congrFun (congrFun (congrFun (congrFun (bU Bf _ hm) bs) m) x) k]
   refine x02 (zO e1) λd0 d1=>?_
   refine⟨⟨o,by decide⟩,λi x' o' i0 i1=>aF (by lia) (aF (by lia) ?_)⟩
   have m5:=Int.emod_nonneg i (b:=5) (by decide)
   have m6:=Int.emod_lt_of_pos i (b:=5) (by decide)
   rw [Int.fmod_eq_emod_of_nonneg i (by decide:(0:Int)<=5),Int.fmod_eq_emod_of_nonneg _ (show(0:Int)<=d.hi+1 by lia),Int.fmod_eq_emod_of_nonneg _ (show(0:Int)<=d.hi-d.lo+1 by lia)]
   have key:∀ v∈[i.fdiv 5 % (d.hi+1),d.lo,d.hi,0,d.lo+i.fdiv 5 % (d.hi-d.lo+1)],d.lo<=v/\v<=d.hi:=by
    intro v hv
    have a1:=Int.emod_nonneg (i.fdiv 5) (b:=d.hi+1) (by lia)
    have a2:=Int.emod_lt_of_pos (i.fdiv 5) (b:=d.hi+1) (by lia)
    have a3:=Int.emod_nonneg (i.fdiv 5) (b:=d.hi-d.lo+1) (by lia)
    have a4:=Int.emod_lt_of_pos (i.fdiv 5) (b:=d.hi-d.lo+1) (by lia)
    simp only [List.mem_cons,List.not_mem_nil,or_false] at hv
    rcases hv with rfl | rfl | rfl | rfl | rfl <;> lia
   refine cS.i m5 (by show i % 5 < ((5:Nat):Int); omega) (show 5<=16777216 by decide) ?_
   refine(Int.eq_ofNat_of_zero_le m5).elim λn hn=>?_
   have:=key _ (fW (n:=n) (by show n < 5; lia))
   rw [hn]
   exact h2 d _ x' e1 o' this.1 this.2
noncomputable def O16:Om:=bg 772 (xsp (x1 vaS)) O15
theorem ok16:ΩOk 17 O16:=ok15.addR (xI1 va_ok)
end
end
section
open PySem PySem.W PyProof.Rows PySem.Calls
section
noncomputable abbrev MK:=Mn->(AV->Mn->Prop)->Prop
noncomputable def vMn(v:AV):Option Unit:=match ig v with
 | true=>some ()
 | false=>none
theorem zQ(v:AV)(u:Unit)(h:vMn v=some u):v=.key .mine:=by
 unfold vMn at h
 cases e:ig v <;> rw [e] at h
 . cases h
 . exact ii e
noncomputable def msp(f:List AV->MK):kQ:=λvs w k=>aV vMn vs λ_1 as=>cx w.mn λm=>f as m λv m'=>k v (some ⟨w.bs,some m',w.bx⟩)
theorem msp_e{f:List AV->MK}{vs:List AV}{w:W}{k:AV->Option W->Prop}(h:msp f vs w k):∃ bs m bx as,vs=.key .mine::as/\w=⟨bs,some m,bx⟩/\f as m λv m'=>k v (some ⟨bs,some m',bx⟩):=by
 refine x22 (aE (c:=λ_1=>.key .mine) zQ h) λ_1 as e19_2 h1=>?_
 subst e19_2
 refine x12 (kV h1) λm e h2=>?_
 obtain⟨bs,mn,bx⟩:=w
 obtain rfl:mn=some m:=e
 exact⟨bs,m,bx,as,rfl,rfl,h2⟩
noncomputable abbrev zR(a:Int)(m:Mn)(f:Mn->Prop):Prop:=m.rear.length<=16777215/\f { m with rear:=m.rear++[a] }
noncomputable abbrev wR(l:List Int)(m:Mn)(f:Mn->Prop):Prop:=m.rear.length+l.length<=16777216/\f { m with rear:=m.rear++l }
noncomputable def wrO(wr:Bool)(w:W):Option W:=match wr with
 | true=>some w
 | false=>none
noncomputable def m2(f:Int->Int->MK)(as:List AV)(m:Mn)(K:AV->Mn->Prop):Prop:=aV vI as λi as=>aV vI as λj as=>a0 as (f i j m K)
theorem mspK{f:List AV->MK}{Q:List AV->W->(AV->Option W->Prop)->Prop}(H:∀ bs m bx k as,f as m (λv m'=>k v (some ⟨bs,some m',bx⟩))->Q (.key .mine::as) ⟨bs,some m,bx⟩ k)(vs:List AV)(w:W)(k:AV->Option W->Prop)(h:msp f vs w k):Q vs w k:=by
 refine x43 (msp_e h) λbs m bx as e37_4 e37_5 h1=>?_
 subst e37_4
 subst e37_5
 exact H bs m bx k as h1
theorem mI2{Q:List AV->W->(AV->Option W->Prop)->Prop}{f:Int->Int->MK}(H:∀ i j bs m bx k,f i j m (λv m'=>k v (some ⟨bs,some m',bx⟩))->Q [.key .mine,.int i,.int j] ⟨bs,some m,bx⟩ k):∀ vs w k,msp (m2 f) vs w k->Q vs w k :=
 mspK λbs m bx k=>aIK (G:=λas=>Q (_::as) _ k) λi=>aIK (G:=λas=>Q (_::_::as) _ k) λj=>a0K (G:=λas=>Q (_::_::_::as) _ k) (H i j bs m bx k)
noncomputable def LA(s:Int)(n:Int):Loc:=⟨[(S "mine",.v (.key .mine)),(S "width",.v (.int s)),(S "behind",.v (.int n))],scF 800⟩
noncomputable def te:Nat->Loc->EM (Fl×Loc):=dy (ev O16 59) (whT (stI 800 1)) (whB (stI 800 1))
theorem w0_Al(bs:List BS)(m:Mn)(bx:List Bx)(s n:Int)(wr:Bool)(K:Fl×Loc->G->Prop):((m.rear.length<=16777216)/\cnd (decide (s≠0)) (cnd (!decide ((((m.rear.length:Int)+n).fmod s)=(0:Int))) False (K (.nx,(LA s n)) ⟨W.mk bs (some m) bx,wr⟩)) False)=te 0 (LA s n) ⟨W.mk bs (some m) bx,wr⟩ K:=by kernel_rfl
theorem w1_Al(bs:List BS)(m:Mn)(bx:List Bx)(s n:Int)(wr:Bool)(N:Nat)(K:Fl×Loc->G->Prop):((m.rear.length<=16777216)/\cnd (decide (s≠0)) (cnd (!decide ((((m.rear.length:Int)+n).fmod s)=(0:Int))) (zR (0:Int) m λm1=>te N (LA s n) ⟨W.mk bs (some m1) bx,true⟩ K) False) False)=te (N+1) (LA s n) ⟨W.mk bs (some m) bx,wr⟩ K:=by kernel_rfl
theorem t_Al(bs:List BS)(m:Mn)(bx:List Bx)(s n:Int)(k:AV->Option W->Prop) :
 (cnd (decide (s > m.align)) (∃ N,te N (LA s n) ⟨W.mk bs (some ({ m with align:=s })) bx,true⟩ (cZ (ev O16 60) ((aJ 800).drop 2) (eO k))) (∃ N,te N (LA s n) ⟨W.mk bs (some m) bx,false⟩ (cZ (ev O16 60) ((aJ 800).drop 2) (eO k)))) =
 ak O16 800 [.key .mine,.int s,.int n] (W.mk bs (some m) bx) k:=by kernel_rfl
theorem z_Al(bs:List BS)(m:Mn)(bx:List Bx)(s n:Int)(wr:Bool)(k:AV->Option W->Prop) :
 (k .none (wrO wr (W.mk bs (some m) bx))) =
 cZ (ev O16 60) ((aJ 800).drop 2) (eO k) (.nx,(LA s n)) ⟨W.mk bs (some m) bx,wr⟩:=by kernel_rfl
theorem pd_z{s L:Int}(h:1<=s)(e:pd s L=0):L.fmod s=0:=by
 have:=@dF s L h
 rw [Int.fmod_eq_emod_of_nonneg _ (by lia)]
 rw [e] at this; rw [<- this]; congr 1; lia
theorem pd_s{s L:Int}{p:Nat}(h:sz s)(e:pd s L=p+1):L.fmod s≠0/\pd s (L+1)=p:=by
 have hs:=(cy h).1
 have h0:=Int.emod_nonneg (-L) (b:=s) (by lia)
 have h1:=Int.emod_lt_of_pos (-L) (b:=s) (by lia)
 have h2:(-L) % s=p+1:=by unfold pd at e; omega
 refine⟨λz=>?_,?_⟩
 . rw [Int.fmod_eq_emod_of_nonneg _ (by omega)] at z
   have:=Int.emod_eq_zero_of_dvd (Int.dvd_neg.mpr (Int.dvd_of_emod_eq_zero z))
   lia
 . have h3:=Int.emod_add_mul_ediv (-L) s
   have h4:-(L+1)=p+s*((-L) / s):=by rw [h2] at h3; lia
   unfold pd
   rw [h4,Int.add_mul_emod_self_left,Int.emod_eq_of_lt (by lia) (by lia)]
   rfl
theorem gQ{bs:List BS}{bx:List Bx}{s n:Int}{K:Fl×Loc->G->Prop}(hs:sz s):∀ (p:Nat) (o:List UInt8) (m:Mn) (wr:Bool),m.rear=o.map tI->pd s (o.length+n)=p->o.length+p<=1000000->(∀ wr',wr'=true\/wr'=wr/\p=0->K (.nx,LA s n) ⟨⟨bs,some { m with rear:=(o++zr p).map tI },bx⟩,wr'⟩) ->
 te p (LA s n) ⟨⟨bs,some m,bx⟩,wr⟩ K:=by
 intro p
 induction p with
 | zero =>
  intro o m wr hr hp hl k
  have:=k wr (.inr ⟨rfl,rfl⟩)
  rw [show zr 0=[] from rfl,List.append_nil,<- hr] at this
  have z:=pd_z (cy hs).1 hp
  have l:=congrArg List.length hr
  rw [List.length_map] at l
  rw [<- w0_Al,l,z]
  exact⟨by lia,aF (by have:=cy hs; lia) this⟩
 | succ p gQ =>
  intro o m wr hr hp hl k
  refine x02 (pd_s hs hp) λz1 z2=>?_
  have l:=congrArg List.length hr
  rw [List.length_map] at l
  rw [<- w1_Al,l]
  refine⟨by lia,aF (by have:=cy hs; lia) (dk (by rw [decide_eq_false z1]; rfl) ⟨by lia,gQ (o++[0]) _ true ?_ ?_ ?_ λwr' h=>?_⟩)⟩
  . rw [List.map_append,<- hr]; rfl
  . rw [<- z2,List.length_append]; congr 1; show((o.length+1:Nat):Int)+n=_; lia
  . rw [List.length_append]; show o.length+1+p<=_; lia
  . have:=k true (.inl rfl)
    rw [List.append_assoc]
    rcases h with rfl | ⟨rfl,-⟩ <;> exact this
noncomputable abbrev alQ(s n:Int)(m:Mn)(f:Mn->Prop):Prop:=∃ o:List UInt8,(m.rear=o.map tI/\sz s/\o.length<=900000)/\f { m with rear:=(o++zr (pd s (o.length+n))).map tI,align:=mx m.align s }
theorem al_ok(s n:Int)(bs:List BS)(m:Mn)(bx:List Bx)(k:AV->Option W->Prop)(h:alQ s n m λm'=>k .none (some ⟨bs,some m',bx⟩)):ak O16 800 [.key .mine,.int s,.int n] ⟨bs,some m,bx⟩ (wrK ⟨bs,some m,bx⟩ k):=by
 obtain⟨o,⟨hr,hs,hl⟩,h⟩:=h
 have hp:=@bw s (o.length+n) (cy hs).1
 have:=cy hs
 rw [<- t_Al]
 refine aW (λe=>⟨_,gQ hs _ o _ true hr rfl (by lia) λwr' hw=>?_⟩) λe=>⟨_,gQ hs _ o _ false hr rfl (by lia) λwr' hw=>?_⟩
 . rw [<- z_Al]
   rw [show mx m.align s=s from if_pos e] at h
   rcases hw with rfl | ⟨rfl,-⟩ <;> exact h
 . rw [<- z_Al]
   rw [show mx m.align s=m.align from if_neg e] at h
   rcases hw with rfl | ⟨rfl,hz⟩
   . exact h
   . rw [hz,show zr 0=[] from rfl,List.append_nil,<- hr] at h
     exact h
noncomputable def O17:Om:=bg 800 (msp (m2 λs n m K=>alQ s n m (K .none))) O16
theorem ok17:ΩOk 18 O17:=ok16.add (mI2 al_ok)
noncomputable def jS:List Int->Mn->(Mn->Prop)->Prop
 | [],m,f=>f m
 | a::r,m,f=>zR a m λm1=>jS r m1 f
noncomputable def dg(w:Nat)(v:Int):List Int:=(dM (w-1) (-1) w).map λk=>(v.fdiv (256 ^ k.toNat)).fmod 256
theorem Bg:[1,2,4,8].map (λ(w:Nat) (i:Int) bs m bx (k:AV->Option W->Prop)=>(jS (dg w i) m (λm'=>k .none (some ⟨bs,some m',bx⟩)),jS (dg w (bI true)) m (λm'=>k .none (some ⟨bs,some m',bx⟩)),jS (dg w (bI false)) m (λm'=>k .none (some ⟨bs,some m',bx⟩))))=fy (λ(w:Nat) i bs m bx k=>(ak O17 807 [.key .mine,.int w,.int i] ⟨bs,some m,bx⟩ k,ak O17 807 [.key .mine,.int w,.bool true] ⟨bs,some m,bx⟩ k,ak O17 807 [.key .mine,.int w,.bool false] ⟨bs,some m,bx⟩ k)) [1,2,4,8]:=by kernel_rfl
theorem dg_e{w:Nat}{v:Int}(h:w=1\/w=2\/w=4\/w=8):dg w v=(leR w v).map tI:=by
 have e:∀ k:Nat,tI (UInt8.ofNat ((v / 256 ^ k) % 256).toNat)=(v.fdiv (256 ^ k)).fmod 256:=λk=>by
  have h0:(0:Int)<=256 ^ k:=Int.le_of_lt (Int.pow_pos (by decide))
  rw [Int.fmod_eq_emod_of_nonneg _ (by decide),Int.fdiv_eq_ediv_of_nonneg _ h0]
  have:=Int.emod_nonneg (v / 256 ^ k) (b:=256) (by decide)
  have:=Int.emod_lt_of_pos (v / 256 ^ k) (b:=256) (by decide)
  unfold tI
  rw [UInt8.toNat_ofNat_of_lt' (by show _ < 256; lia)]
  lia
 rcases h with rfl | rfl | rfl | rfl <;> (unfold dg leR le; simp only [<- e]; rfl)
theorem qY{bs:List BS}:∀{l z:List UInt8}{m:Mn}{f:Mn->Prop},m.rear=l.map tI->l.length+z.length<=1000000->f { m with rear:=(l++z).map tI }->jS (z.map tI) m f
 | l,[],m,f,h,hl,k=>by rw [List.append_nil,<- h] at k; exact k
 | l,y::z,m,f,h,hl,k=>by
  have hl:l.length+(z.length+1)<=1000000:=hl
  have e:=congrArg List.length h
  rw [List.length_map] at e
  refine⟨by lia,qY (bs:=bs) (l:=l++[y]) (by rw [h,List.map_append]; rfl) (by rw [List.length_append]; show l.length+1+_<=_; lia) (by rw [List.append_assoc]; exact k)⟩
noncomputable abbrev wrQ(w v:Int)(m:Mn)(f:Mn->Prop):Prop:=∃ o:List UInt8,(m.rear=o.map tI/\(w=1\/w=2\/w=4\/w=8)/\o.length<=900000)/\f { m with rear:=(o++leR w.toNat v).map tI }
noncomputable def wrA(as:List AV)(m:Mn)(K:AV->Mn->Prop):Prop:=aV vI as λw as=>aV toI as λv as=>a0 as (wrQ w v m (K .none))
theorem yz{w v:Int}{bs:List BS}{m:Mn}{bx:List Bx}{k:AV->Option W->Prop}{a:AV}(e:toI a=some v)(h:wrQ w v m λm'=>k .none (some ⟨bs,some m',bx⟩)):ak O17 807 [.key .mine,.int w,a] ⟨bs,some m,bx⟩ k:=by
 obtain⟨o,⟨hr,hw,hl⟩,h4⟩:=h
 obtain⟨n,rfl⟩:∃ n:Nat,w=n:=⟨_,(Int.toNat_of_nonneg (by lia)).symm⟩
 have hn:n=1\/n=2\/n=4\/n=8:=by lia
 have T:=λi=>congrFun (congrFun (congrFun (congrFun (congrFun (bU Bg n (by simpa using hn)) i) bs) m) bx) k
 have P:jS (dg n v) m λm'=>k .none (some ⟨bs,some m',bx⟩):=by
  rw [dg_e hn]
  exact qY (bs:=bs) hr (by rw [ay]; lia) h4
 rcases uQ e with rfl | ⟨u,rfl,rfl⟩
 . exact cast (Prod.mk.inj (T v)).1 P
 . cases u
   . exact cast (Prod.mk.inj (Prod.mk.inj (T 0)).2).2 P
   . exact cast (Prod.mk.inj (Prod.mk.inj (T 0)).2).1 P
theorem wr_ok:∀ vs w k,msp wrA vs w k->ak O17 807 vs w k:=mspK λbs m bx k=>aIK λw=>aVK λa v as e=>a0K (G:=λas=>ak O17 807 (_::_::_::as) _ _) (yz e) as
noncomputable def O18:Om:=bg 807 (msp wrA) O17
theorem ok18:ΩOk 19 O18:=ok17.addR wr_ok
end
end
section
open PySem PySem.W PyProof.Rows PySem.Calls
section
theorem t_oc(bs:List BS)(m:Mn)(bx:List Bx)(l:List Int)(z:Int)(k:AV->Option W->Prop) :
 ((l.length<=16777216)/\(alQ (4:Int) ((l.length:Int)+z) m λm1=>(-16777216<=z/\z<=16777216)/\(l.length<=16777216)/\((List.replicate z.toNat ((0:Int):Int)).length+l.reverse.length<=16777216)/\(wR ((List.replicate z.toNat ((0:Int):Int))++l.reverse) m1 λm2=>(l.length<=16777216)/\(wrQ (4:Int) (l.length:Int) m2 λm3=>(m3.rear.length<=16777216)/\k (.int (m3.rear.length:Int)) (some (W.mk bs (some m3) bx)))))) =
 ak O18 814 [.key .mine,.ints l,.int z] (W.mk bs (some m) bx) k:=by kernel_rfl
theorem t_of(bs:List BS)(m:Mn)(bx:List Bx)(pl:Int)(k:AV->Option W->Prop) :
 ((alQ (4:Int) (0:Int) m λm1=>(m1.rear.length<=16777216)/\(wrQ (4:Int) (((m1.rear.length:Int)+(4:Int))-pl) m1 λm2=>k .none (some (W.mk bs (some m2) bx))))) =
 ak O18 826 [.key .mine,.int pl] (W.mk bs (some m) bx) k:=by kernel_rfl
noncomputable abbrev omQ(p:List UInt8)(z:Nat)(m:Mn)(f:Mn->Prop):Prop:=∃ o:List UInt8,(m.rear=o.map tI/\o.length+p.length<=800000/\z<=1)/\f { m with rear:=(o++ocZ o.length p z).map tI,align:=mx m.align 4 }
noncomputable abbrev ofQ(pl:Int)(m:Mn)(f:Mn->Prop):Prop:=∃ o:List UInt8,(m.rear=o.map tI/\o.length<=800000)/\f { m with rear:=(o++uoZ o.length pl).map tI,align:=mx m.align 4 }
theorem sz4:sz 4:=.inr (.inr (.inl rfl))
theorem oc_ok{bs:List BS}{m:Mn}{bx:List Bx}{p:List UInt8}{z:Nat}{k:AV->Option W->Prop}(h:omQ p z m λm'=>k (.int m'.rear.length) (some ⟨bs,some m',bx⟩)):ak O18 814 [.key .mine,.ints (p.map tI),.int z] ⟨bs,some m,bx⟩ k:=by
 obtain⟨o,⟨hr,hl,hz⟩,h⟩:=h
 have hp:=@bw 4 (o.length+(p.length+z)) (by decide)
 have lp:(p.map tI).length=p.length:=List.length_map ..
 have lo:=congrArg List.length hr
 rw [List.length_map] at lo
 rw [<- t_oc,lp]
 refine⟨by lia,o,⟨hr,sz4,by lia⟩,by lia,by lia,by rw [List.length_replicate,List.length_reverse,lp]; lia,⟨?_,?_⟩⟩
 . show((o++zr (pd 4 (o.length+(p.length+z)))).map tI).length+_<=_
   rw [List.length_map,List.length_append,aC,List.length_append,List.length_replicate,List.length_reverse,lp]; lia
 . refine⟨by lia,o++zr (pd 4 (o.length+(p.length+z)))++(zr z++p.reverse),⟨?_,by lia,?_⟩,?_,?_⟩
   . show(o++_).map tI++(List.replicate z 0++(p.map tI).reverse)=_
     rw [List.map_append (f:=tI) (l₂:=zr z++p.reverse),List.map_append (f:=tI) (l₁:=zr z),List.map_reverse]
     congr 2
     unfold zr; rw [List.map_replicate]; rfl
   . rw [List.length_append,List.length_append,List.length_append,aC,aC,List.length_reverse]; lia
   . show(List.map tI _).length<=_
     rw [List.length_map,List.length_append,List.length_append,List.length_append,List.length_append,aC,aC,List.length_reverse,ay]; show _+4<=_; lia
   . rw [show o++zr (pd 4 (o.length+(p.length+z)))++(zr z++p.reverse)++leR ((4:Int).toNat) (p.length:Int)=o++ocZ o.length p z by unfold ocZ; simp only [List.append_assoc]; congr 3]
     exact h
theorem of_ok{bs:List BS}{m:Mn}{bx:List Bx}{pl:Int}{k:AV->Option W->Prop}(h:ofQ pl m λm'=>k .none (some ⟨bs,some m',bx⟩)):ak O18 826 [.key .mine,.int pl] ⟨bs,some m,bx⟩ k:=by
 obtain⟨o,⟨hr,hl⟩,h⟩:=h
 have hp:=@bw 4 o.length (by decide)
 rw [<- t_of]
 refine⟨o,⟨hr,sz4,by lia⟩,?_⟩
 rw [Int.add_zero]
 have l:((o++zr (pd 4 o.length)).map tI).length=o.length+pd 4 o.length:=by rw [List.length_map,List.length_append,aC]
 refine⟨by show(List.map tI _).length<=_; lia,o++zr (pd 4 o.length),⟨rfl,by lia,by rw [List.length_append,aC]; lia⟩,?_⟩
 dsimp only
 rw [l,List.append_assoc]
 exact h
noncomputable def ocMA(as:List AV)(m:Mn)(K:AV->Mn->Prop):Prop:=aV vIs as λl as=>aV vI as λz as=>a0 as (∃ p n,l=p.map tI/\z=((n:Nat):Int)/\omQ p n m λm'=>K (.int m'.rear.length) m')
noncomputable def ofMA(as:List AV)(m:Mn)(K:AV->Mn->Prop):Prop:=aV vI as λpl as=>a0 as (ofQ pl m (K .none))
theorem Bh:∀ vs w k,msp ocMA vs w k->ak O18 814 vs w k:=mspK λbs m bx k=>aEK .ints (λ_1 _2=>lR) λl=>aIK λz=>a0K λh=>h.elim λp h=>h.elim λn h=>by rw [h.1,h.2.1]; exact oc_ok h.2.2
theorem Bj:∀ vs w k,msp ofMA vs w k->ak O18 826 vs w k:=mspK λbs m bx k=>aIK λpl=>a0K λh=>of_ok h
theorem ΩOk.add2{n:Nat}{Ω:Om}(hΩ:ΩOk n Ω){f f':Nat}{sp sp':kQ}(h:∀ vs w k,sp vs w k->ak Ω f vs w k)(h':∀ vs w k,sp' vs w k->ak Ω f' vs w k):ΩOk (n+1) (bg f sp (bg f' sp' Ω)):=hΩ.over λg vs w k e=>by
 unfold bg at e
 cases c:Nat.beq g f <;> rw [c] at e
 . dsimp only at e
   cases c':Nat.beq g f' <;> rw [c'] at e
   . exact .inl e
   . exact .inr (.inl (Nat.eq_of_beq_eq_true c'▸h' vs w k e))
 . exact .inr (.inl (Nat.eq_of_beq_eq_true c▸h vs w k e))
noncomputable def O19:Om:=bg 814 (msp ocMA) (bg 826 (msp ofMA) O18)
theorem ok19:ΩOk 20 O19:=ok18.add2 Bh Bj
noncomputable def LT(t:Str)(l:List Int):Loc:=⟨[(S "box",.v (.key (.box 0))),(S "text",.v (.str t)),(S "octets",.v (.ints l))],scF 779⟩
noncomputable def kY:List AV->Loc->EM (Fl×Loc):=ji (ev O19 59) (S "k") (fiB (stI 779 2))
theorem w0_Tx(bs:List BS)(mn:Option Mn)(x:Bx)(t:Str)(l:List Int)(e:Int)(wr:Bool)(K:Fl×Loc->G->Prop):(K (.nx,(LT t l)) ⟨W.mk bs mn [x],wr⟩)=kY [] (LT t l) ⟨W.mk bs mn [x],wr⟩ K:=by kernel_rfl
theorem w1_Tx(bs:List BS)(mn:Option Mn)(x:Bx)(t:Str)(l:List Int)(e:Int)(wr:Bool)(r:List AV)(K:Fl×Loc->G->Prop):((taQ (4:Int) x λi1 x2=>cnd (decide (i1=((0:Nat):Int))) ((t.length+(S "a").length<=16777216)/\(l.length+[97].length<=16777216)/\kY r (LT (t++(S "a")) (l++[97])) ⟨W.mk bs mn [x2],true⟩ K) (cnd (decide (i1=((1:Nat):Int))) ((t.length+(S "é").length<=16777216)/\(l.length+[195,169].length<=16777216)/\kY r (LT (t++(S "é")) (l++[195,169])) ⟨W.mk bs mn [x2],true⟩ K) (cnd (decide (i1=((2:Nat):Int))) ((t.length+(S "€").length<=16777216)/\(l.length+[226,130,172].length<=16777216)/\kY r (LT (t++(S "€")) (l++[226,130,172])) ⟨W.mk bs mn [x2],true⟩ K) (cnd (decide (i1=((3:Nat):Int))) ((t.length+(S "😀").length<=16777216)/\(l.length+[240,159,152,128].length<=16777216)/\kY r (LT (t++(S "😀")) (l++[240,159,152,128])) ⟨W.mk bs mn [x2],true⟩ K) False)))))=kY (.int e::r) (LT t l) ⟨W.mk bs mn [x],wr⟩ K:=by kernel_rfl
theorem t_Tx(bs:List BS)(mn:Option Mn)(x:Bx)(k:AV->Option W->Prop):((taQ (6:Int) x λi1 x2=>cnd (decide (-1000000<=i1/\i1<=1000000)) (kY ((dM (0:Int) (1:Int) i1.toNat).map .int) (LT (S "") []) ⟨W.mk bs mn [x2],true⟩ (cZ (ev O19 60) ((aJ 779).drop 3) (eO k))) False))=ak O19 779 [.key (.box 0)] (W.mk bs mn [x]) k:=by kernel_rfl
theorem z_Tx(bs:List BS)(mn:Option Mn)(x:Bx)(t:Str)(l:List Int)(wr:Bool)(k:AV->Option W->Prop) :
 (k (.tup [.str t,.ints l]) (wrO wr (W.mk bs mn [x]))) =
 cZ (ev O19 60) ((aJ 779).drop 3) (eO k) (.nx,(LT t l)) ⟨W.mk bs mn [x],wr⟩:=by kernel_rfl
structure Tx(n:Nat)(t:Str)(p:List UInt8):Prop where
 u:cr t=p
 s:∀ c∈t.cps.toList,Str.isSurrogate c=false
 l:p.length<=4*n
 c:t.length<=n
theorem Tx.nil:Tx 0 (S "") []:=⟨by kernel_rfl,λc h=>(by rw [show(S "").cps.toList=[] by kernel_rfl] at h; cases h),Nat.le_refl _,by decide⟩
theorem Tx.app{n m:Nat}{t t':Str}{p p':List UInt8}(h:Tx n t p)(h':Tx m t' p'):Tx (n+m) (t++t') (p++p') where
 u:=by rw [<- h.u,<- h'.u]; unfold cr; rw [Str.cps_append,Array.toList_append,List.flatMap_append]
 s c hc:=by rw [Str.cps_append,Array.toList_append] at hc; exact(List.mem_append.mp hc).elim (h.s c) (h'.s c)
 l:=by have:=h.l; have:=h'.l; rw [List.length_append]; lia
 c:=by
  have a:=h.c; have b:=h'.c
  unfold Str.length at *
  rw [Str.cps_append,Array.size_append]; lia
theorem Tx.one{t:Str}{p:List UInt8}{c:Nat}(hc:Str.isSurrogate c=false)(e:t.cps.toList=[c])(hu:cr t=p)(hl:p.length<=4)(ht:t.length<=1):Tx 1 t p:=⟨hu,λd hd=>by rw [e] at hd; rw [List.mem_singleton.mp hd]; exact hc,hl,ht⟩
theorem sg0:Tx 1 (S "a") [97]:=.one (c:=97) (by decide) (by kernel_rfl) (by kernel_rfl) (by decide) (by decide)
theorem sg1:Tx 1 (S "é") [195,169]:=.one (c:=233) (by decide) (by kernel_rfl) (by kernel_rfl) (by decide) (by decide)
theorem sg2:Tx 1 (S "€") [226,130,172]:=.one (c:=8364) (by decide) (by kernel_rfl) (by kernel_rfl) (by decide) (by decide)
theorem sg3:Tx 1 (S "😀") [240,159,152,128]:=.one (c:=128512) (by decide) (by kernel_rfl) (by kernel_rfl) (by decide) (by decide)
theorem qZ{bs:List BS}{mn:Option Mn}{K:Fl×Loc->G->Prop}:∀ (is:List Int) (n:Nat) (t:Str) (p:List UInt8) (x:Bx),Tx n t p->bj x->n+is.length<=10->(∀ t' p' x',Tx 10 t' p'->bj x'->K (.nx,LT t' (p'.map tI)) ⟨⟨bs,mn,[x']⟩,true⟩)->kY (is.map .int) (LT t (p.map tI)) ⟨⟨bs,mn,[x]⟩,true⟩ K
 | [],n,t,p,x,h,hx,hl,k=>by
  have hl:n<=10:=hl
  rw [List.map_nil,<- w0_Tx (e:=0)]
  exact k t p x ⟨h.u,h.s,by have:=h.l; lia,by have:=h.c; lia⟩ hx
 | e::r,n,t,p,x,h,hx,hl,k=>by
  have hl:n+(r.length+1)<=10:=hl
  rw [List.map_cons,<- w1_Tx]
  refine⟨⟨hx,by decide⟩,λi x2 hx2 i0 i1=>?_⟩
  have go:∀ (s:Str) (q:List UInt8) (y:List Int),y=q.map tI->Tx 1 s q->t.length+s.length<=16777216/\(p.map tI).length+y.length<=16777216/\kY (r.map .int) (LT (t++s) (p.map tI++y)) ⟨⟨bs,mn,[x2]⟩,true⟩ K:=λs q y hy hs=>by
   have:=h.c; have:=h.l; have:=hs.c; have:=hs.l
   have hn:=qZ r (n+1) (t++s) (p++q) x2 (h.app hs) hx2 (by lia) k
   rw [List.map_append,<- hy] at hn
   exact⟨by lia,by rw [hy,List.length_map,List.length_map]; lia,hn⟩
  refine aW (λ_1=>go _ _ _ rfl sg0) λ_1=>aW (λ_1=>go _ _ _ rfl sg1) λ_1=>aW (λ_1=>go _ _ _ rfl sg2) λ_1=>aF (by lia) (go _ _ _ rfl sg3)
noncomputable abbrev txQ(x:Bx)(f:Str->List UInt8->Bx->Prop):Prop:=bj x/\∀ t p x',Tx 10 t p->bj x'->f t p x'
noncomputable def x0(f:BXK)(as:List AV)(x:Bx)(K:AV->Bx->Prop):Prop:=a0 as (f x K)
theorem tx_ok:∀ vs w k,xsp (x0 λx K=>txQ x λt p=>K (.tup [.str t,.ints (p.map tI)])) vs w k->ak O19 779 vs w k:=xspK λbs m x k=>a0K λh=>by
 refine x02 h λo h=>?_
 rw [<- t_Tx]
 refine⟨⟨o,by decide⟩,λi x2 o2 i0 i1=>aF (by lia) ?_⟩
 have rl:∀ (n:Nat) (a:Int),(dM a 1 n).length=n:=λn=>by
  induction n with
  | zero=>exact λ_1=>rfl
  | succ n ih=>exact λa=>congrArg Nat.succ (ih _)
 refine qZ (dM 0 1 i.toNat) 0 (S "") [] x2 .nil o2 (by rw [rl]; lia) λt p x' ht hx=>?_
 rw [<- z_Tx]
 exact h t p x' ht hx
noncomputable def O20:Om:=bg 779 (xsp (x0 λx K=>txQ x λt p=>K (.tup [.str t,.ints (p.map tI)]))) O19
theorem ok20:ΩOk 21 O20:=ok19.addR tx_ok
end
end
section
open PySem PySem.W PyProof.Rows PySem.Calls
section
noncomputable def O21:Om:=addG [364,378,449,606,613,499] O20
noncomputable def O22:Om:=addG [507,515] O21
theorem ok22:ΩOk 23 O22:=.addG (.addG ok20)
theorem t_us(b:BS)(m:Option Mn)(x:List Bx)(c:List Int)(o y d:Int)(k:AV->Option W->Prop) :
 (cnd (!decide (y=d)) (uoQ y ({ b with cv:=some c }) λq1=>cnd (b.nested) ((q1.x.length<=16777216)/\(0<=o/\o < c.length/\c.length<=16777216)/\k .none (some (W.mk [(q1.up ({ b with cv:=some (c.set o.toNat ((q1.x.length:Int)-q1.h)) }))] m x))) False) (cnd (b.force) (uoQ y ({ b with cv:=some c }) λq1=>cnd (b.nested) ((q1.x.length<=16777216)/\(0<=o/\o < c.length/\c.length<=16777216)/\k .none (some (W.mk [(q1.up ({ b with cv:=some (c.set o.toNat ((q1.x.length:Int)-q1.h)) }))] m x))) False) (k .none none))) =
 ak O22 606 [.key (.bld 0),.int o,.int y,.int d] (W.mk [{ b with cv:=some c }] m x) k:=by kernel_rfl
noncomputable def usB(o y d:Int)(b:BS)(f:BS->Prop):Prop:=(Co b.bytes b.head (out b)/\(out b).length<=900000/\0<=y/\y<=(out b).length/\b.nested=true/\0<=o)/\∃ c:List Int,b.cv=some c/\o < c.length/\c.length<=1000/\(y=d->b.force=false->f b) /\
 ((y=d->b.force=true)->∀ q,Pu (out b) b.head (uoZ (out b).length y) (mx b.minalign 4) 0 q->f (q.up { b with cv:=some (c.set o.toNat (q.x.length-q.h)) }))
noncomputable def ssB(o y:Int)(b:BS)(f:BS->Prop):Prop:=(Co b.bytes b.head (out b)/\0 < (out b).length/\y=b.bytes.length-b.head/\b.nested=true/\0<=o)/\∃ c:List Int,b.cv=some c/\o < c.length/\c.length<=1000/\f { b with cv:=some (c.set o.toNat y) }
noncomputable def usA(as:List AV)(b:BS)(K:AV->BS->Prop):Prop:=aV vI as λo as=>aV vI as λy as=>aV vI as λd as=>a0 as (usB o y d b (K .none))
noncomputable def ssA(as:List AV)(b:BS)(K:AV->BS->Prop):Prop:=aV vI as λo as=>aV vI as λy as=>aV vI as λd as=>a0 as (cnd (decide (d=0)) (ssB o y b (K .none)) False)
noncomputable def O32:Om:=bg 606 (bsp usA) O22
theorem t_ss(b:BS)(m:Option Mn)(x:List Bx)(c:List Int)(o y:Int)(k:AV->Option W->Prop) :
 (cnd (!decide (y=(0:Int))) (cnd (decide ((0:Int)<=y)) (cnd (decide (y<=(4294967295:Int))) ((b.bytes.length<=16777216)/\cnd (!decide (y=((b.bytes.length:Int)-b.head))) False (cnd (b.nested) ((b.bytes.length<=16777216)/\(0<=o/\o < c.length/\c.length<=16777216)/\k .none (some (W.mk [{ b with cv:=some (c.set o.toNat ((b.bytes.length:Int)-b.head)) }] m x))) False)) False) False) (k .none none)) =
 ak O32 613 [.key (.bld 0),.int o,.int y,.int (0:Int)] (W.mk [{ b with cv:=some c }] m x) k:=by kernel_rfl
theorem us_ok(o y d:Int)(b:BS)(m:Option Mn)(x:List Bx)(k:AV->Option W->Prop)(h:usB o y d b λb'=>k .none (some ⟨[b'],m,x⟩)):ak O22 606 [.key (.bld 0),.int o,.int y,.int d] ⟨[b],m,x⟩ (wrK ⟨[b],m,x⟩ k):=by
 obtain⟨⟨co,h1,h2,h3,h4,h5⟩,c,hc,h6,h7,h8,h9⟩:=h
 refine(cv_e hc).elim λb e23_1=>?_
 subst e23_1
 rw [<- t_us]
 have go:(y=d->b.force=true)->uoQ y { b with cv:=some c } λq1=>cnd b.nested ((q1.x.length<=16777216)/\(0<=o/\o < c.length/\c.length<=16777216)/\k .none (some ⟨[q1.up { b with cv:=some (c.set o.toNat (q1.x.length-q1.h)) }],m,x⟩)) False:=λe=>⟨⟨co,h1,h2,h3⟩,λq p=>dk h4 ⟨Nat.le_trans p.c.h2 (by decide),⟨h5,h6,by lia⟩,h9 e q p⟩⟩
 refine fV (λe=>go λe'=>?_) λe=>fV (λe'=>go λ_1=>e') λe'=>h8 (by simpa using e) e'
 subst e'; simp at e
theorem ss_ok(o y:Int)(b:BS)(m:Option Mn)(x:List Bx)(k:AV->Option W->Prop)(h:ssB o y b λb'=>k .none (some ⟨[b'],m,x⟩)):ak O32 613 [.key (.bld 0),.int o,.int y,.int 0] ⟨[b],m,x⟩ (wrK ⟨[b],m,x⟩ k):=by
 obtain⟨⟨co,h1,h2,h4,h5⟩,c,hc,h6,h7,h8⟩:=h
 refine(cv_e hc).elim λb e30_1=>?_
 subst e30_1
 have e:=co.len
 have:=co.h2
 have:=co.h0
 have e:(b.bytes.length:Int)-b.head=(out b).length:=e
 have h1:0 < (out b).length:=h1
 have h2:y=b.bytes.length-b.head:=h2
 subst h2
 have:b.bytes.length<=4000000:=co.h2
 have:0<=b.head:=co.h0
 rw [<- t_ss]
 exact dk (by rw [decide_eq_false (by lia)]; rfl) (aF (by lia) (aF (by lia) ⟨by lia,dK (by rw [decide_eq_true rfl]; rfl) (dk h4 ⟨by lia,⟨h5,h6,by lia⟩,h8⟩)⟩))
theorem Bk:∀ vs w k,bsp usA vs w k->ak O22 606 vs w (wrK w k):=fw λb m x k=>aIK λo=>aIK λy=>aIK λd=>a0K (us_ok o y d b m x k)
theorem Bl:∀ vs w k,bsp ssA vs w k->ak O32 613 vs w (wrK w k):=fw λb m x k=>aIK λo=>aIK λy=>aIK λd=>a0K λh=>by
 by_cases e:d=0
 . rw [decide_eq_true e] at h
   rw [e]
   exact ss_ok o y b m x k h
 . rw [decide_eq_false e] at h
   exact h.elim
noncomputable def O33:Om:=bg 613 (bsp ssA) O32
theorem ok33:ΩOk 25 O33:=(ok22.add Bk).add Bl
theorem Bn:(kds.take 9).zipIdx.map (λp (u:Bool) (i:Int) b m x (k:AV->Option W->Prop)=>puQ p.1.2 (nv p.1.2.bl u i) b λq=>k .none (some ⟨[q.up b],m,x⟩))=fy (λp u i b m x k=>ak O33 786 [.key (.bld 0),.int p.2,av p.1.2.bl u i] ⟨[b],m,x⟩ k) (kds.take 9).zipIdx:=by kernel_rfl
theorem ls0:(kds.take 9).zipIdx.map (λp (u:Bool) (i:Int) b m x o (k:AV->Option W->Prop)=>slS p.1.2 o (nv p.1.2.bl u i) none b (λb'=>k .none (some ⟨[b'],m,x⟩)))=fy (λp u i b m x o k=>ak O33 793 [.key (.bld 0),.int p.2,.int o,av p.1.2.bl u i,.none] ⟨[b],m,x⟩ k) (kds.take 9).zipIdx:=by kernel_rfl
theorem ls1:(kds.take 9).zipIdx.map (λp (u:Bool) (i j:Int) b m x o (k:AV->Option W->Prop)=>slS p.1.2 o (nv p.1.2.bl u i) (some j) b (λb'=>k .none (some ⟨[b'],m,x⟩)))=fy (λp u i j b m x o k=>ak O33 793 [.key (.bld 0),.int p.2,.int o,av p.1.2.bl u i,.int j] ⟨[b],m,x⟩ k) (kds.take 9).zipIdx:=by kernel_rfl
theorem ls2:(kds.take 9).zipIdx.map (λp (u:Bool) (i:Int) (j:Bool) b m x o (k:AV->Option W->Prop)=>slS p.1.2 o (nv p.1.2.bl u i) (some (bI j)) b (λb'=>k .none (some ⟨[b'],m,x⟩)))=fy (λp u i j b m x o k=>ak O33 793 [.key (.bld 0),.int p.2,.int o,av p.1.2.bl u i,.bool j] ⟨[b],m,x⟩ k) (kds.take 9).zipIdx:=by kernel_rfl
noncomputable def puA(as:List AV)(b:BS)(K:AV->BS->Prop):Prop:=aV vI as λi as=>aA as λa as=>a0 as (cx (kdI i) λd=>cx (cu d.bl a) λv=>puS d v b K)
noncomputable def slB(i o:Int)(a e:AV)(b:BS)(f:BS->Prop):Prop:=cx (kdI i) λd=>cx (cu d.bl a) λv=>cx (nvO e) λn=>slS d o v n b f
noncomputable def slA(as:List AV)(b:BS)(K:AV->BS->Prop):Prop:=aV vI as λi as=>aV vI as λo as=>aA as λa as=>aA as λe as=>a0 as (slB i o a e b (K .none))
theorem yA:∀ vs w k,bsp puA vs w k->ak O33 786 vs w k:=fw λb m x k=>aIK λi=>aAK λa=>a0K λh=>eP (λd e1 h=>eP (λv e2 h=>(gv e1).elim λc z=>z.elim λj z=>(eu e2).elim λu y=>y.elim λi y=>by
 rw [z.1,y.1]
 rw [y.2] at h
 exact cast (congrFun (congrFun (congrFun (congrFun (congrFun (congrFun (bU Bn _ z.2.2.1) u) i) b) m) x) k) h) h) h
theorem pB{d:Kd}{c j:Nat}(hm:((c,d),j)∈(kds.take 9).zipIdx){o:Int}{e:AV}{n:Option Int}(e3:nvO e=some n)(u:Bool)(i:Int){b:BS}{m:Option Mn}{x:List Bx}{k:AV->Option W->Prop}(h:slS d o (nv d.bl u i) n b λb'=>k .none (some ⟨[b'],m,x⟩)):ak O33 793 [.key (.bld 0),.int j,.int o,av d.bl u i,e] ⟨[b],m,x⟩ k:=by
 rcases zL e3 with ⟨rfl,rfl⟩ | ⟨n,rfl,rfl⟩ | ⟨n,rfl,rfl⟩
 . exact cast (congrFun (congrFun (congrFun (congrFun (congrFun (congrFun (congrFun (bU ls0 _ hm) u) i) b) m) x) o) k) h
 . exact cast (congrFun (congrFun (congrFun (congrFun (congrFun (congrFun (congrFun (congrFun (bU ls1 _ hm) u) i) n) b) m) x) o) k) h
 . exact cast (congrFun (congrFun (congrFun (congrFun (congrFun (congrFun (congrFun (congrFun (bU ls2 _ hm) u) i) n) b) m) x) o) k) h
theorem wS:∀ vs w k,bsp slA vs w k->ak O33 793 vs w k:=fw λb m x k=>aIK λi=>aIK λo=>aAK λa=>aAK λe=>a0K λh=>eP (λd e1 h=>eP (λv e2 h=>eP (λn e3 h=>(gv e1).elim λc z=>z.elim λj z=>(eu e2).elim λu y=>y.elim λi y=>by
 rw [z.1,y.1]
 rw [y.2] at h
 exact pB z.2.2.1 e3 u i h) h) h) h
noncomputable def O23:Om:=bg 786 (bsp puA) (bg 793 (bsp slA) O33)
theorem ok23:ΩOk 26 O23:=ok33.add2 yA wS
end
end
section
open PySem PySem.W PyProof.Rows PySem.Calls
section
noncomputable abbrev LK:=BS->Mn->Bx->(AV->BS->Mn->Bx->Prop)->Prop
noncomputable def lsp(f:List AV->LK):kQ:=λvs w k=>aV vB0 vs λ_1 as=>aV vMn as λ_1 as=>aV vX0 as λ_1 as=>cx (one w.bs) λb=>cx w.mn λm=>cx (one w.bx) λx=>f as b m x λv b' m' x'=>k v (some ⟨[b'],some m',[x']⟩)
theorem tf{f:List AV->LK}{Q:List AV->W->(AV->Option W->Prop)->Prop}(H:∀ b m x k as,f as b m x (λv b' m' x'=>k v (some ⟨[b'],some m',[x']⟩))->Q (.key (.bld 0)::.key .mine::.key (.box 0)::as) ⟨[b],some m,[x]⟩ k)(vs:List AV)(w:W)(k:AV->Option W->Prop)(h:lsp f vs w k):Q vs w k:=by
 refine aEK (G:=λas=>Q as w k) (λ_1=>.key (.bld 0)) zH (λ_1=>aEK (G:=λas=>Q (_::as) w k) (λ_1=>.key .mine) zQ λ_1=>aEK (G:=λas=>Q (_::_::as) w k) (λ_1=>.key (.box 0)) zN λ_1 as=>eP λb e1=>eP λm e2=>eP λx e3 h9=>?_) vs h
 obtain⟨bs,mn,bx⟩:=w
 obtain rfl:=one_e e1
 obtain rfl:mn=some m:=e2
 obtain rfl:=one_e e3
 exact H b m x k as h9
noncomputable def LN0(i:Int):Loc:=⟨[(S "builder",.v (.key (.bld 0))),(S "mine",.v (.key .mine)),(S "box",.v (.key (.box 0))),(S "kind",.v (.int i))],scF 819⟩
noncomputable def LN1(i:Int)(wd:Int):Loc:=⟨[(S "builder",.v (.key (.bld 0))),(S "mine",.v (.key .mine)),(S "box",.v (.key (.box 0))),(S "kind",.v (.int i)),(S "width",.v (.int wd))],scF 819⟩
noncomputable def LN2(i:Int)(wd:Int)(it:AV):Loc:=⟨[(S "builder",.v (.key (.bld 0))),(S "mine",.v (.key .mine)),(S "box",.v (.key (.box 0))),(S "kind",.v (.int i)),(S "width",.v (.int wd)),(S "items",.v it)],scF 819⟩
noncomputable def LN3(i:Int)(wd:Int)(it:AV)(al:Int)(t:Int):Loc:=⟨[(S "builder",.v (.key (.bld 0))),(S "mine",.v (.key .mine)),(S "box",.v (.key (.box 0))),(S "kind",.v (.int i)),(S "width",.v (.int wd)),(S "items",.v it),(S "align",.v (.int al)),(S "told",.v (.int t))],scF 819⟩
theorem r_Nu(b:BS)(m:Mn)(x:Bx)(k:AV->Option W->Prop):kA O23 819 0 k (.nx,⟨[(S "builder",.v (.key (.bld 0))),(S "mine",.v (.key .mine)),(S "box",.v (.key (.box 0)))],scF 819⟩) ⟨W.mk [b] (some m) [x],false⟩=ak O23 819 [.key (.bld 0),.key .mine,.key (.box 0)] (W.mk [b] (some m) [x]) k:=fA (by kernel_rfl)
theorem s_Nu0(b:BS)(m:Mn)(x:Bx)(wr:Bool)(K:Fl×Loc->G->Prop):((taQ (9:Int) x λi1 x2=>K (.nx,(LN0 i1)) ⟨W.mk [b] (some m) [x2],true⟩))=evS (ev O23 60) (((aJ 819).drop 0).take 1) ⟨[(S "builder",.v (.key (.bld 0))),(S "mine",.v (.key .mine)),(S "box",.v (.key (.box 0)))],scF 819⟩ ⟨W.mk [b] (some m) [x],wr⟩ K:=by kernel_rfl
theorem nu1:(kds.take 9).zipIdx.map (λp b m x (wr:Bool) (K:Fl×Loc->G->Prop)=>K (.nx,LN1 p.2 p.1.2.w) ⟨⟨[b],some m,[x]⟩,wr⟩)=fy (λp b m x wr K=>(ev O23 60).s (stI 819 1) (LN0 p.2) ⟨⟨[b],some m,[x]⟩,wr⟩ K) (kds.take 9).zipIdx:=by kernel_rfl
theorem s_Nu1{i:Int}{d:Kd}(h:kdI i=some d)(b m x)(wr:Bool)(K):K (.nx,LN1 i d.w) ⟨⟨[b],some m,[x]⟩,wr⟩=(ev O23 60).s (stI 819 1) (LN0 i) ⟨⟨[b],some m,[x]⟩,wr⟩ K:=by
 refine x24 (gv h) λc j e33_2 _1 hm _2=>?_
 subst e33_2
 exact congrFun (congrFun (congrFun (congrFun (congrFun (bU nu1 _ hm) b) m) x) wr) K
noncomputable def tg:Loc->List Int->EM (List AV):=jx (ev O23 59) (S "k") (cmE (stI 819 2))
noncomputable def jT(i:Int):Loc:=⟨[(S "box",.v (.key (.box 0))),(S "kind",.v (.int i))],cmS (stI 819 2)⟩
theorem c0_Nu(b:BS)(m:Mn)(x:Bx)(i:Int)(wr:Bool)(K:List AV->G->Prop):K [] ⟨W.mk [b] (some m) [x],wr⟩=tg (jT i) [] ⟨W.mk [b] (some m) [x],wr⟩ K:=by kernel_rfl
theorem c1_Nu(b:BS)(m:Mn)(x:Bx)(i:Int)(e:Int)(r:List Int)(wr:Bool)(K:List AV->G->Prop):(cnd (decide (i=(0:Int))) (vbQ x λu1 x2=>tg (jT i) r ⟨W.mk [b] (some m) [x2],true⟩ (λq=>K (.bool u1::q))) (viQ i x λv1 x2=>tg (jT i) r ⟨W.mk [b] (some m) [x2],true⟩ (λq=>K (.int v1::q))))=tg (jT i) (e::r) ⟨W.mk [b] (some m) [x],wr⟩ K:=by kernel_rfl
theorem s_Nu2(b:BS)(m:Mn)(x:Bx)(i wd:Int)(wr:Bool)(K:Fl×Loc->G->Prop):((taQ (6:Int) x λi1 x2=>cnd (decide (-1000000<=i1/\i1<=1000000)) (((dM (0:Int) (1:Int) i1.toNat).length<=1000000)/\tg (jT i) (dM (0:Int) (1:Int) i1.toNat) ⟨W.mk [b] (some m) [x2],true⟩ (λq=>K (.nx,LN2 i wd (bQ q)))) False))=(ev O23 60).s (stI 819 2) (LN1 i wd) ⟨W.mk [b] (some m) [x],wr⟩ K:=by kernel_rfl
noncomputable def RN3(b:BS)(m:Mn)(x:Bx)(i wd:Int)(n:Nat)(it:AV)(wr:Bool)(K:Fl×Loc->G->Prop):Prop:=(taQ (4:Int) x λi1 x2=>(cS [wd,wd,(8:Int),(16:Int)] i1 λv3=>(n<=16777216)/\cnd (b.nested) False (cnd (decide (wd.natAbs < 2 ^ 64)) (bM (4:Int) (wd*(n:Int)) ({ b with nested:=true,vecN:=some (some (n:Int)) }) λq4=>cnd (decide (wd.natAbs < 2 ^ 64)) (bM v3 (wd*(n:Int)) (q4.up ({ b with nested:=true,vecN:=some (some (n:Int)) })) λq5=>(q5.x.length<=16777216)/\(n<=16777216)/\cnd (decide (wd.natAbs < 2 ^ 64)) (alQ (4:Int) (wd*(n:Int)) m λm6=>(n<=16777216)/\cnd (decide (wd.natAbs < 2 ^ 64)) (alQ v3 (wd*(n:Int)) m6 λm7=>(m7.rear.length<=16777216)/\cnd (!decide (((q5.x.length:Int)-q5.h)=(m7.rear.length:Int))) (K (.rt (.none),(LN3 i wd it v3 ((q5.x.length:Int)-q5.h))) ⟨W.mk [(q5.up ({ b with nested:=true,vecN:=some (some (n:Int)) }))] (some m7) [x2],true⟩) (K (.nx,(LN3 i wd it v3 ((q5.x.length:Int)-q5.h))) ⟨W.mk [(q5.up ({ b with nested:=true,vecN:=some (some (n:Int)) }))] (some m7) [x2],true⟩)) False) False) False) False)))
noncomputable def RN9(b:BS)(m:Mn)(x:Bx)(n:Nat)(j:Int)(wr:Bool)(k:AV->Option W->Prop):Prop:=(n<=16777216)/\(wrQ (4:Int) (n:Int) m λm1=>(n<=16777216)/\cnd (decide (((n:Int).fmod (2:Int))=(1:Int))) ((n<=16777216)/\cnd (b.nested) (cnd (decide ((n:Int)≠0)) (cnd (!decide ((n:Int)=j)) False (plQ kU j ({ b with vecN:=some (some j),nested:=false }) λq2=>(q2.x.length<=16777216)/\k (.int ((q2.x.length:Int)-q2.h)) (some (W.mk [(q2.up ({ b with vecN:=some none,nested:=false }))] (some m1) [x])))) (plQ kU j ({ b with vecN:=some (some j),nested:=false }) λq2=>(q2.x.length<=16777216)/\k (.int ((q2.x.length:Int)-q2.h)) (some (W.mk [(q2.up ({ b with vecN:=some none,nested:=false }))] (some m1) [x])))) False) (cnd (b.nested) (plQ kU j ({ b with vecN:=some (some j),nested:=false }) λq2=>(q2.x.length<=16777216)/\k (.int ((q2.x.length:Int)-q2.h)) (some (W.mk [(q2.up ({ b with vecN:=some none,nested:=false }))] (some m1) [x]))) False))
noncomputable def wT:List AV->Loc->EM (Fl×Loc):=ji (ev O23 59) (S "n") (fiB (stI 819 8))
structure NuIt(it:AV)(els:List AV):Prop where
 s3:∀ (b:BS) (m:Mn) (x:Bx) i wd wr K,RN3 b m x i wd els.length it wr K=evS (ev O23 60) (((aJ 819).drop 3).take 5) (LN2 i wd it) ⟨⟨[b],some m,[x]⟩,wr⟩ K
 s8:∀ (b:BS) (m:Mn) (x:Bx) i wd al t wr K,(els.length<=16777216/\wT els.reverse (LN3 i wd it al t) ⟨⟨[b],some m,[x]⟩,wr⟩ K)=(ev O23 60).s (stI 819 8) (LN3 i wd it al t) ⟨⟨[b],some m,[x]⟩,wr⟩ K
 s9:∀ (b:BS) (m:Mn) (x:Bx) i wd al t j wr k,RN9 b m x els.length j wr k=kA O23 819 9 k (.nx,LN3 i wd it al t) ⟨⟨[{ b with vecN:=some (some j) }],some m,[x]⟩,wr⟩
 w0:∀ (b:BS) (m:Mn) (x:Bx) i wd al t wr (K:Fl×Loc->G->Prop),K (.nx,LN3 i wd it al t) ⟨⟨[b],some m,[x]⟩,wr⟩=wT [] (LN3 i wd it al t) ⟨⟨[b],some m,[x]⟩,wr⟩ K
 w1:∀ a∈els,∀ d v i,kdI i=some d->cu d.bl a=some v->∀ (b:BS) (m:Mn) (x:Bx) wd al t wr r K,(cx (kdI i) λd1=>cx (cu d1.bl a) λn2=>puQ d1 n2 b λq3=>alQ wd 0 m λm4=>wrQ wd v m4 λm5=>wT r (LN3 i wd it al t) ⟨⟨[q3.up b],some m5,[x]⟩,true⟩ K)=wT (a::r) (LN3 i wd it al t) ⟨⟨[b],some m,[x]⟩,wr⟩ K
theorem q9(is:List Int):NuIt (.ints is) (is.map .int) where
 s3 b m x i wd wr K:=by rw [List.length_map]; kernel_rfl
 s8 b m x i wd al t wr K:=by rw [List.length_map,<- List.map_reverse]; kernel_rfl
 s9 b m x i wd al t j wr k:=by rw [List.length_map]; kernel_rfl
 w0 b m x i wd al t wr K:=by kernel_rfl
 w1 a ha d v i hi hp b m x wd al t wr r K:=by
  refine x12 (List.mem_map.mp ha) λu _1 e62_2=>?_
  subst e62_2
  cases hb:d.bl with
  | true=>rw [hb] at hp; cases hp
  | false=>rw [hb] at hp; cases hp; kernel_rfl
theorem yB(us:List Bool):NuIt (.list (us.map .bool)) (us.map .bool) where
 s3 b m x i wd wr K:=by kernel_rfl
 s8 b m x i wd al t wr K:=by kernel_rfl
 s9 b m x i wd al t j wr k:=by kernel_rfl
 w0 b m x i wd al t wr K:=by kernel_rfl
 w1 a ha d v i hi hp b m x wd al t wr r K:=by
  refine x12 (List.mem_map.mp ha) λu _1 e72_2=>?_
  subst e72_2
  cases hb:d.bl with
  | true=>rw [hb] at hp; cases hp; kernel_rfl
  | false=>rw [hb] at hp; cases hp
end
end
section
open PySem PySem.W PyProof.Rows PySem.Calls
section
structure Rb(b:BS)(m:Mn):Prop where
 co:Co b.bytes b.head (out b)
 rear:m.rear=(out b).map tI
 al:m.align=b.minalign
 as:sz b.minalign
noncomputable def Mn.lay(m:Mn)(o z:List UInt8)(a:Int):Mn:={ m with rear:=(o++z).map tI,align:=a }
theorem Rb.lay{b b':BS}{m:Mn}(r:Rb b m){z:List UInt8}{a r':Int}{q:Bm}(p:Pu (out b) b.head z a r' q)(ha:sz a):Rb (q.up b') (m.lay (out b) z a):=⟨p.co,by show _=(aG q.x q.h).map tI; rw [p.c.e]; rfl,p.a.symm,by rw [show(q.up b').minalign=a from p.a]; exact ha⟩
theorem Rb.same{b:BS}{m:Mn}(r:Rb b m):m.lay (out b) [] b.minalign=m:=by
 unfold Mn.lay; rw [List.append_nil,<- r.rear,<- r.al]
theorem Pu.out{o z:List UInt8}{h a r:Int}{q:Bm}(p:Pu o h z a r q):aG q.x q.h=o++z:=p.c.e
theorem Mn.lay2{m:Mn}{o z y:List UInt8}{a a':Int}:(m.lay o z a).lay (o++z) y a'=m.lay o (z++y) a':=by unfold Mn.lay; rw [List.append_assoc]
theorem fX{a s:Int}(h:sz a)(h':sz s):sz (mx a s):=by unfold mx; split <;> assumption
theorem Rb.alQ{b:BS}{m:Mn}(r:Rb b m){s n:Int}{f:Mn->Prop}(hs:sz s)(hl:(Internal.out b).length<=900000)(h:f (m.lay (Internal.out b) (zr (pd s ((Internal.out b).length+n))) (mx b.minalign s))):alQ s n m f:=⟨Internal.out b,⟨r.rear,hs,hl⟩,by rw [r.al]; exact h⟩
theorem rc{o:List UInt8}{m:Mn}{w:Nat}{v a:Int}{f:Mn->Prop}(hr:m.rear=o.map tI)(ha:m.align=a)(hw:w=1\/w=2\/w=4\/w=8)(hl:o.length<=800000)(h:f (m.lay o (zr (pd w o.length)++leR w v) (mx a w))):Internal.alQ w 0 m λm4=>wrQ w v m4 f:=by
 have hp:=@bw w o.length (by lia)
 have hh:=cy (sZ hw)
 refine⟨o,⟨hr,sZ hw,by lia⟩,o++zr (pd w (o.length+0)),⟨rfl,by lia,by rw [List.length_append,aC,Int.add_zero]; lia⟩,?_⟩
 rw [ha,Int.add_zero,List.append_assoc,Int.toNat_natCast]
 exact h
noncomputable def El(d:Kd)(a:AV):Prop:=∃ v,cu d.bl a=some v/\d.lo<=v/\v<=d.hi
theorem kZ{it:AV}{els0:List AV}(I:NuIt it els0){i:Int}{d:Kd}(hd:kdI i=some d){al t:Int}{x:Bx}{K:Fl×Loc->G->Prop}:∀ (els:List AV),(∀ a∈els,a∈els0/\El d a)->∀ (b:BS) (m:Mn) (wr:Bool),Rb b m->((out b).length:Int) % d.w=0->d.w<=b.minalign->(out b).length+d.w*els.length<=400000->4+(d.w:Int)*els.length<=b.head ->
 (∀ z q wr',Pu (out b) b.head z b.minalign 4 q->z.length=d.w*els.length->K (.nx,LN3 i d.w it al t) ⟨⟨[q.up b],some (m.lay (out b) z b.minalign),[x]⟩,wr'⟩)->wT els (LN3 i d.w it al t) ⟨⟨[b],some m,[x]⟩,wr⟩ K:=by
 intro els
 induction els with
 | nil =>
  intro _ b m wr r e ha hl hh k
  rw [<- I.w0]
  have:=k [] ⟨b.bytes,b.head,b.minalign⟩ wr ⟨(Pu.nil r.co).c,rfl,by show 4<=b.head; simpa using hh,(Pu.nil r.co).k⟩ rfl
  rw [r.same] at this
  exact this
 | cons a els kZ =>
  intro ho b m wr r e ha hl hh k
  obtain⟨h0,v,h1,h2,h3⟩:=ho a (.head _)
  have hw:=kd_w hd
  have eq:(d.w:Int)*((a::els).length:Nat)=d.w+d.w*els.length:=by rw [List.length_cons]; push_cast; rw [Int.mul_add,Int.mul_one]; lia
  have eq2:d.w*(a::els).length=d.w+d.w*els.length:=by rw [List.length_cons,Nat.mul_add]; lia
  have hp:(0:Int)<=d.w*els.length:=Int.mul_nonneg (by lia) (by lia)
  rw [eq] at hh
  rw [eq2] at hl k
  rw [<- I.w1 a h0 d v i hd h1,hd,show cx (some d) _=cx (cu d.bl a) _ from rfl,h1]
  refine⟨⟨r.co,by lia,h2,h3⟩,λq p=>rc r.rear r.al hw (by lia) ?_⟩
  have p:=p.al e ha
  rw [tc e,show zr 0=[] from rfl,List.nil_append,iY ha]
  have ho1:out (q.up b)=out b++leR d.w v:=p.out
  have lo:(out (q.up b)).length=(out b).length+d.w:=by rw [ho1,List.length_append,ay]
  have ap:(q.up b).minalign=b.minalign:=p.a
  have hq:b.head-d.w<=q.h:=by have:=p.k; rw [ay] at this; exact this
  refine kZ (λa ha=>ho a (.tail _ ha)) (q.up b) _ true (r.lay p r.as) (by rw [lo,Int.natCast_add,Int.add_emod_right]; exact e) (by rw [ap]; exact ha) (by lia) (by show _<=q.h; lia) λz q' wr' p' hz=>?_
  have:=k (leR d.w v++z) q' wr' ((p.trans p').less rfl p.a (Int.le_refl _)) (by rw [List.length_append,ay,hz])
  rw [ho1,ap,Mn.lay2]
  exact this
theorem gR{i:Int}{d:Kd}(hd:kdI i=some d){b:BS}{m:Mn}:∀ (r:List Int) (x:Bx) (K:List AV->G->Prop),bj x->(∀ q x',q.length=r.length->(∀ a∈q,El d a)->(i=0/\(∃ us:List Bool,q=us.map .bool)\/¬ i=0/\∃ is:List Int,q=is.map .int)->bj x'->K q ⟨⟨[b],some m,[x']⟩,true⟩)->tg (jT i) r ⟨⟨[b],some m,[x]⟩,true⟩ K:=by
 intro r
 induction r with
 | nil =>
  intro x K hx k
  rw [<- c0_Nu]
  refine k [] x rfl nofun ?_ hx
  by_cases e:i=0
  . exact .inl ⟨e,[],rfl⟩
  . exact .inr ⟨e,[],rfl⟩
 | cons e r gR =>
  intro x K hx k
  rw [<- c1_Nu]
  refine x02 (zP hd) λe1 e2=>?_
  refine aW (λh0=>⟨hx,λu x2 h2=>?_⟩) λh0=>⟨⟨hx,by rw [hd]; rfl⟩,λd' v x2 hd' h2 l1 l2=>?_⟩
  . rw [decide_eq_true h0] at e1
    refine x02 (e2 e1) λe3 e4=>?_
    refine gR x2 _ h2 λq x' hl ha hs hx'=>k _ x' (congrArg Nat.succ hl) (λa h=>?_) (.inl ⟨h0,?_⟩) hx'
    . rcases List.mem_cons.mp h with rfl | h
      . exact⟨bI u,by rw [e1]; rfl,by rw [e3]; cases u <;> decide,by rw [e4]; cases u <;> decide⟩
      . exact ha a h
    . rcases hs with ⟨-,us,rfl⟩ | ⟨h,-⟩
      . exact⟨u::us,rfl⟩
      . exact(h h0).elim
  . rw [decide_eq_false h0] at e1
    obtain rfl:d=d':=Option.some.inj (hd.symm.trans hd')
    refine gR x2 _ h2 λq x' hl ha hs hx'=>k _ x' (congrArg Nat.succ hl) (λa h=>?_) (.inr ⟨h0,?_⟩) hx'
    . rcases List.mem_cons.mp h with rfl | h
      . exact⟨v,by rw [e1]; rfl,l1,l2⟩
      . exact ha a h
    . rcases hs with ⟨h,-⟩ | ⟨-,is,rfl⟩
      . exact(h0 h).elim
      . exact⟨v::is,rfl⟩
theorem iZ:∀ xs:List Int,cJ (xs.map .int)=some xs
 | []=>rfl
 | x::r=>by show(cJ (r.map .int)).map (x::·)=_; rw [iZ r]; rfl
theorem eA(xs:List Int):bQ (xs.map .int)=.ints xs:=by unfold bQ; rw [iZ]
theorem nu_it{q:List AV}(h:(∃ us:List Bool,q=us.map .bool)\/∃ is:List Int,q=is.map .int):NuIt (bQ q) q:=by
 rcases h with ⟨us,rfl⟩ | ⟨is,rfl⟩
 . cases us with
   | nil=>exact q9 []
   | cons u us=>exact yB (u::us)
 . rw [eA]; exact q9 is
theorem cR:∀ (n:Nat) (a c:Int),(dM a c n).length=n
 | 0,_1,_2=>rfl
 | n+1,a,c=>congrArg Nat.succ (cR n _ _)
noncomputable abbrev luP(b:BS)(m:Mn)(x:Bx):Prop:=Rb b m/\bj x/\b.nested=false/\(out b).length<=300000
noncomputable abbrev luQ(b:BS)(m:Mn)(x:Bx)(f:List UInt8->Int->Bm->Bx->Prop):Prop:=luP b m x/\∀ z a q x',Pu (out b) b.head z a 0 q->sz a->z.length<=300->bj x'->f z a q x'
noncomputable def luB(b:BS)(m:Mn)(x:Bx)(F:Int->BS->Mn->Bx->Prop):Prop:=luQ b m x λz a q x'=>F ((out b).length+z.length) (q.up { b with nested:=false,vecN:=some none }) (m.lay (out b) z a) x'
noncomputable def luS:LK:=λb m x K=>luB b m x λv=>K (.int v)
theorem nu_ok(b:BS)(m:Mn)(x:Bx)(k:AV->Option W->Prop)(h:luS b m x λv b' m' x'=>k v (some ⟨[b'],some m',[x']⟩)):ak O23 819 [.key (.bld 0),.key .mine,.key (.box 0)] ⟨[b],some m,[x]⟩ k:=by
 obtain⟨⟨r,hx,hn,hl⟩,h⟩:=h
 rw [<- r_Nu]
 refine kA.seg 1 (s_Nu0 ..▸⟨⟨hx,by decide⟩,λi x1 hx1 i0 i9=>?_⟩)
 refine(qX i0 i9).elim λd hd=>?_
 refine x12 (kdI_n hd) λj e111_1 hj=>?_
 subst e111_1
 have hw:=kd_w hd
 refine kA.st (by kernel_rfl) (s_Nu1 hd b m x1 true _▸kA.st (by kernel_rfl) (s_Nu2 ..▸⟨⟨hx1,by decide⟩,λn x2 hx2 n0 n6=>aF (by lia) ⟨by rw [cR]; lia,gR hd _ x2 _ hx2 λels x3 hls hel hty hx3=>?_⟩⟩))
 rw [cR] at hls
 have I:=nu_it (q:=els) (hty.imp And.right And.right)
 generalize bQ els=it at I
 refine kA.seg 5 ((I.s3 ..)▸⟨⟨hx3,by decide⟩,λia x4 hx4 a0 a4=>cS.i a0 (by show ia < ((4:Nat):Int); exact a4) (show 4<=16777216 by decide) ?_⟩)
 have hal:sz (bc [(d.w:Int),d.w,8,16] ia)/\(d.w:Int) ∣ bc [(d.w:Int),d.w,8,16] ia:=by
  have key:∀ v∈[(d.w:Int),d.w,8,16],sz v/\(d.w:Int) ∣ v:=by
   intro v hv
   simp only [List.mem_cons,List.not_mem_nil,or_false] at hv
   rcases hv with rfl | rfl | rfl | rfl
   . exact⟨sZ hw,Int.dvd_refl _⟩
   . exact⟨sZ hw,Int.dvd_refl _⟩
   . exact⟨.inr (.inr (.inr (.inl rfl))),by rcases hw with h | h | h | h <;> rw [h] <;> decide⟩
   . exact⟨.inr (.inr (.inr (.inr rfl))),by rcases hw with h | h | h | h <;> rw [h] <;> decide⟩
  refine(Int.eq_ofNat_of_zero_le a0).elim λn e127_1=>?_
  subst e127_1
  exact key _ (fW (n:=n) (by show n < 4; lia))
 generalize bc [(d.w:Int),d.w,8,16] ia=al at hal
 refine x02 hal λhs hdv=>?_
 have hs1:=cy hs
 have hw8:d.w<=8:=by lia
 have hN:(0:Int)<=d.w*els.length/\(d.w:Int)*els.length<=48/\(d.w:Int) ∣ d.w*els.length:=⟨Int.mul_nonneg (by lia) (by lia),by rcases hw with h | h | h | h <;> rw [h] <;> lia,Int.dvd_mul_right _ _⟩
 have hN2:((d.w*els.length:Nat):Int)=d.w*els.length:=by push_cast; rfl
 generalize hNe:(d.w:Int)*els.length=N at hN hN2
 refine x03 hN λN0 N48 Ndv=>?_
 have a4:4<=mx b.minalign 4:=by unfold mx; split <;> lia
 have hd4:=@bw 4 ((out b).length+N) (by decide)
 refine⟨by lia,dK hn (aF (by lia) ⟨⟨r.co,sz4,N0,by show((out b).length:Int)+N<=_; lia⟩,λq4 p4=>aF (by lia) ?_⟩)⟩
 have p4:Pu (out b) b.head (zr (pd 4 ((out b).length+N))) (mx b.minalign 4) (4+N) q4:=p4
 generalize hz1:zr (pd 4 ((out b).length+N))=z1 at p4
 have lz1:z1.length=pd 4 ((out b).length+N):=by rw [<- hz1,aC]
 have lo4:(aG q4.x q4.h).length=(out b).length+z1.length:=by rw [p4.out,List.length_append]
 have hda:=@bw al ((aG q4.x q4.h).length+N) hs1.1
 refine⟨⟨p4.co,hs,N0,by show((aG q4.x q4.h).length:Int)+N<=_; lia⟩,λq5 p5=>?_⟩
 have p5:Pu (aG q4.x q4.h) q4.h (zr (pd al ((aG q4.x q4.h).length+N))) (mx q4.a al) (al+N) q5:=p5
 have h4:=p4.r
 have dv4:=@dF 4 ((out b).length+N) (by decide)
 have dva:=@dF al ((aG q4.x q4.h).length+N) hs1.1
 have room:4+N<=q5.h:=by
  have:=p5.r
  have hk:=p5.k
  rw [aC] at hk
  by_cases h:4<=al
  . lia
  . have:pd al ((aG q4.x q4.h).length+N)=0:=tc (by rcases hs with rfl | rfl | rfl | rfl | rfl <;> lia)
    lia
 have P5:=p4.trans p5
 rw [p4.a] at P5
 generalize hz2:zr (pd al ((aG q4.x q4.h).length+N))=z2 at P5
 have lz2:z2.length=pd al ((aG q4.x q4.h).length+N):=by rw [<- hz2,aC]
 have l5:=P5.len
 rw [List.length_append] at l5
 have c5:=P5.c.h2
 have sA:sz (mx (mx b.minalign 4) al):=fX (fX r.as sz4) hs
 refine⟨by omega,by lia,aF (by lia) (r.alQ sz4 (by lia) ⟨by lia,aF (by lia) ⟨out b++z1,⟨by rw [hz1]; rfl,hs,by rw [List.length_append]; lia⟩,?_⟩⟩)⟩
 have em:({ m.lay (out b) (zr (pd 4 ((out b).length+N))) (mx b.minalign 4) with rear:=(out b++z1++zr (pd al ((out b++z1).length+N))).map tI,align:=mx (m.lay (out b) (zr (pd 4 ((out b).length+N))) (mx b.minalign 4)).align al }:Mn)=m.lay (out b) (z1++z2) (mx (mx b.minalign 4) al):=by
  unfold Mn.lay; rw [List.append_assoc,<- p4.out,hz2]
 rw [em]
 have lr:(m.lay (out b) (z1++z2) (mx (mx b.minalign 4) al)).rear.length=(out b).length+(z1.length+z2.length):=by
  show(List.map tI _).length=_; rw [List.length_map,List.length_append,List.length_append]
 dsimp only
 rw [lr]
 refine⟨by lia,dK (by rw [decide_eq_true (by lia)]; rfl) ?_⟩
 obtain⟨b5,hb5⟩:∃ b5:BS,b5=q5.up { b with nested:=true,vecN:=some (some (els.length:Int)) }:=⟨_,rfl⟩
 have ob5:out b5=out b++(z1++z2):=by rw [hb5]; exact P5.out
 have hb5h:b5.head=q5.h:=by rw [hb5]; rfl
 have hb5a:b5.minalign=mx (mx b.minalign 4) al:=by rw [hb5]; exact P5.a
 have r5:Rb b5 (m.lay (out b) (z1++z2) (mx (mx b.minalign 4) al)):=by rw [hb5]; exact r.lay P5 sA
 have lo5:(out b5).length=(out b).length+(z1.length+z2.length):=by rw [ob5,List.length_append,List.length_append]
 rw [<- hb5]
 have ew:((out b5).length:Int) % d.w=0:=by
  have h1:(d.w:Int) ∣ ((aG q4.x q4.h).length+N)+pd al ((aG q4.x q4.h).length+N):=Int.dvd_trans hdv (Int.dvd_of_emod_eq_zero dva)
  have h2:=Int.dvd_sub h1 Ndv
  rw [show((aG q4.x q4.h).length:Int)+N+pd al ((aG q4.x q4.h).length+N)-N=(out b5).length by lia] at h2
  exact Int.emod_eq_zero_of_dvd h2
 have wa:(d.w:Int)<=b5.minalign:=by
  have h1:=Int.le_of_dvd (by lia) hdv
  rw [hb5a]; unfold mx; split <;> lia
 refine kA.st (by kernel_rfl) (I.s8 ..▸⟨by lia,kZ I hd els.reverse (λa ha=>⟨List.mem_reverse.mp ha,hel a (List.mem_reverse.mp ha)⟩) b5 _ true r5 ew wa (by rw [List.length_reverse]; lia) (by rw [List.length_reverse,hNe,hb5h]; exact room) λz6 q6 wr6 p6 lz6=>?_⟩)
 rw [List.length_reverse] at lz6
 rw [ob5,Mn.lay2,hb5a]
 have e6:q6.up b5={ q6.up b5 with vecN:=some (some (els.length:Int)) }:=by
  rw [show q6.up b5={ q6.up b5 with vecN:=b5.vecN } from rfl,show b5.vecN=some (some (els.length:Int)) by rw [hb5]; rfl]
 rw [e6]
 refine(I.s9 (q6.up b5) _ x4 j d.w al _ (els.length:Int) wr6 k).mp ?_
 have n6:(q6.up b5).nested=true:=by rw [show(q6.up b5).nested=b5.nested from rfl,hb5]; rfl
 have P6:=P5.trans (by rw [hb5] at p6; exact p6)
 have P6:Pu (out b) b.head (z1++z2++z6) (mx (mx b.minalign 4) al) 4 q6:=P6.less rfl P5.a (Int.le_refl _)
 have lz:(z1++z2++z6).length=z1.length+z2.length+d.w*els.length:=by rw [List.length_append,List.length_append,lz6]
 have fin:∀ m',m'=m.lay (out b) (z1++z2++z6++leR 4 els.length) (mx (mx b.minalign 4) al)->plQ kU els.length { q6.up b5 with vecN:=some (some (els.length:Int)),nested:=false } λq2=>q2.x.length<=16777216/\k (.int (q2.x.length-q2.h)) (some ⟨[q2.up { q6.up b5 with vecN:=some none,nested:=false }],some m',[x4]⟩):=λm' hm=>by
  refine⟨⟨P6.co,by have:=P6.r; show((4:Nat):Int)<=q6.h; omega,Int.natCast_nonneg _,by show _<=(4294967295:Int); lia⟩,λq7 p7=>⟨Nat.le_trans p7.c.h2 (by decide),?_⟩⟩
  have P7:=P6.trans p7
  have P7:Pu (out b) b.head (z1++z2++z6++leR 4 els.length) (mx (mx b.minalign 4) al) 0 q7:=P7.less rfl P6.a (by have:=P6.r; show(0:Int)<=q6.h-((4:Nat):Int); lia)
  have:=h _ _ q7 x4 P7 sA (by rw [List.length_append,ay,lz]; lia) hx4
  rw [P7.len,hm]
  rw [hb5]
  exact this
 refine⟨by lia,out b++(z1++z2++z6),⟨rfl,by lia,by rw [List.length_append,lz]; lia⟩,by lia,fV (λe=>⟨by lia,dk n6 (fV (λe=>dK (by rw [decide_eq_true rfl]; rfl) (fin _ ?_)) λe=>fin _ ?_)⟩) λe=>dk n6 (fin _ ?_)⟩ <;> (unfold Mn.lay; rw [List.append_assoc (out b)]; rfl)
noncomputable def nuA(as:List AV):LK:=λb m x K=>a0 as (luS b m x K)
theorem Bo:∀ vs w k,lsp nuA vs w k->ak O23 819 vs w k:=tf λb m x k=>a0K (nu_ok b m x k)
noncomputable def O24:Om:=bg 819 (lsp nuA) O23
theorem ok24:ΩOk 27 O24:=ok23.addR Bo
end
end
section
open PySem PySem.W PyProof.Rows PySem.Calls
section
noncomputable def LO1(is:List Int):Loc:=⟨[(S "builder",.v (.key (.bld 0))),(S "mine",.v (.key .mine)),(S "box",.v (.key (.box 0))),(S "items",.v (.ints is))],scF 831⟩
noncomputable def LO2(is:List Int)(t:Int):Loc:=⟨[(S "builder",.v (.key (.bld 0))),(S "mine",.v (.key .mine)),(S "box",.v (.key (.box 0))),(S "items",.v (.ints is)),(S "told",.v (.int t))],scF 831⟩
theorem r_Of(b:BS)(m:Mn)(x:Bx)(k:AV->Option W->Prop):kA O24 831 0 k (.nx,⟨[(S "builder",.v (.key (.bld 0))),(S "mine",.v (.key .mine)),(S "box",.v (.key (.box 0)))],scF 831⟩) ⟨W.mk [b] (some m) [x],false⟩=ak O24 831 [.key (.bld 0),.key .mine,.key (.box 0)] (W.mk [b] (some m) [x]) k:=fA (by kernel_rfl)
theorem s_Of0(b:BS)(m:Mn)(x:Bx)(wr:Bool)(K:Fl×Loc->G->Prop):(K (.nx,(LO1 [])) ⟨W.mk [b] (some m) [x],wr⟩)=evS (ev O24 60) (((aJ 831).drop 0).take 1) ⟨[(S "builder",.v (.key (.bld 0))),(S "mine",.v (.key .mine)),(S "box",.v (.key (.box 0)))],scF 831⟩ ⟨W.mk [b] (some m) [x],wr⟩ K:=by kernel_rfl
noncomputable def wU:Loc->List Int->EM (List AV):=jx (ev O24 58) (S "k") (cmE ((ifA (stI 831 1)).getD 0 default))
noncomputable def nM  : Loc:=⟨[(S "box",.v (.key (.box 0))),(S "mine",.v (.key .mine))],cmS ((ifA (stI 831 1)).getD 0 default)⟩
theorem c0_Of(b:BS)(m:Mn)(x:Bx)(wr:Bool)(K:List AV->G->Prop):K [] ⟨W.mk [b] (some m) [x],wr⟩=wU nM [] ⟨W.mk [b] (some m) [x],wr⟩ K:=by kernel_rfl
theorem c1_Of(b:BS)(m:Mn)(x:Bx)(e:Int)(r:List Int)(wr:Bool)(K:List AV->G->Prop):((m.made.length<=16777216)/\(taQ (m.made.length:Int) x λi1 x2=>(cS m.made i1 λv3=>wU nM r ⟨W.mk [b] (some m) [x2],true⟩ (λq=>K (.int v3::q)))))=wU nM (e::r) ⟨W.mk [b] (some m) [x],wr⟩ K:=by kernel_rfl
theorem s_Of1(b:BS)(m:Mn)(x:Bx)(wr:Bool)(K:Fl×Loc->G->Prop):(cnd (!decide (m.made=[])) (taQ (5:Int) x λi1 x2=>cnd (decide (-1000000<=i1/\i1<=1000000)) (((dM (0:Int) (1:Int) i1.toNat).length<=1000000)/\wU nM (dM (0:Int) (1:Int) i1.toNat) ⟨W.mk [b] (some m) [x2],true⟩ (λq=>K (.nx,⟨[(S "builder",.v (.key (.bld 0))),(S "mine",.v (.key .mine)),(S "box",.v (.key (.box 0))),(S "items",.v (bQ q))],scF 831⟩))) False) (K (.nx,(LO1 [])) ⟨W.mk [b] (some m) [x],wr⟩))=(ev O24 60).s (stI 831 1) (LO1 []) ⟨W.mk [b] (some m) [x],wr⟩ K:=by kernel_rfl
theorem s_Of2(b:BS)(m:Mn)(x:Bx)(is:List Int)(wr:Bool)(K:Fl×Loc->G->Prop):((is.length<=16777216)/\cnd (b.nested) False (bM (4:Int) ((4:Int)*(is.length:Int)) ({ b with nested:=true,vecN:=some (some (is.length:Int)) }) λq1=>(bM (4:Int) ((4:Int)*(is.length:Int)) (q1.up ({ b with nested:=true,vecN:=some (some (is.length:Int)) })) λq2=>(q2.x.length<=16777216)/\(is.length<=16777216)/\(alQ (4:Int) ((4:Int)*(is.length:Int)) m λm3=>(m3.rear.length<=16777216)/\cnd (!decide (((q2.x.length:Int)-q2.h)=(m3.rear.length:Int))) (K (.rt (.none),(LO2 is ((q2.x.length:Int)-q2.h))) ⟨W.mk [(q2.up ({ b with nested:=true,vecN:=some (some (is.length:Int)) }))] (some m3) [x],true⟩) (K (.nx,(LO2 is ((q2.x.length:Int)-q2.h))) ⟨W.mk [(q2.up ({ b with nested:=true,vecN:=some (some (is.length:Int)) }))] (some m3) [x],true⟩)))))=evS (ev O24 60) (((aJ 831).drop 2).take 3) (LO1 is) ⟨W.mk [b] (some m) [x],wr⟩ K:=by kernel_rfl
noncomputable def wV:List AV->Loc->EM (Fl×Loc):=ji (ev O24 59) (S "place") (fiB (stI 831 5))
theorem w0_Of(b:BS)(m:Mn)(x:Bx)(is:List Int)(t v:Int)(wr:Bool)(K:Fl×Loc->G->Prop):(K (.nx,(LO2 is t)) ⟨W.mk [b] (some m) [x],wr⟩)=wV [] (LO2 is t) ⟨W.mk [b] (some m) [x],wr⟩ K:=by kernel_rfl
theorem w1_Of(b:BS)(m:Mn)(x:Bx)(is:List Int)(t v:Int)(wr:Bool)(r:List AV)(K:Fl×Loc->G->Prop):((uoQ v b λq1=>(ofQ v m λm2=>wV r (LO2 is t) ⟨W.mk [(q1.up b)] (some m2) [x],true⟩ K)))=wV (.int v::r) (LO2 is t) ⟨W.mk [b] (some m) [x],wr⟩ K:=by kernel_rfl
theorem s_Of5(b:BS)(m:Mn)(x:Bx)(is:List Int)(t:Int)(wr:Bool)(K:Fl×Loc->G->Prop):((is.length<=16777216)/\wV (is.reverse.map .int) (LO2 is t) ⟨W.mk [b] (some m) [x],wr⟩ K)=(ev O24 60).s (stI 831 5) (LO2 is t) ⟨W.mk [b] (some m) [x],wr⟩ K:=by kernel_rfl
theorem z_Of6(b:BS)(m:Mn)(x:Bx)(is:List Int)(t j:Int)(wr:Bool)(k:AV->Option W->Prop):((is.length<=16777216)/\(wrQ (4:Int) (is.length:Int) m λm1=>cnd (b.nested) (plQ kU j ({ b with vecN:=some (some j),nested:=false }) λq2=>(q2.x.length<=16777216)/\k (.int ((q2.x.length:Int)-q2.h)) (some (W.mk [(q2.up ({ b with vecN:=some none,nested:=false }))] (some m1) [x]))) False))=kA O24 831 6 k (.nx,(LO2 is t)) ⟨W.mk [{ b with vecN:=some (some j) }] (some m) [x],wr⟩:=by kernel_rfl
end
end
section
open PySem PySem.W PyProof.Rows PySem.Calls
section
theorem gS{L:Nat}{o:Int}:(uoZ L o).length=pd 4 L+4:=by unfold uoZ; rw [List.length_append,aC,ay]
theorem Rb.ofQ{b:BS}{m:Mn}(r:Rb b m){v:Int}{f:Mn->Prop}(hl:(Internal.out b).length<=800000)(h:f (m.lay (Internal.out b) (uoZ (Internal.out b).length v) (mx b.minalign 4))):Internal.ofQ v m f:=⟨Internal.out b,⟨r.rear,hl⟩,by rw [r.al]; exact h⟩
theorem lc{is0:List Int}{t:Int}{x:Bx}{K:Fl×Loc->G->Prop}:∀ (is:List Int) (b:BS) (m:Mn) (wr:Bool),(∀ v∈is,0<=v/\v<=(out b).length)->Rb b m->((out b).length:Int) % 4=0->4<=b.minalign->(out b).length+4*is.length<=400000->4+4*(is.length:Int)<=b.head ->
 (∀ z q wr',Pu (out b) b.head z b.minalign 4 q->z.length=4*is.length->K (.nx,LO2 is0 t) ⟨⟨[q.up b],some (m.lay (out b) z b.minalign),[x]⟩,wr'⟩)->wV (is.map .int) (LO2 is0 t) ⟨⟨[b],some m,[x]⟩,wr⟩ K:=by
 intro is
 induction is with
 | nil =>
  intro b m wr hv r e ha hl hh k
  rw [List.map_nil,<- w0_Of (v:=0)]
  have:=k [] ⟨b.bytes,b.head,b.minalign⟩ wr ⟨(Pu.nil r.co).c,rfl,by show 4<=b.head; simpa using hh,(Pu.nil r.co).k⟩ rfl
  rw [r.same] at this
  exact this
 | cons v is lc =>
  intro b m wr hv r e ha hl hh k
  have hh:4+4*((is.length+1:Nat):Int)<=b.head:=hh
  have hl:(out b).length+4*(is.length+1)<=400000:=hl
  refine x02 (hv v (.head _)) λv0 v1=>?_
  rw [List.map_cons,<- w1_Of]
  refine⟨⟨r.co,by lia,v0,v1⟩,λq p=>r.ofQ (by lia) ?_⟩
  rw [iY ha] at p ⊢
  have lz:(uoZ (out b).length v).length=4:=by rw [gS,tc e]
  have ho1:out (q.up b)=out b++uoZ (out b).length v:=p.out
  have lo:(out (q.up b)).length=(out b).length+4:=by rw [ho1,List.length_append,lz]
  have ap:(q.up b).minalign=b.minalign:=p.a
  have hq:b.head-4<=q.h:=by have:=p.k; rw [lz] at this; exact this
  refine lc (q.up b) _ true (λy hy=>by have:=hv y (.tail _ hy); lia) (r.lay p r.as) (by lia) (by rw [ap]; exact ha) (by lia) (by show _<=q.h; lia) λz q' wr' p' hz=>?_
  have:=k (uoZ (out b).length v++z) q' wr' ((p.trans p').less rfl p.a (Int.le_refl _)) (by rw [List.length_append,lz,hz,List.length_cons]; lia)
  rw [ho1,ap,Mn.lay2]
  exact this
theorem re{xs:List Int}{i:Int}(h0:0<=i)(h:i < xs.length):bc xs i∈xs:=by
 refine(Int.eq_ofNat_of_zero_le h0).elim λn e34_1=>?_
 subst e34_1
 exact fW (by lia)
theorem lg{b:BS}{m:Mn}(hm:m.made.length<=1000)(hn:m.made≠[]):∀ (r:List Int) (x:Bx) (K:List AV->G->Prop),bj x->(∀ (is:List Int) x',is.length=r.length->(∀ v∈is,v∈m.made)->bj x'->K (is.map .int) ⟨⟨[b],some m,[x']⟩,true⟩)->wU nM r ⟨⟨[b],some m,[x]⟩,true⟩ K:=by
 intro r
 induction r with
 | nil =>
  intro x K hx k
  exact by rw [<- c0_Of]; exact k [] x rfl nofun hx
 | cons e r lg =>
  intro x K hx k
  have hp:=List.length_pos_iff.mpr hn
  rw [<- c1_Of]
  refine⟨by lia,⟨hx,by lia⟩,λi x2 h2 i0 i1=>cS.i i0 i1 (by lia) (lg x2 _ h2 λis x' hl hi hx'=>k (_::is) x' (congrArg Nat.succ hl) (λv hv=>?_) hx')⟩
  rcases List.mem_cons.mp hv with rfl | hv
  . exact re i0 i1
  . exact hi v hv
noncomputable abbrev tj(b:BS)(m:Mn):Prop:=m.made.length<=1000/\∀ v∈m.made,0<=v/\v<=(out b).length
theorem Bp(b:BS)(m:Mn)(x:Bx)(k:AV->Option W->Prop)(md:tj b m)(h:luS b m x λv b' m' x'=>k v (some ⟨[b'],some m',[x']⟩)):ak O24 831 [.key (.bld 0),.key .mine,.key (.box 0)] ⟨[b],some m,[x]⟩ k:=by
 obtain⟨⟨r,hx,hn,hl⟩,h⟩:=h
 rw [<- r_Of]
 refine kA.seg 1 (s_Of0 ..▸kA.st (by kernel_rfl) (s_Of1 ..▸?_))
 have key:∀ (is:List Int) (x4:Bx) (wr:Bool),is.length<=5->(∀ v∈is,v∈m.made)->bj x4->kA O24 831 2 k (.nx,LO1 is) ⟨⟨[b],some m,[x4]⟩,wr⟩:=λis x4 wr n5 hi hx4=>by
  have hd4:=@bw 4 ((out b).length+4*(is.length:Int)) (by decide)
  have dv4:=@dF 4 ((out b).length+4*(is.length:Int)) (by decide)
  have a4:4<=mx b.minalign 4:=by unfold mx; split <;> lia
  refine kA.seg 3 (s_Of2 ..▸⟨by lia,dK hn ⟨⟨r.co,sz4,by lia,by show((out b).length:Int)+_<=_; lia⟩,λq4 p4=>?_⟩⟩)
  have p4:Pu (out b) b.head (zr (pd 4 ((out b).length+4*(is.length:Int)))) (mx b.minalign 4) (4+4*(is.length:Int)) q4:=p4
  generalize hz1:zr (pd 4 ((out b).length+4*(is.length:Int)))=z1 at p4
  have lz1:z1.length=pd 4 ((out b).length+4*(is.length:Int)):=by rw [<- hz1,aC]
  have lo4:(aG q4.x q4.h).length=(out b).length+z1.length:=by rw [p4.out,List.length_append]
  have z0:∀ L:Nat,L=(out b).length+z1.length->pd 4 (L+4*(is.length:Int))=0:=λL hL=>tc (by lia)
  refine⟨⟨p4.co,sz4,by lia,by show((aG q4.x q4.h).length:Int)+_<=_; lia⟩,λq5 p5=>?_⟩
  have p5:Pu (aG q4.x q4.h) q4.h (zr (pd 4 ((aG q4.x q4.h).length+4*(is.length:Int)))) (mx q4.a 4) (4+4*(is.length:Int)) q5:=p5
  rw [z0 _ lo4] at p5
  have P5:=(p4.trans p5).less (z':=z1) (List.append_nil _) (a':=mx b.minalign 4) (by rw [p4.a]; exact iY a4) (Int.le_refl _)
  have l5:=P5.len
  have c5:=P5.c.h2
  have sA:sz (mx b.minalign 4):=fX r.as sz4
  refine⟨by lia,by lia,r.alQ sz4 (by lia) ⟨?_,?_⟩⟩
  . show(List.map tI _).length<=_; rw [List.length_map,List.length_append,hz1]; lia
  rw [hz1]
  have lr:(m.lay (out b) z1 (mx b.minalign 4)).rear.length=(out b).length+z1.length:=by
   show(List.map tI _).length=_; rw [List.length_map,List.length_append]
  rw [lr]
  refine dK (by rw [decide_eq_true (by lia)]; rfl) ?_
  obtain⟨b5,hb5⟩:∃ b5:BS,b5=q5.up { b with nested:=true,vecN:=some (some (is.length:Int)) }:=⟨_,rfl⟩
  have ob5:out b5=out b++z1:=by rw [hb5]; exact P5.out
  have hb5a:b5.minalign=mx b.minalign 4:=by rw [hb5]; exact P5.a
  have r5:Rb b5 (m.lay (out b) z1 (mx b.minalign 4)):=by rw [hb5]; exact r.lay P5 sA
  have lo5:(out b5).length=(out b).length+z1.length:=by rw [ob5,List.length_append]
  refine kA.st (by kernel_rfl) (s_Of5 ..▸⟨by lia,?_⟩)
  have room:=P5.r
  rw [show q5.up { b with nested:=true,vecN:=some (some (is.length:Int)) }=b5 from hb5.symm]
  refine lc is.reverse b5 _ true (λv hv=>by have:=md.2 v (hi v (List.mem_reverse.mp hv)); lia) r5 (by lia) (by rw [hb5a]; exact a4) (by rw [List.length_reverse]; lia) (by rw [List.length_reverse,show b5.head=q5.h by rw [hb5]; rfl]; exact room) λz6 q6 wr6 p6 lz6=>?_
  rw [List.length_reverse] at lz6
  rw [ob5,Mn.lay2,hb5a]
  have e6:q6.up b5={ q6.up b5 with vecN:=some (some (is.length:Int)) }:=by
   rw [show q6.up b5={ q6.up b5 with vecN:=b5.vecN } from rfl,show b5.vecN=some (some (is.length:Int)) by rw [hb5]; rfl]
  rw [e6]
  refine(z_Of6 (q6.up b5) _ x4 is _ (is.length:Int) wr6 k).mp ?_
  have n6:(q6.up b5).nested=true:=by rw [show(q6.up b5).nested=b5.nested from rfl,hb5]; rfl
  have P6:=P5.trans (by rw [hb5] at p6; exact p6)
  have P6:Pu (out b) b.head (z1++z6) (mx b.minalign 4) 4 q6:=P6.less rfl P5.a (Int.le_refl _)
  have lz:(z1++z6).length=z1.length+4*is.length:=by rw [List.length_append,lz6]
  refine⟨by lia,out b++(z1++z6),⟨rfl,by lia,by rw [List.length_append,lz]; lia⟩,dk n6 ⟨⟨P6.co,by have:=P6.r; show((4:Nat):Int)<=q6.h; omega,Int.natCast_nonneg _,by show _<=(4294967295:Int); lia⟩,λq7 p7=>⟨Nat.le_trans p7.c.h2 (by decide),?_⟩⟩⟩
  have P7:=P6.trans p7
  have P7:Pu (out b) b.head (z1++z6++leR 4 is.length) (mx b.minalign 4) 0 q7:=P7.less rfl P6.a (by have:=P6.r; show(0:Int)<=q6.h-((4:Nat):Int); lia)
  have:=h _ _ q7 x4 P7 sA (by rw [List.length_append,ay,lz]; lia) hx4
  rw [P7.len,show({ m.lay (out b) (z1++z6) (mx b.minalign 4) with rear:=(out b++(z1++z6)++leR (4:Int).toNat is.length).map tI }:Mn)=m.lay (out b) (z1++z6++leR 4 is.length) (mx b.minalign 4) by unfold Mn.lay; rw [List.append_assoc (out b)]; rfl]
  rw [hb5]
  exact this
 refine fV (λe=>⟨⟨hx,by decide⟩,λn x2 hx2 n0 n5=>aF (by lia) ⟨by rw [cR]; lia,lg md.1 (by simpa using e) _ x2 _ hx2 λis x3 hls hi hx3=>?_⟩⟩) λe=>key [] x false (by decide) nofun hx
 rw [cR] at hls
 rw [eA]
 exact key is x3 true (by lia) hi hx3
noncomputable def ofB(b:BS)(m:Mn)(x:Bx)(F:Int->BS->Mn->Bx->Prop):Prop:=tj b m/\luB b m x F
noncomputable def ofA(as:List AV):LK:=λb m x K=>a0 as (ofB b m x λv=>K (.int v))
theorem Bq:∀ vs w k,lsp ofA vs w k->ak O24 831 vs w k:=tf λb m x k=>a0K λh=>Bp b m x k h.1 h.2
noncomputable def O25:Om:=bg 831 (lsp ofA) O24
theorem ok25:ΩOk 28 O25:=ok24.addR Bq
end
end
section
open PySem PySem.W PyProof.Rows PySem.Calls
section
theorem r_Fi(b:BS)(m:Mn)(x:Bx)(s:Int)(k:AV->Option W->Prop):kA O25 838 0 k (.nx,⟨[(S "builder",.v (.key (.bld 0))),(S "mine",.v (.key .mine)),(S "box",.v (.key (.box 0))),(S "slot",.v (.int s))],scF 838⟩) ⟨W.mk [b] (some m) [x],false⟩=ak O25 838 [.key (.bld 0),.key .mine,.key (.box 0),.int s] (W.mk [b] (some m) [x]) k:=fA (by kernel_rfl)
noncomputable def LF1(s:Int)(h:Int):Loc:=⟨[(S "builder",.v (.key (.bld 0))),(S "mine",.v (.key .mine)),(S "box",.v (.key (.box 0))),(S "slot",.v (.int s)),(S "what",.v (.int h))],scF 838⟩
noncomputable def LFa(s:Int)(h:Int)(u:Int)(v:Int):Loc:=⟨[(S "builder",.v (.key (.bld 0))),(S "mine",.v (.key .mine)),(S "box",.v (.key (.box 0))),(S "slot",.v (.int s)),(S "what",.v (.int h)),(S "a",.v (.int u)),(S "b",.v (.int v))],scF 838⟩
noncomputable def LFb(s:Int)(h:Int)(u:Int)(v:Int):Loc:=⟨[(S "builder",.v (.key (.bld 0))),(S "mine",.v (.key .mine)),(S "box",.v (.key (.box 0))),(S "slot",.v (.int s)),(S "what",.v (.int h)),(S "place",.v (.int u)),(S "without",.v (.int v))],scF 838⟩
theorem s_Fi0(b:BS)(m:Mn)(x:Bx)(s:Int)(wr:Bool)(K:Fl×Loc->G->Prop):((taQ (6:Int) x λi1 x2=>K (.nx,(LF1 s i1)) ⟨W.mk [b] (some m) [x2],true⟩))=evS (ev O25 60) (((aJ 838).drop 0).take 1) ⟨[(S "builder",.v (.key (.bld 0))),(S "mine",.v (.key .mine)),(S "box",.v (.key (.box 0))),(S "slot",.v (.int s))],scF 838⟩ ⟨W.mk [b] (some m) [x],wr⟩ K:=by kernel_rfl
theorem s_Fi1(b:BS)(m:Mn)(x:Bx)(s:Int)(h:Int)(wr:Bool)(K:Fl×Loc->G->Prop):(cnd (decide (h=(5:Int))) (viQ (7:Int) x λv1 x2=>(viQ (2:Int) x2 λv3 x4=>(bM (4:Int) (8:Int) b λq5=>(-1048576<=(2:Int)/\(2:Int)<=1048576)/\(0<=(q5.h-(2:Int))/\(q5.h-(2:Int))<=q5.h/\q5.h<=q5.x.length/\q5.x.length<=16777216/\((List.replicate (2:Int).toNat (0:UInt8)).length:Int)=q5.h-(q5.h-(2:Int)))/\(puQ ⟨2,false,false,(0),(65535)⟩ v3 ({ b with bytes:=(az q5.x (q5.h-(2:Int)) q5.h (List.replicate (2:Int).toNat (0:UInt8))),head:=(q5.h-(2:Int)),minalign:=q5.a }) λq6=>(puQ ⟨4,true,false,(-2147483648),(2147483647)⟩ v1 (q6.up b) λq7=>(q7.x.length<=16777216)/\(ssB s ((q7.x.length:Int)-q7.h) (q7.up b) λb8=>(alQ (4:Int) (8:Int) m λm9=>(wR [(0:Int),(0:Int)] m9 λm10=>(wrQ (2:Int) v3 m10 λm11=>(wrQ (4:Int) v1 m11 λm12=>K (.rt (.bool true),(LFa s h v1 v3)) ⟨W.mk [b8] (some m12) [x4],true⟩)))))))))) (K (.nx,(LF1 s h)) ⟨W.mk [b] (some m) [x],wr⟩))=evS (ev O25 60) (((aJ 838).drop 1).take 1) (LF1 s h) ⟨W.mk [b] (some m) [x],wr⟩ K:=by kernel_rfl
theorem s_Fi2(b:BS)(m:Mn)(x:Bx)(s:Int)(h:Int)(wr:Bool)(K:Fl×Loc->G->Prop):(cnd (decide (h > (2:Int))) (cnd (!decide (m.made=[])) ((m.made.length<=16777216)/\(taQ (m.made.length:Int) x λi1 x2=>(cS m.made i1 λv3=>(taQ (3:Int) x2 λi4 x5=>(cS [(0:Int),(0:Int),v3] i4 λv6=>(usB s v3 v6 b λb7=>cnd (decide (v3=v6)) (cnd (m.forced) (ofQ v3 m λm8=>K (.rt (.bool true),(LFb s h v3 v6)) ⟨W.mk [b7] (some m8) [x5],true⟩) (K (.rt (.bool false),(LFb s h v3 v6)) ⟨W.mk [b7] (some m) [x5],true⟩)) (ofQ v3 m λm8=>K (.rt (.bool true),(LFb s h v3 v6)) ⟨W.mk [b7] (some m8) [x5],true⟩))))))) (K (.nx,(LF1 s h)) ⟨W.mk [b] (some m) [x],wr⟩)) (K (.nx,(LF1 s h)) ⟨W.mk [b] (some m) [x],wr⟩))=evS (ev O25 60) (((aJ 838).drop 2).take 1) (LF1 s h) ⟨W.mk [b] (some m) [x],wr⟩ K:=by kernel_rfl
noncomputable def LFi(s:Int)(h:Int)(i:Int)(u:Int)(a:AV):Loc:=⟨[(S "builder",.v (.key (.bld 0))),(S "mine",.v (.key .mine)),(S "box",.v (.key (.box 0))),(S "slot",.v (.int s)),(S "what",.v (.int h)),(S "kind",.v (.int i)),(S "n",.v (.int u)),(S "without",.v a)],scF 838⟩
noncomputable def LFu(s:Int)(h:Int)(i:Int)(u:Bool)(a:AV):Loc:=⟨[(S "builder",.v (.key (.bld 0))),(S "mine",.v (.key .mine)),(S "box",.v (.key (.box 0))),(S "slot",.v (.int s)),(S "what",.v (.int h)),(S "kind",.v (.int i)),(S "n",.v (.bool u)),(S "without",.v a)],scF 838⟩
theorem s_Fi3(b:BS)(m:Mn)(x:Bx)(s:Int)(h:Int)(wr:Bool)(K:Fl×Loc->G->Prop):((taQ (9:Int) x λi1 x2=>cnd (decide (i1=(0:Int))) (vbQ x2 λu3 x4=>(taQ (3:Int) x4 λi5 x6=>cnd (decide (i5=((0:Nat):Int))) (slB i1 s (.bool u3) (.bool u3) b λb7=>cnd (decide ((match u3 with | true=>1 | false=>0:Int)=(match u3 with | true=>1 | false=>0:Int))) (cnd (m.forced) (K (.nx,(LFu s h i1 u3 (.bool u3))) ⟨W.mk [b7] (some m) [x6],true⟩) (K (.rt (.bool false),(LFu s h i1 u3 (.bool u3))) ⟨W.mk [b7] (some m) [x6],true⟩)) (K (.nx,(LFu s h i1 u3 (.bool u3))) ⟨W.mk [b7] (some m) [x6],true⟩)) (cnd (decide (i5=((1:Nat):Int))) (slB i1 s (.bool u3) (.int (0:Int)) b λb7=>cnd (decide ((match u3 with | true=>1 | false=>0:Int)=(0:Int))) (cnd (m.forced) (K (.nx,(LFu s h i1 u3 (.int (0:Int)))) ⟨W.mk [b7] (some m) [x6],true⟩) (K (.rt (.bool false),(LFu s h i1 u3 (.int (0:Int)))) ⟨W.mk [b7] (some m) [x6],true⟩)) (K (.nx,(LFu s h i1 u3 (.int (0:Int)))) ⟨W.mk [b7] (some m) [x6],true⟩)) (cnd (decide (i5=((2:Nat):Int))) (slB i1 s (.bool u3) .none b λb7=>K (.nx,(LFu s h i1 u3 .none)) ⟨W.mk [b7] (some m) [x6],true⟩) False)))) (viQ i1 x2 λv3 x4=>(taQ (3:Int) x4 λi5 x6=>cnd (decide (i5=((0:Nat):Int))) (slB i1 s (.int v3) (.int v3) b λb7=>cnd (decide (v3=v3)) (cnd (m.forced) (K (.nx,(LFi s h i1 v3 (.int v3))) ⟨W.mk [b7] (some m) [x6],true⟩) (K (.rt (.bool false),(LFi s h i1 v3 (.int v3))) ⟨W.mk [b7] (some m) [x6],true⟩)) (K (.nx,(LFi s h i1 v3 (.int v3))) ⟨W.mk [b7] (some m) [x6],true⟩)) (cnd (decide (i5=((1:Nat):Int))) (slB i1 s (.int v3) (.int (0:Int)) b λb7=>cnd (decide (v3=(0:Int))) (cnd (m.forced) (K (.nx,(LFi s h i1 v3 (.int (0:Int)))) ⟨W.mk [b7] (some m) [x6],true⟩) (K (.rt (.bool false),(LFi s h i1 v3 (.int (0:Int)))) ⟨W.mk [b7] (some m) [x6],true⟩)) (K (.nx,(LFi s h i1 v3 (.int (0:Int)))) ⟨W.mk [b7] (some m) [x6],true⟩)) (cnd (decide (i5=((2:Nat):Int))) (slB i1 s (.int v3) .none b λb7=>K (.nx,(LFi s h i1 v3 .none)) ⟨W.mk [b7] (some m) [x6],true⟩) False))))))=evS (ev O25 60) (((aJ 838).drop 3).take 5) (LF1 s h) ⟨W.mk [b] (some m) [x],wr⟩ K:=by kernel_rfl
theorem fi8:(kds.take 9).zipIdx.map (λp (v:Int) (u:Bool) (s h i:Int) (y:Bool) b m x (wr:Bool) (k:AV->Option W->Prop)=>[(alQ p.1.2.w 0 m λm1=>wrQ p.1.2.w v m1 λm2=>k (.bool true) (some ⟨[b],some m2,[x]⟩)),(alQ p.1.2.w 0 m λm1=>wrQ p.1.2.w v m1 λm2=>k (.bool true) (some ⟨[b],some m2,[x]⟩)),(alQ p.1.2.w 0 m λm1=>wrQ p.1.2.w v m1 λm2=>k (.bool true) (some ⟨[b],some m2,[x]⟩)),(alQ p.1.2.w 0 m λm1=>wrQ p.1.2.w (bI u) m1 λm2=>k (.bool true) (some ⟨[b],some m2,[x]⟩)),(alQ p.1.2.w 0 m λm1=>wrQ p.1.2.w (bI u) m1 λm2=>k (.bool true) (some ⟨[b],some m2,[x]⟩)),(alQ p.1.2.w 0 m λm1=>wrQ p.1.2.w (bI u) m1 λm2=>k (.bool true) (some ⟨[b],some m2,[x]⟩))])=fy (λp v u s h i y b m x wr k=>[kA O25 838 8 k (.nx,LFi s h p.2 v .none) ⟨⟨[b],some m,[x]⟩,wr⟩,kA O25 838 8 k (.nx,LFi s h p.2 v (.int i)) ⟨⟨[b],some m,[x]⟩,wr⟩,kA O25 838 8 k (.nx,LFi s h p.2 v (.bool y)) ⟨⟨[b],some m,[x]⟩,wr⟩,kA O25 838 8 k (.nx,LFu s h p.2 u .none) ⟨⟨[b],some m,[x]⟩,wr⟩,kA O25 838 8 k (.nx,LFu s h p.2 u (.int i)) ⟨⟨[b],some m,[x]⟩,wr⟩,kA O25 838 8 k (.nx,LFu s h p.2 u (.bool y)) ⟨⟨[b],some m,[x]⟩,wr⟩]) (kds.take 9).zipIdx:=by kernel_rfl
theorem zS{j:Int}{d:Kd}(hd:kdI j=some d)(b:BS)(m:Mn)(x:Bx)(s h:Int)(a:AV)(wr:Bool)(k:AV->Option W->Prop)(ha:a=.none\/(∃ i,a=.int i)\/∃ u,a=.bool u) :
 (∀ v:Int,(alQ d.w 0 m λm1=>wrQ d.w v m1 λm2=>k (.bool true) (some ⟨[b],some m2,[x]⟩))=kA O25 838 8 k (.nx,LFi s h j v a) ⟨⟨[b],some m,[x]⟩,wr⟩) /\
 ∀ u:Bool,(alQ d.w 0 m λm1=>wrQ d.w (bI u) m1 λm2=>k (.bool true) (some ⟨[b],some m2,[x]⟩))=kA O25 838 8 k (.nx,LFu s h j u a) ⟨⟨[b],some m,[x]⟩,wr⟩:=by
 refine x24 (gv hd) λc j e34_2 _1 hm _2=>?_
 subst e34_2
 have T:=λv u i y=>List.cons.inj (congrFun (congrFun (congrFun (congrFun (congrFun (congrFun (congrFun (congrFun (congrFun (congrFun (congrFun (bU fi8 _ hm) v) u) s) h) i) y) b) m) x) wr) k)
 have T2:=λv u i y=>List.cons.inj (T v u i y).2
 have T3:=λv u i y=>List.cons.inj (T2 v u i y).2
 have T4:=λv u i y=>List.cons.inj (T3 v u i y).2
 have T5:=λv u i y=>List.cons.inj (T4 v u i y).2
 have T6:=λv u i y=>List.cons.inj (T5 v u i y).2
 rcases ha with rfl | ⟨i,rfl⟩ | ⟨y,rfl⟩
 . exact⟨λv=>(T v true 0 true).1,λu=>(T4 0 u 0 true).1⟩
 . exact⟨λv=>(T2 v true i true).1,λu=>(T5 0 u i true).1⟩
 . exact⟨λv=>(T3 v true 0 y).1,λu=>(T6 0 u 0 y).1⟩
end
end
section
open PySem PySem.W PyProof.Rows PySem.Calls
section
theorem fY{p c:Bool}{A B:Prop}(h1:p=true)(h2:c=false)(h:B):cnd p (cnd c A B) A:=by subst h1; subst h2; exact h
theorem i6{p c:Bool}{A B:Prop}(h1:p=true->c=true)(h:A):cnd p (cnd c A B) A:=by
 cases p with
 | false=>exact h
 | true=>rw [h1 rfl]; exact h
structure FiP(b:BS)(m:Mn)(x:Bx)(c:List Int)(s:Int):Prop where
 r:Rb b m
 hx:bj x
 l:(out b).length<=300000
 n:b.nested=true
 f:b.force=m.forced
 md:tj b m
 cv:b.cv=some c
 s0:0<=s
 s1:s < c.length
 cl:c.length<=1000
structure FiQ(b:BS)(m:Mn)(c:List Int)(s:Int)(k:AV->Option W->Prop):Prop where
 no:∀ x',bj x'->k (.bool false) (some ⟨[b],some m,[x']⟩)
 yes:∀ z a q x',Pu (out b) b.head z a 0 q->sz a->0 < z.length->z.length<=300->bj x'->k (.bool true) (some ⟨[q.up { b with cv:=some (c.set s.toNat (q.x.length-q.h)) }],some (m.lay (out b) z a),[x']⟩)
theorem gf{b:BS}{m:Mn}{x:Bx}{c:List Int}{s:Int}(P:FiP b m x c s){i:Int}{d:Kd}(hd:kdI i=some d){a e:AV}{v:Int}(hp:cu d.bl a=some v)(l1:d.lo<=v)(l2:v<=d.hi){dv:Option Int}(he:nvO e=some dv)(hz:∀ n,dv=some n->n=v\/n=0){f:BS->Prop}
 (h1:dv=some v->b.force=false->f b) (h2:(dv=some v->b.force=true)->∀ q,Pu (out b) b.head (zr (pd d.w (out b).length)++leR d.w v) (mx b.minalign d.w) 0 q->f (q.up { b with cv:=some (c.set s.toNat (q.x.length-q.h)) })):slB i s a e b f:=by
 refine x02 (zO hd) λd0 d1=>?_
 unfold slB
 rw [hd]
 show cx (cu d.bl a) _
 rw [hp]
 show cx (nvO e) _
 rw [he]
 exact⟨⟨P.r.co,by have:=P.l; lia,l1,l2,P.n,P.s0,λn hn=>by rcases hz n hn with rfl | rfl <;> lia⟩,c,P.cv,P.s1,P.cl,h1,h2⟩
theorem fi_ok(b:BS)(m:Mn)(x:Bx)(c:List Int)(s:Int)(k:AV->Option W->Prop)(P:FiP b m x c s)(Q:FiQ b m c s k):ak O25 838 [.key (.bld 0),.key .mine,.key (.box 0),.int s] ⟨[b],some m,[x]⟩ k:=by
 have hl:=P.l
 rw [<- r_Fi]
 refine kA.seg 1 (s_Fi0 ..▸⟨⟨P.hx,by decide⟩,λh x1 hx1 h0 h6=>kA.seg 1 (s_Fi1 ..▸?_)⟩)
 have num:∀ wr,kA O25 838 3 k (.nx,LF1 s h) ⟨⟨[b],some m,[x1]⟩,wr⟩:=λwr=>by
  refine kA.seg 5 (s_Fi3 ..▸⟨⟨hx1,by decide⟩,λi x2 hx2 i0 i9=>?_⟩)
  refine(qX i0 i9).elim λd hd=>?_
  refine x02 (zP hd) λe1 e2=>?_
  have hw:=kd_w hd
  have fin:∀ (v:Int) (x6:Bx),bj x6->∀ q,Pu (out b) b.head (zr (pd d.w (out b).length)++leR d.w v) (mx b.minalign d.w) 0 q->alQ d.w 0 m λm1=>wrQ d.w v m1 λm2=>k (.bool true) (some ⟨[q.up { b with cv:=some (c.set s.toNat (q.x.length-q.h)) }],some m2,[x6]⟩):=λv x6 h6 q p=>by
   have:=@bw d.w (out b).length (by lia)
   exact rc P.r.rear P.r.al hw (by lia) (Q.yes _ _ q x6 p (fX P.r.as (sZ hw)) (by rw [List.length_append,aC,ay]; lia) (by rw [List.length_append,aC,ay]; lia) h6)
  refine aW (λz=>⟨hx2,λu x4 hx4=>⟨⟨hx4,by decide⟩,λt x6 hx6 t0 t3=>?_⟩⟩) λz=>⟨⟨hx2,by rw [hd]; rfl⟩,λd' v x4 hd' hx4 l1 l2=>⟨⟨hx4,by decide⟩,λt x6 hx6 t0 t3=>?_⟩⟩
  . rw [decide_eq_true z] at e1
    refine x02 (e2 e1) λe3 e4=>?_
    have hp:cu d.bl (.bool u)=some (bI u):=by rw [e1]; rfl
    have l1:d.lo<=bI u:=by rw [e3]; cases u <;> decide
    have l2:bI u<=d.hi:=by rw [e4]; cases u <;> decide
    have Z:=λ(a:AV) (ha) (q:Bm) p=>((zS hd (q.up { b with cv:=some (c.set s.toNat (q.x.length-q.h)) }) m x6 s h a true k ha).2 u).mp (fin (bI u) x6 hx6 q p)
    refine aW (λ_1=>?_) λ_1=>aW (λ_1=>?_) λ_1=>aF (by lia) ?_
    . exact gf P hd hp l1 l2 rfl (λn e=>.inl (Option.some.inj e).symm) (λ_1 hf=>fY (decide_eq_true rfl) (P.f▸hf) (kA.rt rfl (Q.no x6 hx6))) λe q p=>i6 (λ_1=>P.f▸e rfl) (Z _ (.inr (.inr ⟨u,rfl⟩)) q p)
    . exact gf P hd hp l1 l2 rfl (λn e=>.inr (Option.some.inj e).symm) (λee hf=>fY (decide_eq_true (Option.some.inj ee).symm) (P.f▸hf) (kA.rt rfl (Q.no x6 hx6))) λe q p=>i6 (λee=>P.f▸e (by rw [show bI u=0 from of_decide_eq_true ee])) (Z _ (.inr (.inl ⟨0,rfl⟩)) q p)
    . exact gf (dv:=none) P hd hp l1 l2 rfl (λn e=>nomatch e) nofun λe q p=>Z _ (.inl rfl) q p
  . rw [decide_eq_false z] at e1
    obtain rfl:d=d':=Option.some.inj (hd.symm.trans hd')
    have hp:cu d.bl (.int v)=some v:=by rw [e1]; rfl
    have Z:=λ(a:AV) (ha) (q:Bm) p=>((zS hd (q.up { b with cv:=some (c.set s.toNat (q.x.length-q.h)) }) m x6 s h a true k ha).1 v).mp (fin v x6 hx6 q p)
    refine aW (λ_1=>?_) λ_1=>aW (λ_1=>?_) λ_1=>aF (by lia) ?_
    . exact gf P hd hp l1 l2 rfl (λn e=>.inl (Option.some.inj e).symm) (λ_1 hf=>fY (decide_eq_true rfl) (P.f▸hf) (kA.rt rfl (Q.no x6 hx6))) λe q p=>i6 (λ_1=>P.f▸e rfl) (Z _ (.inr (.inl ⟨v,rfl⟩)) q p)
    . exact gf P hd hp l1 l2 rfl (λn e=>.inr (Option.some.inj e).symm) (λee hf=>fY (decide_eq_true (Option.some.inj ee).symm) (P.f▸hf) (kA.rt rfl (Q.no x6 hx6))) λe q p=>i6 (λee=>P.f▸e (by rw [show v=0 from of_decide_eq_true ee])) (Z _ (.inr (.inl ⟨0,rfl⟩)) q p)
    . exact gf (dv:=none) P hd hp l1 l2 rfl (λn e=>nomatch e) nofun λe q p=>Z _ (.inl rfl) q p
 refine aW (λe5=>?_) λe5=>kA.seg 1 (s_Fi2 ..▸aW (λg2=>fV (λem=>?_) λ_1=>num _) λ_1=>num _)
 . refine⟨⟨hx1,by decide⟩,λd7 v1 x2 hd7 hx2 l1 l2=>⟨⟨hx2,by decide⟩,λd2 v3 x4 hd2 hx4 l3 l4=>⟨⟨P.r.co,sz4,by decide,by lia⟩,λq5 p5=>?_⟩⟩⟩
   cases hd7
   cases hd2
   have a4:4<=mx b.minalign 4:=by unfold mx; split <;> lia
   have sA:sz (mx b.minalign 4):=fX P.r.as sz4
   have hp4:=@bw 4 ((out b).length+8) (by decide)
   have dv:=@dF 4 ((out b).length+8) (by decide)
   generalize hz1:zr (pd 4 ((out b).length+8))=z1 at p5
   have lz1:z1.length=pd 4 ((out b).length+8):=by rw [<- hz1,aC]
   have h5:=p5.r
   have h6:=p5.c.h1
   have h7:=p5.c.h2
   have c6:=p5.c.put (z:=zr 2) (n:=2) rfl (by lia)
   have P6:Pu (out b) b.head (z1++zr 2) (mx b.minalign 4) 0 ⟨az q5.x (q5.h-(2:Nat)) q5.h (zr 2),q5.h-(2:Nat),q5.a⟩:=⟨by rw [<- List.append_assoc]; exact c6,p5.a,by show(0:Int)<=q5.h-(2:Nat); lia,by have:=p5.k; rw [List.length_append]; show _-((z1.length+2:Nat):Int)<=q5.h-(2:Nat); omega⟩
   have l6:=congrArg List.length P6.out
   rw [List.length_append,List.length_append] at l6
   have l6:(aG (az q5.x (q5.h-(2:Nat)) q5.h (zr 2)) (q5.h-(2:Nat))).length=(out b).length+(z1.length+2):=l6
   refine⟨by decide,⟨by lia,by lia,h6,by lia,by show((2:Nat):Int)=_; lia⟩,⟨P6.co,by show(aG _ _).length<=_; exact Nat.le_trans (Nat.le_of_eq l6) (by lia),l3,l4⟩,λq6 p6=>?_⟩
   have p6:=Pu.al (w:=2) (o:=aG (az q5.x (q5.h-(2:Nat)) q5.h (zr 2)) (q5.h-(2:Nat))) p6 (by rw [l6]; lia) (by show((2:Nat):Int)<=q5.a; rw [p5.a]; lia)
   have P7:=P6.trans p6
   have P7:Pu (out b) b.head (z1++zr 2++leR 2 v3) (mx b.minalign 4) 0 q6:=P7.less rfl p5.a (Int.le_refl _)
   have l7:=congrArg List.length P7.out
   rw [List.length_append,List.length_append,List.length_append,ay] at l7
   have l7:(aG q6.x q6.h).length=(out b).length+(z1.length+2+2):=l7
   refine⟨⟨P7.co,by show(aG q6.x q6.h).length<=900000; lia,l1,l2⟩,λq7 p7=>?_⟩
   have p7:=Pu.al (w:=4) (o:=aG q6.x q6.h) p7 (by rw [l7]; lia) (by show((4:Nat):Int)<=q6.a; rw [P7.a]; exact a4)
   have P8:=P7.trans p7
   have P8:Pu (out b) b.head (z1++zr 2++leR 2 v3++leR 4 v1) (mx b.minalign 4) 0 q7:=P8.less rfl P7.a (Int.le_refl _)
   have lz:(z1++zr 2++leR 2 v3++leR 4 v1).length=z1.length+2+2+4:=by rw [List.length_append,List.length_append,List.length_append,ay,ay]; rfl
   refine⟨Nat.le_trans P8.c.h2 (by decide),⟨P8.co,by rw [show out (q7.up b)=_ from P8.out,List.length_append,lz]; lia,rfl,P.n,P.s0⟩,c,P.cv,P.s1,P.cl,P.r.alQ sz4 (by lia) ⟨?_,?_⟩⟩
   . show(List.map tI _).length+2<=_; rw [List.length_map,List.length_append,hz1]; lia
   refine⟨out b++z1++zr 2,⟨by rw [hz1]; show(out b++z1).map tI++[0,0]=_; rw [List.map_append (l₂:=zr 2)]; rfl,by decide,by rw [List.length_append,List.length_append]; show _+2<=_; lia⟩,out b++z1++zr 2++leR 2 v3,⟨rfl,by decide,by rw [List.length_append,List.length_append,List.length_append,ay]; show _+2+2<=_; lia⟩,?_⟩
   have:=Q.yes _ _ q7 x4 P8 sA (by lia) (by lia) hx4
   refine kA.rt rfl ?_
   rw [show(m.lay (out b) (z1++zr 2++leR 2 v3++leR 4 v1) (mx b.minalign 4))={ m with rear:=(out b++z1++zr 2++leR 2 v3++leR 4 v1).map tI,align:=mx b.minalign 4 } by unfold Mn.lay; simp only [List.append_assoc]] at this
   exact this
 . have hm:=P.md.1
   have hne:m.made≠[]:=by simpa using em
   have hp:=List.length_pos_iff.mpr hne
   refine⟨by lia,⟨hx1,by lia⟩,λi x2 hx2 i0 i1=>cS.i i0 i1 (by lia) ⟨⟨hx2,by decide⟩,λt x5 hx5 t0 t3=>cS.i t0 (by show t < ((3:Nat):Int); exact t3) (show 3<=16777216 by decide) ?_⟩⟩
   have hv:=P.md.2 _ (re i0 i1)
   generalize bc m.made i=v at hv ⊢
   generalize bc [0,0,v] t=w
   have hp4:=@bw 4 (out b).length (by decide)
   refine⟨⟨P.r.co,by lia,hv.1,hv.2,P.n,P.s0⟩,c,P.cv,P.s1,P.cl,λe1 e2=>fY (decide_eq_true e1) (P.f▸e2) (kA.rt rfl (Q.no x5 hx5)),λe q p=>?_⟩
   have:=P.r.ofQ (v:=v) (f:=λm8=>kA O25 838 3 k (.rt (.bool true),LFb s h v w) ⟨⟨[q.up { b with cv:=some (c.set s.toNat (q.x.length-q.h)) }],some m8,[x5]⟩,true⟩) (by lia) (kA.rt rfl (Q.yes _ _ q x5 p (fX P.r.as sz4) (by rw [gS]; lia) (by rw [gS]; lia) hx5))
   exact i6 (λe'=>P.f▸e (of_decide_eq_true e')) this
noncomputable def fiC(s:Int)(b:BS)(m:Mn)(x:Bx)(F:Bool->BS->Mn->Bx->Prop):Prop:=∃ c,FiP b m x c s/\(∀ x',bj x'->F false b m x')/\∀ z a q x',Pu (out b) b.head z a 0 q->sz a->0 < z.length->z.length<=300->bj x'->F true (q.up { b with cv:=some (c.set s.toNat (q.x.length-q.h)) }) (m.lay (out b) z a) x'
noncomputable def fiA(as:List AV):LK:=λb m x K=>aV vI as λs as=>a0 as (fiC s b m x λr=>K (.bool r))
theorem Br:∀ vs w k,lsp fiA vs w k->ak O25 838 vs w k:=tf λb m x k=>aIK λs=>a0K λh=>h.elim λc h=>fi_ok b m x c s k h.1 ⟨h.2.1,h.2.2⟩
noncomputable def O26:Om:=bg 838 (lsp fiA) O25
theorem ok26:ΩOk 29 O26:=ok25.addR Br
end
end
section
open PySem PySem.W PyProof.Rows PySem.Calls
section
noncomputable abbrev setQ(i v:Int)(m:Mn)(f:Mn->Prop):Prop:=(0<=i/\i < m.rear.length/\m.rear.length<=16777216)/\f { m with rear:=m.rear.set i.toNat v }
noncomputable def LT0(fi:Int)(ps:List Int):Loc:=⟨[(S "builder",.v (.key (.bld 0))),(S "mine",.v (.key .mine)),(S "box",.v (.key (.box 0))),(S "rear",.v (.key (.comp 0 .rear))),(S "first",.v (.int fi)),(S "places",.own ps)],scF 843⟩
theorem r_Ta(b:BS)(m:Mn)(x:Bx)(k:AV->Option W->Prop):kA O26 843 0 k (.nx,⟨[(S "builder",.v (.key (.bld 0))),(S "mine",.v (.key .mine)),(S "box",.v (.key (.box 0)))],scF 843⟩) ⟨W.mk [b] (some m) [x],false⟩=ak O26 843 [.key (.bld 0),.key .mine,.key (.box 0)] (W.mk [b] (some m) [x]) k:=fA (by kernel_rfl)
theorem s_Ta0(b:BS)(m:Mn)(x:Bx)(wr:Bool)(K:Fl×Loc->G->Prop):((m.rear.length<=16777216)/\(taQ (7:Int) x λi1 x2=>(-16777216<=i1/\i1<=16777216)/\((List.replicate i1.toNat ((0:Int):Int)).length<=16777216)/\cnd (b.nested) False ((-16777216<=((List.replicate i1.toNat ((0:Int):Int)).length:Int)/\((List.replicate i1.toNat ((0:Int):Int)).length:Int)<=16777216)/\(b.bytes.length<=16777216)/\K (.nx,(LT0 (m.rear.length:Int) (List.replicate i1.toNat ((0:Int):Int)))) ⟨W.mk [{ b with cv:=some (List.replicate ((List.replicate i1.toNat ((0:Int):Int)).length:Int).toNat ((0:Int):Int)),objectEnd:=some ((b.bytes.length:Int)-b.head),nested:=true }] (some m) [x2],true⟩)))=evS (ev O26 60) (((aJ 843).drop 0).take 4) ⟨[(S "builder",.v (.key (.bld 0))),(S "mine",.v (.key .mine)),(S "box",.v (.key (.box 0)))],scF 843⟩ ⟨W.mk [b] (some m) [x],wr⟩ K:=by kernel_rfl
noncomputable def LT1(fi:Int)(ps:List Int)(t:Int)(he:Int):Loc:=⟨[(S "builder",.v (.key (.bld 0))),(S "mine",.v (.key .mine)),(S "box",.v (.key (.box 0))),(S "rear",.v (.key (.comp 0 .rear))),(S "first",.v (.int fi)),(S "places",.own ps),(S "told",.v (.int t)),(S "here",.v (.int he))],scF 843⟩
noncomputable def LT2(fi:Int)(ps:List Int)(t:Int)(he:Int)(ro:List Int):Loc:=⟨[(S "builder",.v (.key (.bld 0))),(S "mine",.v (.key .mine)),(S "box",.v (.key (.box 0))),(S "rear",.v (.key (.comp 0 .rear))),(S "first",.v (.int fi)),(S "places",.own ps),(S "told",.v (.int t)),(S "here",.v (.int he)),(S "row",.v (.ints ro))],scF 843⟩
noncomputable def tm:Loc->List Int->EM (List AV):=jx (ev O26 59) (S "place") (cmE (stI 843 9))
noncomputable def jU(he:Int):Loc:=⟨[(S "here",.v (.int he))],cmS (stI 843 9)⟩
theorem c0_Ta(b:BS)(m:Mn)(x:Bx)(he:Int)(wr:Bool)(K:List AV->G->Prop):K [] ⟨W.mk [b] (some m) [x],wr⟩=tm (jU he) [] ⟨W.mk [b] (some m) [x],wr⟩ K:=by kernel_rfl
theorem c1_Ta(b:BS)(m:Mn)(x:Bx)(he:Int)(e:Int)(r:List Int)(wr:Bool)(K:List AV->G->Prop):(cnd (decide (e > (0:Int))) (tm (jU he) r ⟨W.mk [b] (some m) [x],wr⟩ (λq=>K (.int (he-e)::q))) (tm (jU he) r ⟨W.mk [b] (some m) [x],wr⟩ (λq=>K (.int (0:Int)::q))))=tm (jU he) (e::r) ⟨W.mk [b] (some m) [x],wr⟩ K:=by kernel_rfl
noncomputable def wW:Nat->Loc->EM (Fl×Loc):=dy (ev O26 59) (whT (stI 843 10)) (whB (stI 843 10))
theorem zU(b:BS)(m:Mn)(x:Bx)(fi:Int)(ps:List Int)(t he:Int)(ro:List Int)(wr:Bool)(K:Fl×Loc->G->Prop):(cnd (!decide (ro=[])) ((0<=(-(1:Int))+ro.length/\ro.length<=16777216)/\cnd (decide ((bc ro ((-(1:Int))+ro.length))=(0:Int))) False (K (.nx,(LT2 fi ps t he ro)) ⟨W.mk [b] (some m) [x],wr⟩)) (K (.nx,(LT2 fi ps t he ro)) ⟨W.mk [b] (some m) [x],wr⟩))=wW 0 (LT2 fi ps t he ro) ⟨W.mk [b] (some m) [x],wr⟩ K:=by kernel_rfl
theorem w1_Tw(b:BS)(m:Mn)(x:Bx)(fi:Int)(ps:List Int)(t he:Int)(ro:List Int)(wr:Bool)(N:Nat)(K:Fl×Loc->G->Prop):(cnd (!decide (ro=[])) ((0<=(-(1:Int))+ro.length/\ro.length<=16777216)/\cnd (decide ((bc ro ((-(1:Int))+ro.length))=(0:Int))) (((-(1:Int))=-1/\ro.length<=16777216)/\wW N (LT2 fi ps t he ro.dropLast) ⟨W.mk [b] (some m) [x],wr⟩ K) False) False)=wW (N+1) (LT2 fi ps t he ro) ⟨W.mk [b] (some m) [x],wr⟩ K:=by kernel_rfl
noncomputable def lh:List AV->Loc->EM (Fl×Loc):=ji (ev O26 59) (S "turn") (fiB (stI 843 4))
theorem w0_Ta(b:BS)(m:Mn)(x:Bx)(fi:Int)(ps:List Int)(v:Int)(wr:Bool)(K:Fl×Loc->G->Prop):(K (.nx,(LT0 fi ps)) ⟨W.mk [b] (some m) [x],wr⟩)=lh [] (LT0 fi ps) ⟨W.mk [b] (some m) [x],wr⟩ K:=by kernel_rfl
theorem w1_Ta(b:BS)(m:Mn)(x:Bx)(fi:Int)(ps:List Int)(v:Int)(wr:Bool)(r:List AV)(K:Fl×Loc->G->Prop):((ps.length<=16777216)/\(taQ (ps.length:Int) x λi1 x2=>(cS ps i1 λv3=>cnd (decide (v3=(0:Int))) (fiC i1 b m x2 λr4 b5 m6 x7=>cnd (r4) ((m6.rear.length<=16777216)/\(0<=i1/\i1 < ps.length/\ps.length<=16777216)/\lh r (LT0 fi (ps.set i1.toNat (m6.rear.length:Int))) ⟨W.mk [b5] (some m6) [x7],true⟩ K) (lh r (LT0 fi ps) ⟨W.mk [b5] (some m6) [x7],true⟩ K)) (lh r (LT0 fi ps) ⟨W.mk [b] (some m) [x2],true⟩ K))))=lh (.int v::r) (LT0 fi ps) ⟨W.mk [b] (some m) [x],wr⟩ K:=by kernel_rfl
theorem s_Ta4(b:BS)(m:Mn)(x:Bx)(fi:Int)(ps:List Int)(wr:Bool)(K:Fl×Loc->G->Prop):((ps.length<=16777216)/\cnd (decide (-1000000<=(ps.length:Int)/\(ps.length:Int)<=1000000)) (lh ((dM (0:Int) (1:Int) ((ps.length:Int).toNat)).map .int) (LT0 fi ps) ⟨W.mk [b] (some m) [x],wr⟩ K) False)=(ev O26 60).s (stI 843 4) (LT0 fi ps) ⟨W.mk [b] (some m) [x],wr⟩ K:=by kernel_rfl
theorem s_Ta5(b:BS)(m:Mn)(x:Bx)(fi:Int)(ps:List Int)(wr:Bool)(K:Fl×Loc->G->Prop):(cnd (b.nested) (wvB ({ b with nested:=false }) λv1 b2=>(alQ (4:Int) (0:Int) m λm3=>(wrQ (4:Int) (0:Int) m3 λm4=>(m4.rear.length<=16777216)/\K (.nx,(LT1 fi ps v1 (m4.rear.length:Int))) ⟨W.mk [b2] (some m4) [x],true⟩))) False)=evS (ev O26 60) (((aJ 843).drop 5).take 4) (LT0 fi ps) ⟨W.mk [b] (some m) [x],wr⟩ K:=by kernel_rfl
theorem s_Ta9(b:BS)(m:Mn)(x:Bx)(fi:Int)(ps:List Int)(t he:Int)(wr:Bool)(K:Fl×Loc->G->Prop):((ps.length<=1000000)/\tm (jU he) ps ⟨W.mk [b] (some m) [x],wr⟩ (λq=>K (.nx,⟨[(S "builder",.v (.key (.bld 0))),(S "mine",.v (.key .mine)),(S "box",.v (.key (.box 0))),(S "rear",.v (.key (.comp 0 .rear))),(S "first",.v (.int fi)),(S "places",.own ps),(S "told",.v (.int t)),(S "here",.v (.int he)),(S "row",.v (bQ q))],scF 843⟩)))=(ev O26 60).s (stI 843 9) (LT1 fi ps t he) ⟨W.mk [b] (some m) [x],wr⟩ K:=by kernel_rfl
theorem Bs(b:BS)(m:Mn)(x:Bx)(fi:Int)(ps:List Int)(t he:Int)(ro:List Int)(wr:Bool)(K:Fl×Loc->G->Prop):((ro.length+[(he-fi)].length<=16777216)/\K (.nx,(LT2 fi ps t he (ro++[(he-fi)]))) ⟨W.mk [b] (some m) [x],wr⟩)=evS (ev O26 60) (((aJ 843).drop 11).take 1) (LT2 fi ps t he ro) ⟨W.mk [b] (some m) [x],wr⟩ K:=by kernel_rfl
theorem Bt(b:BS)(m:Mn)(x:Bx)(fi:Int)(ps:List Int)(t he:Int)(ro:List Int)(wr:Bool)(k:AV->Option W->Prop):((dT m.rows ro=true/\m.rows.length<=16777216)/\(cS m.stand (m.rows.findIdx λy=>decide (y=ro):Int) λv1=>cnd (decide (((256:Int) ^ (0:Int).toNat)≠0/\((256:Int) ^ (0:Int).toNat).natAbs < 2 ^ 64)) (setQ ((he-(1:Int))-(0:Int)) (((v1-he).fdiv ((256:Int) ^ (0:Int).toNat)).fmod (256:Int)) m λm2=>cnd (decide (((256:Int) ^ (1:Int).toNat)≠0/\((256:Int) ^ (1:Int).toNat).natAbs < 2 ^ 64)) (setQ ((he-(1:Int))-(1:Int)) (((v1-he).fdiv ((256:Int) ^ (1:Int).toNat)).fmod (256:Int)) m2 λm3=>cnd (decide (((256:Int) ^ (2:Int).toNat)≠0/\((256:Int) ^ (2:Int).toNat).natAbs < 2 ^ 64)) (setQ ((he-(1:Int))-(2:Int)) (((v1-he).fdiv ((256:Int) ^ (2:Int).toNat)).fmod (256:Int)) m3 λm4=>cnd (decide (((256:Int) ^ (3:Int).toNat)≠0/\((256:Int) ^ (3:Int).toNat).natAbs < 2 ^ 64)) (setQ ((he-(1:Int))-(3:Int)) (((v1-he).fdiv ((256:Int) ^ (3:Int).toNat)).fmod (256:Int)) m4 λm5=>cnd (decide (t=he)) (k (.int t) (some (W.mk [b] (some m5) [x]))) (k .none (some (W.mk [b] (some m5) [x])))) False) False) False) False))=kA O26 843 13 k (.nx,(LT2 fi ps t he ro)) ⟨W.mk [b] (some m) [x],wr⟩:=by kernel_rfl
noncomputable def wX:List AV->Loc->EM (Fl×Loc):=ji (ev O26 58) (S "n") (fiB ((ifA (stI 843 12)).getD 0 default))
theorem w0_Tf(b:BS)(m:Mn)(x:Bx)(fi:Int)(ps:List Int)(t he:Int)(ro:List Int)(v:Int)(wr:Bool)(K:Fl×Loc->G->Prop):(K (.nx,(LT2 fi ps t he ro)) ⟨W.mk [b] (some m) [x],wr⟩)=wX [] (LT2 fi ps t he ro) ⟨W.mk [b] (some m) [x],wr⟩ K:=by kernel_rfl
theorem w1_Tf(b:BS)(m:Mn)(x:Bx)(fi:Int)(ps:List Int)(t he:Int)(ro:List Int)(v:Int)(wr:Bool)(r:List AV)(K:Fl×Loc->G->Prop):((wrQ (2:Int) v m λm1=>wX r (LT2 fi ps t he ro) ⟨W.mk [b] (some m1) [x],true⟩ K))=wX (.int v::r) (LT2 fi ps t he ro) ⟨W.mk [b] (some m) [x],wr⟩ K:=by kernel_rfl
theorem Bu(b:BS)(m:Mn)(x:Bx)(fi:Int)(ps:List Int)(t he:Int)(ro:List Int)(wr:Bool)(K:Fl×Loc->G->Prop):(cnd (!dT m.rows ro) (((-(1:Int))=-1/\ro.length<=16777216)/\(ro.dropLast.length<=16777216)/\(ro.length<=16777216)/\(ro.dropLast.reverse.length+[(he-fi),(((2:Int)*(ro.length:Int))+(2:Int))].length<=16777216)/\wX ((ro.dropLast.reverse++[(he-fi),(((2:Int)*(ro.length:Int))+(2:Int))]).map .int) (LT2 fi ps t he ro) ⟨W.mk [b] (some m) [x],wr⟩ (cZ (ev O26 59) ((ifA (stI 843 12)).drop 1) K)) (K (.nx,(LT2 fi ps t he ro)) ⟨W.mk [b] (some m) [x],wr⟩))=(ev O26 60).s (stI 843 12) (LT2 fi ps t he ro) ⟨W.mk [b] (some m) [x],wr⟩ K:=by kernel_rfl
theorem yC(b:BS)(m:Mn)(x:Bx)(fi:Int)(ps:List Int)(t he:Int)(ro:List Int)(wr:Bool)(K:Fl×Loc->G->Prop):((m.rows.length<=16777215)/\(m.rear.length<=16777216)/\(m.stand.length<=16777215)/\K (.nx,(LT2 fi ps t he ro)) ⟨W.mk [b] (some ({ m with rows:=(m.rows++[ro]),stand:=(m.stand++[(m.rear.length:Int)]) })) [x],true⟩)=cZ (ev O26 59) ((ifA (stI 843 12)).drop 1) K (.nx,(LT2 fi ps t he ro)) ⟨W.mk [b] (some m) [x],wr⟩:=by kernel_rfl
end
end
section
open PySem PySem.W PyProof.Rows PySem.Calls
section
structure TaP(b:BS)(m:Mn)(ps:List Int):Prop where
 r:Rb b m
 n:b.nested=true
 f:b.force=m.forced
 md:tj b m
 cv:b.cv=some ps
 pe:∀ p∈ps,0<=p/\p<=(out b).length
theorem yD{xs:List Int}{n:Nat}{a p:Int}(h:p∈xs.set n a):p∈xs\/p=a:=List.mem_or_eq_of_mem_set h
theorem gT{fi:Int}{K:Fl×Loc->G->Prop}{l0:Nat}(h6:l0<=6):∀ (is:List Int),is=[]\/0 < l0->∀ (b:BS) (m:Mn) (x:Bx) (ps:List Int) (wr:Bool),TaP b m ps->bj x->ps.length=l0->(out b).length+300*is.length<=290000 ->
 (∀ z a q x' (ps':List Int) wr',Pu (out b) b.head z a 0 q->sz a->z.length<=300*is.length->bj x'->ps'.length=l0->(∀ p∈ps',0<=p/\p<=(out b).length+z.length)->K (.nx,LT0 fi ps') ⟨⟨[q.up { b with cv:=some ps' }],some (m.lay (out b) z a),[x']⟩,wr'⟩)->lh (is.map .int) (LT0 fi ps) ⟨⟨[b],some m,[x]⟩,wr⟩ K:=by
 intro is
 induction is with
 | nil =>
  intro _ b m x ps wr P hx hl ho k
  rw [List.map_nil,<- w0_Ta (v:=0)]
  have:=k [] b.minalign ⟨b.bytes,b.head,b.minalign⟩ x ps wr (Pu.nil P.r.co) P.r.as (Nat.zero_le _) hx hl (λp hp=>by have:=P.pe p hp; simpa using this)
  rw [P.r.same,show Bm.up ⟨b.bytes,b.head,b.minalign⟩ { b with cv:=some ps }={ b with cv:=some ps } from rfl,<- P.cv] at this
  exact this
 | cons e is gT =>
  intro hz b m x ps wr P hx hl ho k
  have hz:=hz.resolve_left nofun
  have ho:(out b).length+300*(is.length+1)<=290000:=ho
  rw [List.map_cons,<- w1_Ta]
  have stay:∀ x',bj x'->lh (is.map .int) (LT0 fi ps) ⟨⟨[b],some m,[x']⟩,true⟩ K:=λx' hx'=>gT (.inr hz) b m x' ps true P hx' hl (by lia) λz a q x2 ps' wr' p sa lz hx2 hl' pe'=>k z a q x2 ps' wr' p sa (by rw [List.length_cons]; lia) hx2 hl' pe'
  refine⟨by lia,⟨hx,by lia⟩,λi x2 hx2 i0 i1=>cS.i i0 i1 (by lia) (aW (λ_1=>?_) λ_1=>stay x2 hx2)⟩
  refine⟨ps,⟨P.r,hx2,by lia,P.n,P.f,P.md,P.cv,i0,i1,by lia⟩,λx' hx'=>stay x' hx',λz a q x' p sa z0 z1 hx'=>?_⟩
  have lr:(m.lay (out b) z a).rear.length=(out b).length+z.length:=by show(List.map tI _).length=_; rw [List.length_map,List.length_append]
  have pl:=p.len
  have ob:out (q.up { b with cv:=some (ps.set i.toNat (q.x.length-q.h)) })=out b++z:=p.out
  have lo:(out (q.up { b with cv:=some (ps.set i.toNat (q.x.length-q.h)) })).length=(out b).length+z.length:=by rw [ob,List.length_append]
  show(m.lay (out b) z a).rear.length<=_/\_/\lh _ (LT0 fi (ps.set i.toNat ((m.lay (out b) z a).rear.length:Int))) _ _
  rw [lr,show(((out b).length+z.length:Nat):Int)=q.x.length-q.h by lia]
  refine⟨by lia,⟨i0,i1,by lia⟩,gT (.inr hz) _ _ x' (ps.set i.toNat (q.x.length-q.h)) true ⟨P.r.lay p sa,P.n,P.f,⟨P.md.1,λv hv=>by have:=P.md.2 v hv; rw [lo]; lia⟩,rfl,λv hv=>?_⟩ hx' (by rw [List.length_set]; exact hl) (by rw [lo]; lia) λz' a' q' x2 ps' wr' p' sa' lz hx2 hl' pe'=>?_⟩
  . rw [lo]
    rcases yD hv with h | rfl
    . have:=P.pe v h; lia
    . lia
  . have:=k (z++z') a' q' x2 ps' wr' (p.trans p') sa' (by rw [List.length_append,List.length_cons]; lia) hx2 hl' (λv hv=>by have:=pe' v hv; rw [lo] at this; rw [List.length_append]; lia)
    rw [ob,Mn.lay2]
    exact this
end
end
section
open PySem PySem.W PyProof.Rows PySem.Calls
section
variable {b:BS}{m:Mn}{x:Bx}{fi t he:Int}{ps:List Int}
theorem gU:∀ (ps:List Int) (wr:Bool) (K:List AV->G->Prop),(∀ p∈ps,0<=p)->K ((ps.map (ent he)).map .int) ⟨⟨[b],some m,[x]⟩,wr⟩->tm (jU he) ps ⟨⟨[b],some m,[x]⟩,wr⟩ K:=by
 intro ps
 induction ps with
 | nil =>
  intro wr K _ k
  exact by rw [<- c0_Ta]; exact k
 | cons p ps gU =>
  intro wr K h k
  have h0:=h p (.head _)
  rw [<- c1_Ta]
  refine aW (λe=>gU wr _ (λy hy=>h y (.tail _ hy)) ?_) λe=>gU wr _ (λy hy=>h y (.tail _ hy)) ?_
  . rw [List.map_cons,show ent he p=he-p from if_neg (by lia)] at k; exact k
  . rw [List.map_cons,show ent he p=0 from if_pos (by lia)] at k; exact k
noncomputable def eB(ro:List Int):List Int:=(dz ro.reverse).reverse
theorem tp(l:List Int)(y:Int):eB (l++[y])=if y=0 then eB l else l++[y]:=by
 unfold eB
 rw [List.reverse_append]
 show(if y=0 then dz l.reverse else y::l.reverse).reverse=_
 split
 . rfl
 . rw [List.reverse_cons,List.reverse_reverse]
theorem pC(l:List Int)(y:Int):bc (l++[y]) (-1+((l++[y]).length:Int))=y:=by
 unfold bc
 rw [show(-1+((l++[y]).length:Int)).toNat=l.length by rw [List.length_append]; show(-1+((l.length+1:Nat):Int)).toNat=_; lia,List.getD_eq_getElem?_getD,List.getElem?_append_right (Nat.le_refl _),Nat.sub_self]
 rfl
theorem lj{K:Fl×Loc->G->Prop}{wr:Bool}:∀ (n:Nat) (ro:List Int),ro.length=n->n<=1000->K (.nx,LT2 fi ps t he (eB ro)) ⟨⟨[b],some m,[x]⟩,wr⟩->∃ N,wW N (LT2 fi ps t he ro) ⟨⟨[b],some m,[x]⟩,wr⟩ K:=by
 intro n
 induction n with
 | zero =>
  intro ro hl hn k
  obtain rfl:=List.length_eq_zero_iff.mp hl
  exact⟨0,zU ..▸dK rfl k⟩
 | succ n lj =>
  intro ro hl hn k
  obtain⟨l,y,rfl⟩:∃ l y,ro=l++[y]:=⟨ro.dropLast,ro.getLast (by intro e; rw [e] at hl; cases hl),(List.dropLast_concat_getLast _).symm⟩
  have hl':l.length=n:=by rw [List.length_append] at hl; exact Nat.succ.inj hl
  have hne:(!decide (l++[y]=[]))=true:=by simp
  have g:=pC l y
  rw [tp] at k
  by_cases e:y=0
  . rw [if_pos e] at k
    refine(lj l hl' (by lia) k).elim λN h=>?_
    exact⟨N+1,w1_Tw ..▸dk hne ⟨⟨by lia,by lia⟩,aF (g.trans e) ⟨⟨rfl,by lia⟩,by rw [List.dropLast_concat]; exact h⟩⟩⟩
  . rw [if_neg e] at k
    exact⟨0,zU ..▸dk hne ⟨⟨by lia,by lia⟩,iW (by rw [show bc (l++[y]) (-1+((l++[y]).length:Int))=y from g]; exact e) k⟩⟩
theorem ll{K:Fl×Loc->G->Prop}{ro:List Int}:∀ (l:List Int) (o:List UInt8) (m:Mn) (wr:Bool),m.rear=o.map tI->o.length+2*l.length<=800000->(∀ wr',K (.nx,LT2 fi ps t he ro) ⟨⟨[b],some { m with rear:=(o++l.flatMap (leR 2)).map tI },[x]⟩,wr'⟩)->wX (l.map .int) (LT2 fi ps t he ro) ⟨⟨[b],some m,[x]⟩,wr⟩ K:=by
 intro l
 induction l with
 | nil =>
  intro o m wr hr hl k
  have:=k wr
  rw [List.flatMap_nil,List.append_nil,<- hr] at this
  rw [List.map_nil,<- w0_Tf (v:=0)]; exact this
 | cons v l ll =>
  intro o m wr hr hl k
  have hl:o.length+2*(l.length+1)<=800000:=hl
  rw [List.map_cons,<- w1_Tf]
  refine⟨o,⟨hr,by decide,by lia⟩,ll (o++leR 2 v) _ true rfl (by rw [List.length_append,ay]; lia) λwr'=>?_⟩
  rw [List.append_assoc]
  exact k wr'
end
end
section
open PySem PySem.W PyProof.Rows PySem.Calls
section
noncomputable def kf(row:List Int):List Int:=row.dropLast.reverse++[row.getLastD 0]
theorem fZ(t:List Int)(l:Int):kf (t++[l])=t.reverse++[l]:=by unfold kf; simp
theorem Bv{r s:List Int}(hr:r≠[])(hs:s≠[])(h:kf r=kf s):r=s:=by
 obtain⟨t,l,rfl⟩:∃ t l,r=t++[l]:=⟨r.dropLast,r.getLast hr,(List.dropLast_concat_getLast hr).symm⟩
 obtain⟨u,k,rfl⟩:∃ t l,s=t++[l]:=⟨s.dropLast,s.getLast hs,(List.dropLast_concat_getLast hs).symm⟩
 rw [fZ,fZ] at h
 refine x02 (List.append_inj' h rfl) λh1 h2=>?_
 rw [List.reverse_inj.mp h1,h2]
structure VT(vt:List (List Int×Int))(rows:List (List Int))(stand:List Int):Prop where
 e:vt=(rows.zip stand).map λp=>(kf p.1,p.2)
 n:rows.length=stand.length
 ne:∀ r∈rows,r≠[]
theorem eK{l:List (List Int)}{x:List Int}:dT l x=true↔x∈l :=
 List.any_eq_true.trans ⟨λh=>x12 h λy h1 h2=>of_decide_eq_true h2▸h1,λh=>⟨x,h,decide_eq_true rfl⟩⟩
theorem rf:∀{rows:List (List Int)}{stand:List Int}{row:List Int},rows.length=stand.length->(∀ r∈rows,r≠[])->row≠[] ->
 (row∈rows->∃ v,stand[rows.findIdx λy=>decide (y=row)]?=some v/\aN (kf row) ((rows.zip stand).map λp=>(kf p.1,p.2))=some v) /\
 (row ∉ rows->aN (kf row) ((rows.zip stand).map λp=>(kf p.1,p.2))=none)
 | [],_1,row,_2,_3,_4=>⟨nofun,λ_1=>rfl⟩
 | r::rows,s::stand,row,hn,hne,hr=>by
  refine x02 (rf (rows:=rows) (stand:=stand) (row:=row) (by simpa using hn) (λy hy=>hne y (.tail _ hy)) hr) λa c=>?_
  by_cases he:r=row
  . subst he
    refine⟨λ_1=>⟨s,by simp [List.findIdx_cons],?_⟩,λh=>absurd (.head _) h⟩
    show(if kf r=kf r then some s else _)=_
    rw [if_pos rfl]
  . have hk:kf r≠kf row:=λh=>he (Bv (hne r (.head _)) hr h)
    have es:aN (kf row) (((r::rows).zip (s::stand)).map λp=>(kf p.1,p.2))=aN (kf row) ((rows.zip stand).map λp=>(kf p.1,p.2)):=if_neg hk
    rw [es]
    refine⟨λh=>?_,λh=>c λh'=>h (.tail _ h')⟩
    refine x12 (a ((List.mem_cons.mp h).resolve_left λe=>he e.symm)) λv v1 v2=>?_
    refine⟨v,?_,v2⟩
    rw [List.findIdx_cons,decide_eq_false he]
    simpa using v1
 | _1::_,[],_,hn,_,_=>by cases hn
theorem Bw{o:List UInt8}{c:List Int}{oe:Int}:kf (eB (c.map (ent (wvH o)))++[wvH o-oe])=wvK o c oe:=by
 rw [fZ]; unfold eB wvK wvD
 rw [List.reverse_reverse,List.map_reverse]
structure Tb(b:BS)(m:Mn):Prop where
 v:VT b.vt m.rows m.stand
 vl:m.rows.length<=900
 sd:∀ v∈m.stand,0<=v/\v<=(out b).length
theorem wY:∀{rows:List (List Int)}{stand:List Int}{k:List Int}{v:Int},aN k ((rows.zip stand).map λp=>(kf p.1,p.2))=some v->v∈stand
 | [],_1,k,v,h=>by cases h
 | r::rows,[],k,v,h=>by cases h
 | r::rows,s::stand,k,v,h=>by
  have h:(if kf r=k then some s else aN k ((rows.zip stand).map λp=>(kf p.1,p.2)))=some v:=h
  split at h
  . cases h; exact .head _
  . exact .tail _ (wY h)
end
end
section
open PySem PySem.W PyProof.Rows PySem.Calls
section
structure TbP(b:BS)(m:Mn)(x:Bx):Prop where
 r:Rb b m
 hx:bj x
 n:b.nested=false
 f:b.force=m.forced
 md:tj b m
 t:Tb b m
 l:(out b).length<=60000
theorem By(b:BS)(m:Mn)(x:Bx)(k:AV->Option W->Prop)(P:TbP b m x)(h:∀ (fi:Int) (ps:List Int) z a q x' wr',Pu (out b) b.head z a 0 q->sz a->z.length<=1800->bj x'->ps.length<=6->(∀ p∈ps,0<=p/\p<=(out b).length+z.length)->fi=((out b).length:Int) ->
 kA O26 843 5 k (.nx,LT0 fi ps) ⟨⟨[q.up { b with cv:=some ps,objectEnd:=some fi,nested:=true }],some (m.lay (out b) z a),[x']⟩,wr'⟩):ak O26 843 [.key (.bld 0),.key .mine,.key (.box 0)] ⟨[b],some m,[x]⟩ k:=by
 have hl:=P.l
 have lr:m.rear.length=(out b).length:=by rw [P.r.rear,List.length_map]
 have co:=P.r.co.len
 have co:(b.bytes.length:Int)-b.head=(out b).length:=co
 have c2:=P.r.co.h2
 rw [<- r_Ta]
 refine kA.seg 4 (s_Ta0 ..▸⟨by lia,⟨P.hx,by decide⟩,λi x1 hx1 i0 i7=>⟨by lia,by rw [List.length_replicate]; lia,dK P.n ⟨by rw [List.length_replicate]; lia,by lia,?_⟩⟩⟩)
 rw [List.length_replicate,Int.toNat_natCast,lr,co]
 refine kA.st (by kernel_rfl) (s_Ta4 ..▸⟨by rw [List.length_replicate]; lia,aF (by rw [List.length_replicate]; lia) ?_⟩)
 rw [List.length_replicate,Int.toNat_natCast]
 refine gT (l0:=i.toNat) (by lia) _ ?_ { b with cv:=some (List.replicate i.toNat 0),objectEnd:=some ((out b).length:Int),nested:=true } m x1 _ true ⟨⟨P.r.co,P.r.rear,P.r.al,P.r.as⟩,rfl,P.f,P.md,rfl,λp hp=>?_⟩ hx1 (List.length_replicate ..) ?_ λz a q x' ps' wr' p sa lz hx' hl' pe'=>?_
 . by_cases e:i.toNat=0
   . exact .inl (by rw [e]; rfl)
   . exact .inr (by lia)
 . rw [(List.mem_replicate.mp hp).2]; exact⟨Int.le_refl _,Int.natCast_nonneg _⟩
 . rw [cR]; show(out b).length+_<=_; lia
 . rw [cR] at lz
   exact h _ ps' z a q x' wr' p sa (by lia) hx' (by lia) pe' rfl
end
end
section
open PySem PySem.W PyProof.Rows PySem.Calls
section
theorem Bz(L:Loc)(g:G)(K:Fl×Loc->G->Prop):(∃ N,wW N L g K)=(ev O26 60).s (stI 843 10) L g K:=by kernel_rfl
theorem set4{A R J:List UInt8}{v:Int}(hJ:J.length=4):((((((A++(J++R)).map tI).set (A.length+3) ((v.fdiv (256 ^ 0)).fmod 256)).set (A.length+2) ((v.fdiv (256 ^ 1)).fmod 256)).set (A.length+1) ((v.fdiv (256 ^ 2)).fmod 256)).set A.length ((v.fdiv (256 ^ 3)).fmod 256))=(A++(leR 4 v++R)).map tI:=by
 refine x41 (len4 hJ) λa b c d ej=>?_
 subst ej
 have e:=dg_e (w:=4) (v:=v) (by decide)
 have lA:A.length=(A.map tI).length:=(List.length_map ..).symm
 rw [List.map_append,List.map_append,List.map_append (l₁:=A),List.map_append (l₁:=leR 4 v),<- e,lA]
 rw [List.set_append_right _ _ (by lia),List.set_append_right _ _ (by lia),List.set_append_right _ _ (by lia),List.set_append_right _ _ (by lia)]
 congr 1
 rw [show(A.map tI).length+3-(A.map tI).length=3 by lia,show(A.map tI).length+2-(A.map tI).length=2 by lia,show(A.map tI).length+1-(A.map tI).length=1 by lia,Nat.sub_self]
 rfl
theorem wZ{b:BS}{m:Mn}{x:Bx}{k:AV->Option W->Prop}{fi he v:Int}{ps ro:List Int}{wr:Bool}{A J R:List UInt8}(hr:m.rear=(A++(J++R)).map tI)(hJ:J.length=4)(hh:he=(A.length:Int)+4)(hl:(A++(J++R)).length<=1000000)(hx:dT m.rows ro=true)(hrl:m.rows.length<=1000)(hsl:m.stand.length<=1000)(hs:m.stand[m.rows.findIdx λy=>decide (y=ro)]?=some v)
 (h:k (.int he) (some ⟨[b],some { m with rear:=(A++(leR 4 (v-he)++R)).map tI },[x]⟩)):kA O26 843 13 k (.nx,LT2 fi ps he he ro) ⟨⟨[b],some m,[x]⟩,wr⟩:=by
 have lr:m.rear.length=(A++(J++R)).length:=by rw [hr,List.length_map]
 have lA:A.length+4<=(A++(J++R)).length:=by rw [List.length_append,List.length_append]; lia
 have hi:=(List.getElem?_eq_some_iff.mp hs).1
 rw [<- Bt]
 have e0:(he-1-0).toNat=A.length+3:=by lia
 have e1:(he-1-1).toNat=A.length+2:=by lia
 have e2:(he-1-2).toNat=A.length+1:=by lia
 have e3:(he-1-3).toNat=A.length:=by lia
 have ev:bc m.stand ((m.rows.findIdx λy=>decide (y=ro):Nat):Int)=v:=by
  unfold bc; rw [List.getD_eq_getElem?_getD,Int.toNat_natCast,hs]; rfl
 refine⟨⟨hx,by lia⟩,cS.i (Int.natCast_nonneg _) (by lia) (by lia) ?_⟩
 rw [ev]
 refine aF (by decide) ⟨⟨by lia,by lia,by lia⟩,aF (by decide) ⟨⟨by lia,?_,?_⟩,aF (by decide) ⟨⟨by lia,?_,?_⟩,aF (by decide) ⟨⟨by lia,?_,?_⟩,aF rfl ?_⟩⟩⟩⟩
 all_goals first | (show _ < ((List.length _:Nat):Int); simp only [List.length_set]; lia) | (show List.length _<=_; simp only [List.length_set]; lia) | skip
 have:=set4 (A:=A) (R:=R) (J:=J) (v:=v-he) hJ
 rw [<- this,<- hr] at h
 dsimp only
 rw [e0,e1,e2,e3]
 exact h
end
end
section
open PySem PySem.W PyProof.Rows PySem.Calls
section
theorem BB{l:List Int}:(eB l).length<=l.length:=by unfold eB; rw [List.length_reverse]; have:=kX l.reverse; rw [List.length_reverse] at this; exact this
theorem BC{b:BS}{m:Mn}{x:Bx}{k:AV->Option W->Prop}{fi:Int}{ps:List Int}{wr:Bool}(r:Rb b m)(hn:b.nested=true)(hcv:b.cv=some ps)(hoe:b.objectEnd=some fi)(T:Tb b m)(pe:∀ p∈ps,0<=p/\p<=(out b).length)(pl:ps.length<=6)(o0:0<=fi/\fi<=(out b).length)(hl:(out b).length<=62000)
 (h:∀ z q rows' stand' vt' (t:Int),Pu (out b) b.head z (mx b.minalign 4) 0 q->0 < z.length->z.length<=100->VT vt' rows' stand'->rows'.length<=m.rows.length+1->(∀ v∈stand',0<=v/\v<=(out b).length+z.length)->0<=t->t<=(out b).length+z.length ->
  k (.int t) (some ⟨[q.up { b with nested:=false,cv:=none,vt:=vt' }],some { m.lay (out b) z (mx b.minalign 4) with rows:=rows',stand:=stand' },[x]⟩)):kA O26 843 5 k (.nx,LT0 fi ps) ⟨⟨[b],some m,[x]⟩,wr⟩:=by
 have hd:=@bw 4 (out b).length (by decide)
 have lvt:b.vt.length<=900:=by rw [T.v.e,List.length_map,List.length_zip]; have:=T.vl; lia
 have wp:WvP (out b) b.vt ps fi:=⟨pe,by lia,o0,hl,lvt,λkk v hv=>T.sd v (wY (by rw [<- T.v.e]; exact hv))⟩
 refine kA.seg 4 (s_Ta5 ..▸dk hn ⟨ps,fi,hcv,hoe,r.co,wp,λq p=>r.alQ sz4 (by lia) ⟨out b++zr (pd 4 ((out b).length+0)),⟨rfl,by decide,by rw [List.length_append,aC,Int.add_zero]; lia⟩,?_⟩⟩)
 rw [Int.add_zero]
 have p:Pu (out b) b.head (wvZ (out b) ps fi b.vt) (mx b.minalign 4) 0 q:=p
 generalize hz1:zr (pd 4 (out b).length)=z1
 have lz1:z1.length=pd 4 (out b).length:=by rw [<- hz1,aC]
 obtain⟨m3,hm3⟩:∃ m3:Mn,m3={ m.lay (out b) z1 (mx b.minalign 4) with rear:=(out b++z1++leR (4:Int).toNat 0).map tI }:=⟨_,rfl⟩
 rw [<- hm3]
 have r3:m3.rear=(out b++z1++(leR 4 0++[])).map tI:=by rw [hm3,List.append_nil]; rfl
 have l3:(m3.rear.length:Int)=wvH (out b):=by rw [r3,List.length_map,List.length_append,List.length_append,List.length_append,ay]; unfold wvH; show(((out b).length+z1.length+4:Nat):Int)=_; lia
 have l3':m3.rear.length<=100000:=by unfold wvH at l3; lia
 refine⟨by lia,?_⟩
 show kA _ _ _ _ (.nx,LT1 fi ps (wvH (out b)) (m3.rear.length:Int)) _
 rw [l3]
 refine kA.st (by kernel_rfl) (s_Ta9 ..▸⟨by lia,gU ps _ _ (λp hp=>(pe p hp).1) ?_⟩)
 rw [eA]
 show kA _ _ _ _ (.nx,LT2 fi ps (wvH (out b)) (wvH (out b)) (ps.map (ent (wvH (out b))))) _
 refine kA.st (by kernel_rfl) (Bz ..▸lj ps.length _ (List.length_map ..) (by lia) ?_)
 have ltr:=@BB (ps.map (ent (wvH (out b))))
 rw [List.length_map] at ltr
 refine kA.seg 1 (Bs ..▸⟨by show _+1<=_; lia,?_⟩)
 obtain⟨row,hrow⟩:∃ row,row=eB (ps.map (ent (wvH (out b))))++[wvH (out b)-fi]:=⟨_,rfl⟩
 have hk:kf row=wvK (out b) ps fi:=by rw [hrow,Bw]
 have hne:row≠[]:=by rw [hrow]; simp
 have lrow:row.length=(eB (ps.map (ent (wvH (out b))))).length+1:=by rw [hrow,List.length_append]; rfl
 rw [<- hrow]
 refine x02 (rf (row:=row) T.v.n T.v.ne hne) λv1 v2=>?_
 rw [<- T.v.e,hk] at v1 v2
 have mr:m3.rows=m.rows:=by rw [hm3]; rfl
 have ms:m3.stand=m.stand:=by rw [hm3]; rfl
 have Tvl:=T.vl
 have Tn:=T.v.n
 refine kA.st (by kernel_rfl) (Bu ..▸?_)
 by_cases hin:row∈m.rows
 . refine x12 (v1 hin) λv hv1 hv2=>?_
   have sv:=T.sd v (List.mem_of_getElem? hv1)
   refine dK (by rw [mr,eK.mpr hin]; rfl) ?_
   have ez:wvZ (out b) ps fi b.vt=z1++leR 4 (v-wvH (out b)):=by unfold wvZ; rw [hv2,hz1]
   have et:wvT (out b) ps fi b.vt=b.vt:=by unfold wvT; rw [hv2]
   rw [ez] at p
   have lz:(z1++leR 4 (v-wvH (out b))).length=z1.length+4:=by rw [List.length_append,ay]
   refine wZ (A:=out b++z1) (J:=leR 4 0) (R:=[]) r3 ay (by rw [List.length_append]; unfold wvH; lia) (by rw [<- List.length_map (f:=tI),<- r3]; lia) (by rw [mr]; exact eK.mpr hin) (by rw [mr]; lia) (by rw [ms]; lia) (v:=v) (by rw [mr,ms]; exact hv1) ?_
   have:=h _ q m.rows m.stand b.vt (wvH (out b)) p (by lia) (by lia) T.v (by lia) (λy hy=>by have:=T.sd y hy; lia) (by unfold wvH; lia) (by rw [lz]; unfold wvH; lia)
   rw [hm3,List.append_nil]
   rw [<- et] at this
   unfold Mn.lay at this ⊢
   rw [<- List.append_assoc] at this
   exact this
 . have hv2:=v2 hin
   obtain⟨L,hL⟩:∃ L,L=wvL (out b) ps fi:=⟨_,rfl⟩
   have lK:(wvK (out b) ps fi).length=row.length:=by rw [<- hk,hrow,fZ,List.length_append,List.length_append,List.length_reverse]
   have lK2:(wvK (out b) ps fi).length=(wvD (out b) ps).length+1:=by unfold wvK; rw [List.length_append]; rfl
   have eL:row.dropLast.reverse++[wvH (out b)-fi,2*(row.length:Int)+2]=L:=by
    have hkr:=hk
    rw [hrow,fZ] at hkr
    rw [hL]; unfold wvL
    have hdl:row.dropLast=eB (ps.map (ent (wvH (out b)))):=by rw [hrow,List.dropLast_concat]
    rw [<- hkr,show((wvD (out b) ps).length:Int)+1=row.length by lia,hdl,List.append_assoc]
    rfl
   have lL:L.length=row.length+1:=by rw [hL]; unfold wvL; rw [List.length_append,lK]; rfl
   have hx0:dT m3.rows row=false:=by rw [mr]; exact Bool.eq_false_iff.mpr λe=>hin (eK.mp e)
   have lf:=ey L
   have l30:(out b++z1++(leR 4 0++[])).length=m3.rear.length:=by rw [r3,List.length_map]
   refine dk (by rw [hx0]; rfl) ⟨⟨rfl,by lia⟩,by rw [List.length_dropLast]; lia,by lia,by rw [List.length_reverse,List.length_dropLast]; show _+2<=_; lia,?_⟩
   rw [eL]
   refine ll L (out b++z1++(leR 4 0++[])) m3 _ r3 (by lia) λwr'=>?_
   rw [List.append_nil,List.append_assoc (out b++z1),<- yC]
   have lrr:((out b++z1++(leR 4 0++L.flatMap (leR 2))).map tI).length=m3.rear.length+2*L.length:=by
    rw [<- l30,List.append_nil,List.length_map,List.length_append,List.length_append (as:=leR 4 0),lf,List.length_append (as:=out b++z1)]; lia
   have fx:(m.rows++[row]).findIdx (λy=>decide (y=row))=m.rows.length:=by
    rw [List.findIdx_append]
    rw [show m.rows.findIdx (λy=>decide (y=row))=m.rows.length from List.findIdx_eq_length.mpr λy hy=>decide_eq_false λe=>hin (e▸hy)]
    simp
   refine⟨by rw [mr]; lia,by show(List.map tI _).length<=_; lia,by rw [ms]; lia,?_⟩
   have ez:wvZ (out b) ps fi b.vt=z1++(leR 4 (2*L.length)++L.flatMap (leR 2)):=by unfold wvZ; rw [hv2,hz1,hL]
   have et:wvT (out b) ps fi b.vt=b.vt++[(kf row,wvH (out b)+2*L.length)]:=by unfold wvT; rw [hv2,hL,hk]
   rw [ez] at p
   have lz:(z1++(leR 4 (2*L.length)++L.flatMap (leR 2))).length=z1.length+4+2*L.length:=by rw [List.length_append,List.length_append,ay,lf]; lia
   refine wZ (A:=out b++z1) (J:=leR 4 0) (R:=L.flatMap (leR 2)) rfl ay (by rw [List.length_append]; unfold wvH; lia) (by rw [<- List.length_map (f:=tI),lrr]; lia) (by show dT (m3.rows++[row]) row=true; exact eK.mpr (List.mem_append_right _ (.head _))) (by show(m3.rows++[row]).length<=_; rw [List.length_append,mr]; show _+1<=_; lia) (by show(m3.stand++[_]).length<=_; rw [List.length_append,ms]; show _+1<=_; lia) (v:=wvH (out b)+2*L.length) ?_ ?_
   . show(m3.stand++[(((List.map tI _).length:Nat):Int)])[(m3.rows++[row]).findIdx λy=>decide (y=row)]?=_
     rw [mr,fx,Tn,ms,List.getElem?_append_right (Nat.le_refl _),Nat.sub_self,lrr]
     show some (((m3.rear.length+2*L.length:Nat)):Int)=_
     rw [<- l3]; push_cast; rfl
   . have:=h _ q (m.rows++[row]) (m.stand++[wvH (out b)+2*L.length]) (b.vt++[(kf row,wvH (out b)+2*L.length)]) (wvH (out b)) p (by lia) (by lia) ⟨?_,?_,?_⟩ (by rw [List.length_append]; exact Nat.le_refl _) (λy hy=>?_) (by unfold wvH; lia) (by rw [lz]; unfold wvH; lia)
     . have e9:(((out b++z1++(leR 4 0++L.flatMap (leR 2))).map tI).length:Int)=wvH (out b)+2*L.length:=by rw [lrr]; push_cast; lia
       rw [<- et,show 2*(L.length:Int)=wvH (out b)+2*L.length-wvH (out b) by lia] at this
       rw [e9,hm3]
       unfold Mn.lay at this ⊢
       rw [<- List.append_assoc] at this
       have e0:wvH (out b)+2*(L.length:Int)-wvH (out b)=2*L.length:=by lia
       rw [e0] at this ⊢
       exact this
     . rw [List.zip_append T.v.n,List.map_append,<- T.v.e]; rfl
     . rw [List.length_append,List.length_append,T.v.n]; rfl
     . intro y hy
       rcases List.mem_append.mp hy with hy | hy
       . exact T.v.ne y hy
       . rw [List.mem_singleton.mp hy]; exact hne
     . rcases List.mem_append.mp hy with hy | hy
       . have:=T.sd y hy; omega
       . rw [List.mem_singleton.mp hy,lz]; unfold wvH; lia
end
end
section
open PySem PySem.W PyProof.Rows PySem.Calls
section
noncomputable def taB(b:BS)(m:Mn)(x:Bx)(F:Int->BS->Mn->Bx->Prop):Prop:=TbP b m x/\∀ z a q x' rows' stand' vt' (t:Int) oe',Pu (out b) b.head z a 0 q->sz a->4<=a->0 < z.length->z.length<=2000->bj x'->VT vt' rows' stand'->rows'.length<=m.rows.length+1->(∀ v∈stand',0<=v/\v<=(out b).length+z.length)->0<=t->t<=(out b).length+z.length ->
 F t (q.up { b with nested:=false,cv:=none,objectEnd:=oe',vt:=vt' }) { m.lay (out b) z a with rows:=rows',stand:=stand' } x'
noncomputable def taS:LK:=λb m x K=>taB b m x λv=>K (.int v)
noncomputable def taA(as:List AV):LK:=λb m x K=>a0 as (taS b m x K)
theorem BD:∀ vs w k,lsp taA vs w k->ak O26 843 vs w k:=tf λb m x k=>a0K λh=>by
 refine x02 h λP h=>?_
 have hl:=P.l
 refine By b m x k P λfi ps z a q x' wr' p sa lz hx' pl pe efi=>?_
 have ob:out (q.up { b with cv:=some ps,objectEnd:=some fi,nested:=true })=out b++z:=p.out
 have lo:(out (q.up { b with cv:=some ps,objectEnd:=some fi,nested:=true })).length=(out b).length+z.length:=by rw [ob,List.length_append]
 refine BC (P.r.lay p sa) rfl rfl rfl ⟨P.t.v,P.t.vl,λv hv=>by have:=P.t.sd v hv; rw [lo]; lia⟩ (λy hy=>by have:=pe y hy; rw [lo]; lia) pl (by rw [lo]; lia) (by rw [lo]; lia) λz' q' rows' stand' vt' t p' z0 z1 hv hr hs t0 t1=>?_
 rw [lo] at hs t1
 have am:(q.up { b with cv:=some ps,objectEnd:=some fi,nested:=true }).minalign=a:=p.a
 rw [am] at p' ⊢
 have:=h (z++z') (mx a 4) q' x' rows' stand' vt' t (some fi) (p.trans p') (fX sa sz4) (by unfold mx; split <;> lia) (by rw [List.length_append]; lia) (by rw [List.length_append]; lia) hx' hv hr (λv hv=>by have:=hs v hv; rw [List.length_append]; lia) t0 (by rw [List.length_append]; lia)
 rw [ob,Mn.lay2]
 exact this
noncomputable def O27:Om:=bg 843 (lsp taA) O26
theorem ok27:ΩOk 30 O27:=ok26.addR BD
end
end
section
open PySem PySem.W PyProof.Rows PySem.Calls
section
theorem t_sh0(b:BS)(m:Option Mn)(x:List Bx)(t:Str)(k:AV->Option W->Prop) :
 ((∀ c∈(t).cps.toList,Str.isSurrogate c=false)/\(ocQ 1 (cr t) ({ b with ss:=some ([]:List (Str×Int)) }) λq1=>(([]:List (Str×Int)).length<=1000)/\k (.int ((q1.x.length:Int)-q1.h)) (some (W.mk [(q1.up ({ b with ss:=some (fH t ((q1.x.length:Int)-q1.h) ([]:List (Str×Int))),nested:=false,vecN:=some none }))] m x)))) =
 ak O27 449 [.key (.bld 0),.str t] (W.mk [{ b with ss:=none }] m x) k:=by kernel_rfl
theorem t_sh1(b:BS)(m:Option Mn)(x:List Bx)(l:List (Str×Int))(t:Str)(k:AV->Option W->Prop) :
 ((l.length<=1000)/\cnd (!l.isEmpty) (cnd ((bG t l).isSome) (((bG t l).isSome=true)/\k (.int ((bG t l).getD 0)) none) ((∀ c∈(t).cps.toList,Str.isSurrogate c=false)/\(ocQ 1 (cr t) ({ b with ss:=some l }) λq1=>(l.length<=1000)/\k (.int ((q1.x.length:Int)-q1.h)) (some (W.mk [(q1.up ({ b with ss:=some (fH t ((q1.x.length:Int)-q1.h) l),nested:=false,vecN:=some none }))] m x))))) ((∀ c∈(t).cps.toList,Str.isSurrogate c=false)/\(ocQ 1 (cr t) ({ b with ss:=some ([]:List (Str×Int)) }) λq1=>(([]:List (Str×Int)).length<=1000)/\k (.int ((q1.x.length:Int)-q1.h)) (some (W.mk [(q1.up ({ b with ss:=some (fH t ((q1.x.length:Int)-q1.h) ([]:List (Str×Int))),nested:=false,vecN:=some none }))] m x))))) =
 ak O27 449 [.key (.bld 0),.str t] (W.mk [{ b with ss:=some l }] m x) k:=by kernel_rfl
noncomputable def shB(t:Str)(b:BS)(F:Int->BS->Prop):Prop:=∃ l,(b.ss=some l\/b.ss=none/\l=[])/\l.length<=900/\(∀ c∈t.cps.toList,Str.isSurrogate c=false)/\cnd (bG t l).isSome (F ((bG t l).getD 0) b) (ocQ 1 (cr t) b λq=>F (q.x.length-q.h) (q.up { b with nested:=false,vecN:=some none,ss:=some (fH t (q.x.length-q.h) l) }))
noncomputable def shA(as:List AV)(b:BS)(K:AV->BS->Prop):Prop:=aV vS as λt as=>a0 as (shB t b λv=>K (.int v))
theorem yE{t:Str}{b:BS}{m:Option Mn}{x:List Bx}{k:AV->Option W->Prop}(h:shB t b λv b'=>k (.int v) (some ⟨[b'],m,x⟩)):ak O27 449 [.key (.bld 0),.str t] ⟨[b],m,x⟩ (wrK ⟨[b],m,x⟩ k):=by
 refine x14 h λl hs hl ht h=>?_
 rcases hs with hs | ⟨hs,rfl⟩
 . obtain⟨b,rfl⟩:∃ b':BS,b={ b' with ss:=some l }:=⟨b,by rw [<- hs]⟩
   rw [<- t_sh1]
   refine⟨by lia,fV (λe=>?_) λe=>?_⟩
   . cases c:(bG t l).isSome <;> rw [c] at h
     . exact⟨ht,h.1,λq p=>⟨by lia,h.2 q p⟩⟩
     . exact⟨rfl,h⟩
   . obtain rfl:l=[]:=by cases l; rfl; cases e
     exact⟨ht,h.1,λq p=>⟨by decide,h.2 q p⟩⟩
 . obtain⟨b,rfl⟩:∃ b':BS,b={ b' with ss:=none }:=⟨b,by rw [<- hs]⟩
   rw [<- t_sh0]
   exact⟨ht,h.1,λq p=>⟨by decide,h.2 q p⟩⟩
theorem sh_ok:∀ vs w k,bsp shA vs w k->ak O27 449 vs w (wrK w k):=fw λb m x k=>aEK .str (λ_1 _2=>vS_e) λt=>a0K yE
noncomputable def O28:Om:=bg 449 (bsp shA) O27
theorem ok28:ΩOk 31 O28:=ok27.add sh_ok
noncomputable abbrev omE(l:List Int)(z:Int)(m:Mn)(f:Mn->Prop):Prop:=∃ p n,l=p.map tI/\z=((n:Nat):Int)/\omQ p n m f
noncomputable def LG1(h:Int):Loc:=⟨[(S "builder",.v (.key (.bld 0))),(S "mine",.v (.key .mine)),(S "box",.v (.key (.box 0))),(S "pick",.v (.int h))],scF 850⟩
theorem r_Th(b:BS)(m:Mn)(x:Bx)(k:AV->Option W->Prop):kA O28 850 0 k (.nx,⟨[(S "builder",.v (.key (.bld 0))),(S "mine",.v (.key .mine)),(S "box",.v (.key (.box 0)))],scF 850⟩) ⟨W.mk [b] (some m) [x],false⟩=ak O28 850 [.key (.bld 0),.key .mine,.key (.box 0)] (W.mk [b] (some m) [x]) k:=fA (by kernel_rfl)
theorem s_Th0(b:BS)(m:Mn)(x:Bx)(wr:Bool)(K:Fl×Loc->G->Prop):((taQ (6:Int) x λi1 x2=>K (.nx,(LG1 i1)) ⟨W.mk [b] (some m) [x2],true⟩))=evS (ev O28 60) (((aJ 850).drop 0).take 1) ⟨[(S "builder",.v (.key (.bld 0))),(S "mine",.v (.key .mine)),(S "box",.v (.key (.box 0)))],scF 850⟩ ⟨W.mk [b] (some m) [x],wr⟩ K:=by kernel_rfl
theorem s_Th1(b:BS)(m:Mn)(x:Bx)(h:Int)(wr:Bool)(K:Fl×Loc->G->Prop):(cnd (decide (h=(5:Int))) (taB b m x λv1 b2 m3 x4=>(m3.made.length<=16777215)/\K (.rt (.bool true),⟨[(S "builder",.v (.key (.bld 0))),(S "mine",.v (.key .mine)),(S "box",.v (.key (.box 0))),(S "pick",.v (.int h)),(S "told",.v (.int v1))],scF 850⟩) ⟨W.mk [b2] (some ({ m3 with made:=(m3.made++[v1]) })) [x4],true⟩) (K (.nx,(LG1 h)) ⟨W.mk [b] (some m) [x],wr⟩))=evS (ev O28 60) (((aJ 850).drop 1).take 1) (LG1 h) ⟨W.mk [b] (some m) [x],wr⟩ K:=by kernel_rfl
theorem z_Th2(b:BS)(m:Mn)(x:Bx)(h:Int)(wr:Bool)(k:AV->Option W->Prop):(cnd (decide (h=(4:Int))) (ofB b m x λv1 b2 m3 x4=>(m3.made.length<=16777215)/\(m3.rear.length<=16777216)/\k (.bool (decide (v1=(m3.rear.length:Int)))) (some (W.mk [b2] (some ({ m3 with made:=(m3.made++[v1]) })) [x4]))) (cnd (decide (h=(3:Int))) (luB b m x λv1 b2 m3 x4=>(m3.made.length<=16777215)/\(m3.rear.length<=16777216)/\k (.bool (decide (v1=(m3.rear.length:Int)))) (some (W.mk [b2] (some ({ m3 with made:=(m3.made++[v1]) })) [x4]))) (txQ x λt1 p2 x3=>cnd (decide (h=(2:Int))) (((∀ q_∈(p2.map tI),0<=q_/\q_ < 256)/\(p2.map tI).length<=16777216)/\(ocQ 0 ((p2.map tI).map fa) b λq4=>(omE (p2.map tI) (0:Int) m λm5=>(m5.made.length<=16777215)/\(m5.rear.length<=16777216)/\k (.bool (decide (((q4.x.length:Int)-q4.h)=(m5.rear.length:Int)))) (some (W.mk [(q4.up ({ b with nested:=false,vecN:=some none }))] (some ({ m5 with made:=(m5.made++[((q4.x.length:Int)-q4.h)]) })) [x3]))))) (cnd (decide (h=(0:Int))) (((p2.map tI).length<=16777216)/\cnd (decide ((((p2.map tI).length:Int).fmod (2:Int))=(0:Int))) ((∀ c∈(t1).cps.toList,Str.isSurrogate c=false)/\(ocQ 1 (cr t1) b λq4=>(omE (p2.map tI) (1:Int) m λm5=>(m5.made.length<=16777215)/\(m5.rear.length<=16777216)/\k (.bool (decide (((q4.x.length:Int)-q4.h)=(m5.rear.length:Int)))) (some (W.mk [(q4.up ({ b with nested:=false,vecN:=some none }))] (some ({ m5 with made:=(m5.made++[((q4.x.length:Int)-q4.h)]) })) [x3]))))) (((∀ q_∈(p2.map tI),0<=q_/\q_ < 256)/\(p2.map tI).length<=16777216)/\(True)/\(ocQ 1 ((p2.map tI).map fa) b λq4=>(omE (p2.map tI) (1:Int) m λm5=>(m5.made.length<=16777215)/\(m5.rear.length<=16777216)/\k (.bool (decide (((q4.x.length:Int)-q4.h)=(m5.rear.length:Int)))) (some (W.mk [(q4.up ({ b with nested:=false,vecN:=some none }))] (some ({ m5 with made:=(m5.made++[((q4.x.length:Int)-q4.h)]) })) [x3])))))) (shB t1 b λv4 b5=>cnd ((bG t1 m.shr).isSome) (((bG t1 m.shr).isSome=true)/\k (.bool (decide (v4=((bG t1 m.shr).getD 0)))) (some (W.mk [b5] (some m) [x3]))) (omE (p2.map tI) (1:Int) m λm6=>(m6.shr.length<=1000)/\(m6.made.length<=16777215)/\(m6.rear.length<=16777216)/\k (.bool (decide (v4=(m6.rear.length:Int)))) (some (W.mk [b5] (some ({ m6 with shr:=(fH t1 (m6.rear.length:Int) m6.shr),made:=(m6.made++[v4]) })) [x3]))))))))=kA O28 850 2 k (.nx,(LG1 h)) ⟨W.mk [b] (some m) [x],wr⟩:=by kernel_rfl
end
end
section
open PySem PySem.W PyProof.Rows PySem.Calls
section
structure Iv(n:Nat)(b:BS)(m:Mn)(x:Bx):Prop where
 r:Rb b m
 hx:bj x
 nn:b.nested=false
 f:b.force=m.forced
 ml:m.made.length<=n
 md:∀ v∈m.made,0<=v/\v<=(out b).length
 v:VT b.vt m.rows m.stand
 vl:m.rows.length<=n
 sd:∀ v∈m.stand,0<=v/\v<=(out b).length
 ss:b.ss=some m.shr\/b.ss=none/\m.shr=[]
 sl:m.shr.length<=n
 l:(out b).length<=3000*n
theorem nN{s:Str}{v:Int}:∀ l:List (Str×Int),(fH s v l).length<=l.length+1
 | []=>Nat.le_refl _
 | p::r=>by
  show(if p.1=s then _ else _:List _).length<=_
  split
  . exact Nat.le_succ _
  . exact Nat.succ_le_succ (nN r)
theorem Iv.go{n:Nat}{b b0:BS}{m:Mn}{x x':Bx}{z:List UInt8}{a v:Int}{q:Bm}{rows:List (List Int)}{stand:List Int}{shr:List (Str×Int)}(I:Iv n b m x)(p:Pu (out b) b.head z a 0 q)(sa:sz a)(lz:z.length<=3000)(hx:bj x')(hn:b0.nested=false)(hf:b0.force=b.force)(hv:VT b0.vt rows stand)(vl:rows.length<=n+1)(sd:∀ v∈stand,0<=v/\v<=(out b).length+z.length)(h0:0<=v)(h1:v<=(out b).length+z.length)
 (ss:b0.ss=some shr\/b0.ss=none/\shr=[]) (sl:shr.length<=n+1):Iv (n+1) (q.up b0) { m.lay (out b) z a with rows:=rows,stand:=stand,made:=m.made++[v],shr:=shr } x':=by
 have lo:(out (q.up b0)).length=(out b).length+z.length:=(congrArg List.length p.out).trans (List.length_append ..)
 have:=I.l
 obtain⟨r1,r2,r3,r4⟩:=I.r.lay (b':=b0) p sa
 refine⟨⟨r1,r2,r3,r4⟩,hx,hn,hf.trans I.f,by have:=I.ml; rw [List.length_append]; exact Nat.succ_le_succ this,λu hu=>?_,hv,vl,λu hu=>by have:=sd u hu; lia,ss,sl,by lia⟩
 rcases List.mem_append.mp hu with hu | hu
 . have:=I.md u hu; lia
 . rw [List.mem_singleton.mp hu]; lia
theorem Rb.omE{b:BS}{m:Mn}(r:Rb b m){p:List UInt8}{z:Nat}{f:Mn->Prop}(hl:(Internal.out b).length+p.length<=800000)(hz:z<=1)(h:f (m.lay (Internal.out b) (ocZ (Internal.out b).length p z) (mx b.minalign 4))):Internal.omE (p.map tI) z m f:=⟨p,z,rfl,rfl,Internal.out b,⟨r.rear,hl,hz⟩,by rw [r.al]; exact h⟩
theorem gV{L:Nat}{p:List UInt8}{z:Nat}:(ocZ L p z).length<=8+z+p.length:=by
 have:=@bw 4 (L+(p.length+z:Nat)) (by decide)
 unfold ocZ
 rw [List.length_append,List.length_append,List.length_append,aC,aC,List.length_reverse,ay]; lia
theorem by_tI(p:List UInt8):((∀ q_∈p.map tI,0<=q_/\q_ < 256)/\(p.map tI).map fa=p):=by
 have h:∀ y:UInt8,(0<=tI y/\tI y < 256)/\fa (tI y)=y:=λy=>by
  have:=y.toNat_lt
  unfold tI fa
  exact⟨by lia,by rw [Int.toNat_natCast,UInt8.ofNat_toNat]⟩
 refine⟨λq hq=>?_,?_⟩
 . obtain⟨y,-,rfl⟩:=List.mem_map.mp hq; exact(h y).1
 . rw [List.map_map]; exact(List.map_congr_left λy _1=>(h y).2).trans (List.map_id _)
noncomputable def thB(b:BS)(m:Mn)(x:Bx)(F:BS->Mn->Bx->Prop):Prop:=∃ n,n<=13/\Iv n b m x/\∀ b' m' x',Iv (n+1) b' m' x'->F b' m' x'
noncomputable def thA(as:List AV):LK:=λb m x K=>a0 as (thB b m x λb' m' x'=>K (.bool true) b' m' x')
theorem BE:∀ vs w k,lsp thA vs w k->ak O28 850 vs w k:=tf λb m x k=>a0K λh=>by
 refine x13 h λn hn I k1=>?_
 have hl:=I.l
 have ml:=I.ml
 have vl:=I.vl
 have sl:=I.sl
 have md:tj b m:=⟨by lia,I.md⟩
 rw [<- r_Th]
 refine kA.seg 1 (s_Th0 ..▸⟨⟨I.hx,by decide⟩,λh x1 hx1 h0 h6=>kA.seg 1 (s_Th1 ..▸aW (λe5=>?_) λe5=>?_)⟩)
 . exact⟨⟨I.r,hx1,I.nn,I.f,md,⟨I.v,by lia,I.sd⟩,by lia⟩,λz a q x' rows' stand' vt' t oe' p sa _1 z0 z1 hx' hv hr hs t0 t1=>⟨by show m.made.length<=_; lia,kA.rt rfl (k1 _ _ _ (I.go p sa (by lia) hx' rfl rfl hv (by show rows'.length<=_; lia) hs t0 t1 I.ss (by show m.shr.length<=_; lia)))⟩⟩
 rw [<- z_Th2]
 have LU:luB b m x1 λv1 b2 m3 x4=>(m3.made.length<=16777215)/\(m3.rear.length<=16777216)/\k (.bool (decide (v1=(m3.rear.length:Int)))) (some (W.mk [b2] (some ({ m3 with made:=(m3.made++[v1]) })) [x4])) :=
  ⟨⟨I.r,hx1,I.nn,by lia⟩,λz a q x' p sa lz hx'=>by
   have lr:(m.lay (out b) z a).rear.length=(out b).length+z.length:=by show(List.map tI _).length=_; rw [List.length_map,List.length_append]
   dsimp only
   rw [lr]
   refine⟨by show m.made.length<=_; lia,by lia,?_⟩
   rw [decide_eq_true (by lia)]
   exact k1 _ _ _ (I.go p sa (by lia) hx' rfl rfl I.v (by show m.rows.length<=_; lia) (λu hu=>by have:=I.sd u hu; lia) (by lia) (Int.le_refl _) I.ss (by show m.shr.length<=_; lia))⟩
 refine aW (λ_1=>⟨md,LU⟩) λ_1=>aW (λ_1=>LU) λ_1=>⟨hx1,λt p x3 T hx3=>?_⟩
 have Tl:=T.l
 refine x02 (by_tI p) λy1 y2=>?_
 have lp:(p.map tI).length=p.length:=List.length_map ..
 have oc:∀ z:Nat,z<=1->ocQ z p b λq4=>omE (p.map tI) z m λm5=>(m5.made.length<=16777215)/\(m5.rear.length<=16777216)/\k (.bool (decide (((q4.x.length:Int)-q4.h)=(m5.rear.length:Int)))) (some (W.mk [(q4.up ({ b with nested:=false,vecN:=some none }))] (some ({ m5 with made:=(m5.made++[((q4.x.length:Int)-q4.h)]) })) [x3])):=λz hz =>
  ⟨⟨I.r.co,I.nn,by lia⟩,λq pu=>I.r.omE (by lia) hz (by
   have lz:=@gV (out b).length p z
   have lr:(m.lay (out b) (ocZ (out b).length p z) (mx b.minalign 4)).rear.length=(out b).length+(ocZ (out b).length p z).length:=by show(List.map tI _).length=_; rw [List.length_map,List.length_append]
   have pl:=pu.len
   rw [lr]
   refine⟨by show m.made.length<=_; lia,by lia,?_⟩
   rw [decide_eq_true (by lia)]
   exact k1 _ _ _ (I.go pu (fX I.r.as sz4) (by lia) hx3 rfl rfl I.v (by show m.rows.length<=_; lia) (λu hu=>by have:=I.sd u hu; lia) (by lia) (by lia) I.ss (by show m.shr.length<=_; lia)))⟩
 dsimp only
 rw [lp,y2,T.u]
 refine aW (λ_1=>⟨⟨y1,by lia⟩,oc 0 (by decide)⟩) λ_1=>aW (λ_1=>⟨by lia,aW (λ_1=>⟨T.s,oc 1 (by decide)⟩) λ_1=>⟨⟨y1,by omega⟩,trivial,oc 1 (by decide)⟩⟩) λ_1=>⟨m.shr,I.ss,by lia,T.s,?_⟩
 cases c:(bG t m.shr).isSome
 . refine⟨⟨I.r.co,I.nn,by rw [T.u]; lia⟩,λq pu=>I.r.omE (by lia) (Nat.le_refl _) ?_⟩
   rw [T.u] at pu
   have lz:=@gV (out b).length p 1
   have lr:(m.lay (out b) (ocZ (out b).length p 1) (mx b.minalign 4)).rear.length=(out b).length+(ocZ (out b).length p 1).length:=by show(List.map tI _).length=_; rw [List.length_map,List.length_append]
   have pl:=pu.len
   have pz:=@nN t (q.x.length-q.h) m.shr
   rw [lr,show(((out b).length+(ocZ (out b).length p 1).length:Nat):Int)=q.x.length-q.h by lia]
   refine⟨by show m.shr.length<=_; lia,by show m.made.length<=_; lia,by lia,?_⟩
   rw [decide_eq_true rfl]
   exact k1 _ _ _ (I.go (z:=ocZ (out b).length p 1) pu (fX I.r.as sz4) (by lia) hx3 rfl rfl I.v (by show m.rows.length<=_; lia) (λu hu=>by have:=I.sd u hu; lia) (by lia) (by lia) (.inl rfl) (by show(fH t _ m.shr).length<=_; lia))
 . refine⟨rfl,?_⟩
   rw [decide_eq_true rfl]
   exact k1 _ _ _ ⟨I.r,hx3,I.nn,I.f,by lia,I.md,I.v,by lia,I.sd,I.ss,by lia,by lia⟩
noncomputable def O29:Om:=bg 850 (lsp thA) O28
theorem ok29:ΩOk 32 O29:=ok28.addR BE
end
end
section
open PySem PySem.W PyProof.Rows PySem.Calls
section
theorem t_f0(b:BS)(m:Option Mn)(x:List Bx)(r:Int)(k:AV->Option W->Prop) :
 (cnd (decide ((0:Int)<=r)) (cnd (decide (r<=(4294967295:Int))) (bM b.minalign (4:Int) b λq1=>(uoQ r (q1.up b) λq2=>k (.int q2.h) (some (W.mk [(q2.up ({ b with fin:=true }))] m x)))) False) False) =
 ak O29 507 [.key (.bld 0),.int r,.none] (W.mk [b] m x) k:=by kernel_rfl
theorem t_f1(b:BS)(m:Option Mn)(x:List Bx)(r:Int)(y:List UInt8)(k:AV->Option W->Prop) :
 (cnd (decide ((0:Int)<=r)) (cnd (decide (r<=(4294967295:Int))) (bM b.minalign ((4:Int)+(4:Int)) b λq1=>(bM (4:Int) (4:Int) (q1.up b) λq2=>(y.length=4/\sl (S ">BBBB") ">BBBB"=true)/\(plQ ⟨1,false,false,(0),(255)⟩ ((y.getD 3 0).toNat:Int) (q2.up b) λq3=>(plQ ⟨1,false,false,(0),(255)⟩ ((y.getD 2 0).toNat:Int) (q3.up b) λq4=>(plQ ⟨1,false,false,(0),(255)⟩ ((y.getD 1 0).toNat:Int) (q4.up b) λq5=>(plQ ⟨1,false,false,(0),(255)⟩ ((y.getD 0 0).toNat:Int) (q5.up b) λq6=>(uoQ r (q6.up b) λq7=>k (.int q7.h) (some (W.mk [(q7.up ({ b with fin:=true }))] m x))))))))) False) False) =
 ak O29 507 [.key (.bld 0),.int r,.bytes y] (W.mk [b] m x) k:=by kernel_rfl
theorem t_g0(b:BS)(m:Option Mn)(x:List Bx)(r:Int)(k:AV->Option W->Prop) :
 (cnd (decide ((0:Int)<=r)) (cnd (decide (r<=(4294967295:Int))) (bM b.minalign ((4:Int)+(4:Int)) b λq1=>(uoQ r (q1.up b) λq2=>(q2.x.length<=16777216)/\cnd (decide ((-2147483648:Int)<=((q2.x.length:Int)-q2.h))) (cnd (decide (((q2.x.length:Int)-q2.h)<=(2147483647:Int))) (puQ ⟨4,true,false,(-2147483648),(2147483647)⟩ ((q2.x.length:Int)-q2.h) (q2.up b) λq3=>k (.int q3.h) (some (W.mk [(q3.up ({ b with fin:=true }))] m x))) False) False)) False) False) =
 ak O29 515 [.key (.bld 0),.int r,.none] (W.mk [b] m x) k:=by kernel_rfl
theorem t_g1(b:BS)(m:Option Mn)(x:List Bx)(r:Int)(y:List UInt8)(k:AV->Option W->Prop) :
 (cnd (decide ((0:Int)<=r)) (cnd (decide (r<=(4294967295:Int))) (bM b.minalign (((4:Int)+(4:Int))+(4:Int)) b λq1=>(bM (4:Int) (4:Int) (q1.up b) λq2=>(y.length=4/\sl (S ">BBBB") ">BBBB"=true)/\(plQ ⟨1,false,false,(0),(255)⟩ ((y.getD 3 0).toNat:Int) (q2.up b) λq3=>(plQ ⟨1,false,false,(0),(255)⟩ ((y.getD 2 0).toNat:Int) (q3.up b) λq4=>(plQ ⟨1,false,false,(0),(255)⟩ ((y.getD 1 0).toNat:Int) (q4.up b) λq5=>(plQ ⟨1,false,false,(0),(255)⟩ ((y.getD 0 0).toNat:Int) (q5.up b) λq6=>(uoQ r (q6.up b) λq7=>(q7.x.length<=16777216)/\cnd (decide ((-2147483648:Int)<=((q7.x.length:Int)-q7.h))) (cnd (decide (((q7.x.length:Int)-q7.h)<=(2147483647:Int))) (puQ ⟨4,true,false,(-2147483648),(2147483647)⟩ ((q7.x.length:Int)-q7.h) (q7.up b) λq8=>k (.int q8.h) (some (W.mk [(q8.up ({ b with fin:=true }))] m x))) False) False))))))) False) False) =
 ak O29 515 [.key (.bld 0),.int r,.bytes y] (W.mk [b] m x) k:=by kernel_rfl
theorem t_f2(b:BS)(m:Option Mn)(x:List Bx)(r:Int)(k:AV->Option W->Prop):(ak O29 507 [.key (.bld 0),.int r,.none] (W.mk [b] m x) k,ak O29 515 [.key (.bld 0),.int r,.none] (W.mk [b] m x) k)=(ak O29 507 [.key (.bld 0),.int r] (W.mk [b] m x) k,ak O29 515 [.key (.bld 0),.int r] (W.mk [b] m x) k):=by kernel_rfl
noncomputable def yO:Option (List UInt8)->List UInt8
 | some y=>y.reverse
 | none=>[]
noncomputable def n4:Bool->Int
 | true=>4
 | false=>0
noncomputable def lm(L:Nat)(a r n:Int)(y:List UInt8):List UInt8:=zr (pd a (L+n))++y++uoZ (L+(pd a (L+n)+y.length)) r
noncomputable def w2(L:Nat)(a r:Int)(y:Option (List UInt8))(sd:Bool):List UInt8:=lm L a r (4+n4 y.isSome+n4 sd) (yO y)++(match sd with
 | true=>leR 4 (L+(lm L a r (4+n4 y.isSome+n4 sd) (yO y)).length)
 | false=>[])
theorem pd_4{a L:Int}(hs:sz a)(h:4<=a):(L+pd a L) % 4=0:=by
 have:=@dF a L (by lia)
 rcases hs with rfl | rfl | rfl | rfl | rfl <;> lia
theorem leR1(v:UInt8):leR 1 (v.toNat:Int)=[v]:=by
 have:=v.toNat_lt
 show [UInt8.ofNat (((v.toNat:Int) / 256 ^ 0) % 256).toNat]=[v]
 have e:(((v.toNat:Int) / 256 ^ 0) % 256).toNat=v.toNat:=by lia
 rw [e,UInt8.ofNat_toNat]
variable {o z:List UInt8}{h a r:Int}{q:Bm}{b:BS}{f:Bm->Prop}
theorem rg{v:UInt8}(p:Pu o h z a r q)(hr:1<=r)(k:∀ q',Pu o h (z++[v]) a (r-1) q'->f q'):plQ ⟨1,false,false,(0),(255)⟩ (v.toNat:Int) (q.up b) f:=by
 have:=v.toNat_lt
 have hq:=p.r
 refine⟨⟨p.co,by show((1:Nat):Int)<=q.h; lia,Int.natCast_nonneg _,by show _<=(255:Int); lia⟩,λq' p'=>k q' ((p.trans p').less (by rw [leR1]) p.a (by show _<=q.h-((1:Nat):Int); lia))⟩
theorem fin_y{y:List UInt8}(p:Pu o h z a r q)(hr:4<=r)(hy:y.length=4)(k:∀ q',Pu o h (z++y.reverse) a 0 q'->f q'):plQ ⟨1,false,false,(0),(255)⟩ ((y.getD 3 0).toNat:Int) (q.up b) λq3=>plQ ⟨1,false,false,(0),(255)⟩ ((y.getD 2 0).toNat:Int) (q3.up b) λq4=>plQ ⟨1,false,false,(0),(255)⟩ ((y.getD 1 0).toNat:Int) (q4.up b) λq5=>plQ ⟨1,false,false,(0),(255)⟩ ((y.getD 0 0).toNat:Int) (q5.up b) f:=by
 refine x41 (len4 hy) λc0 c1 c2 c3 e=>?_
 . subst e
   refine rg p (by lia) λq1 p1=>rg p1 (by lia) λq2 p2=>rg p2 (by lia) λq3 p3=>rg p3 (by lia) λq4 p4=>k q4 (p4.less ?_ rfl (by lia))
   simp only [List.append_assoc]; rfl
theorem w3{n:Int}(co:Co b.bytes b.head (out b))(hs:sz b.minalign)(hn:0<=n/\n<=100)(hl:(out b).length<=800000)(k:∀ q,Pu (out b) b.head (zr (pd b.minalign ((out b).length+n))++[]) b.minalign (4+n) q->4<=b.minalign->f q)(h4:4<=b.minalign):bM b.minalign n b f :=
 ⟨⟨co,hs,hn.1,by lia⟩,λq p=>k q (p.less (List.append_nil _).symm (by unfold mx; split <;> rfl) (by lia)) h4⟩
theorem fin_2(p:Pu o h z a r q)(hr:4<=r)(e:(((o.length+z.length:Nat):Int)+4) % 4=0)(ha:4<=a)(hl:o.length+z.length<=800000)(k:∀ q',Pu o h z a 4 q'->f q'):bM 4 4 (q.up b) f:=by
 have lo:(aG q.x q.h).length=o.length+z.length:=by rw [p.out,List.length_append]
 have lo:(out (q.up b)).length=o.length+z.length:=lo
 refine⟨⟨p.co,sz4,by decide,by lia⟩,λq' p'=>k q' ((p.trans p').less ?_ ?_ (by decide))⟩
 . rw [show pd 4 ((out (q.up b)).length+4)=0 from tc (by lia)]; exact List.append_nil _
 . show mx q.a 4=a; rw [p.a]; exact iY ha
theorem fin_3{v:Int}(p:Pu o h z a 0 q)(hv:0<=v)(hv':v<=o.length)(ha:4<=a)(hl:o.length+z.length<=800000)(k:∀ q',Pu o h (z++uoZ (o.length+z.length) v) a 0 q'->f q'):uoQ v (q.up b) f:=by
 have lo:(aG q.x q.h).length=o.length+z.length:=by rw [p.out,List.length_append]
 have lo:(out (q.up b)).length=o.length+z.length:=lo
 refine⟨⟨p.co,by lia,hv,by lia⟩,λq' p'=>k q' ((p.trans p').less (by rw [<- lo]) ?_ (by decide))⟩
 show mx q.a 4=a; rw [p.a]; exact iY ha
theorem zV(p:Pu o h z a 0 q)(e:((o.length+z.length:Nat):Int) % 4=0)(ha:4<=a)(hl:o.length+z.length<=800000)(k:∀ q',Pu o h (z++leR 4 (o.length+z.length)) a 0 q'->f q'):(q.x.length<=16777216)/\cnd (decide ((-2147483648:Int)<=((q.x.length:Int)-q.h))) (cnd (decide (((q.x.length:Int)-q.h)<=(2147483647:Int))) (puQ ⟨4,true,false,(-2147483648),(2147483647)⟩ ((q.x.length:Int)-q.h) (q.up b) f) False) False:=by
 have lo:(aG q.x q.h).length=o.length+z.length:=by rw [p.out,List.length_append]
 have lo:(out (q.up b)).length=o.length+z.length:=lo
 have pl:=p.len
 refine⟨Nat.le_trans p.c.h2 (by decide),aF (by lia) (aF (by lia) ⟨⟨p.co,by lia,by show(-2147483648:Int)<=_; lia,by show _<=(2147483647:Int); lia⟩,λq' p'=>k q' ((p.trans (Pu.al (w:=4) p' (by show((out (q.up b)).length:Int) % 4=0; lia) (by show 4<=q.a; rw [p.a]; exact ha))).less (by rw [pl]) p.a (Int.le_refl _))⟩)⟩
noncomputable abbrev ln(r:Int)(y:Option (List UInt8))(sd:Bool)(b:BS)(f:Bm->Prop):Prop:=(Co b.bytes b.head (out b)/\sz b.minalign/\4<=b.minalign/\(out b).length<=700000/\0<=r/\r<=(out b).length/\∀ u,y=some u->u.length=4)/\∀ q,Pu (out b) b.head (w2 (out b).length b.minalign r y sd) b.minalign 0 q->f q
noncomputable def vNm(a:AV):Option (Option (List UInt8)):=match isNone a with
 | true=>some none
 | false=>(vBy a).map some
theorem vNm_e{a:AV}{y:Option (List UInt8)}(h:vNm a=some y):a=.none/\y=none\/∃ u,a=.bytes u/\y=some u:=by
 unfold vNm at h
 cases z:isNone a <;> rw [z] at h
 . exact(Option.map_eq_some_iff.mp h).elim λx q=>.inr ⟨x,lS q.1,q.2.symm⟩
 . exact .inl ⟨dS z,(Option.some.inj h).symm⟩
noncomputable def one0:List AV->List AV
 | []=>[.none]
 | as=>as
noncomputable def finA(sd:Bool)(as:List AV)(b:BS)(K:AV->BS->Prop):Prop:=aV vI as λr as=>aV vNm (one0 as) λy as'=>a0 as' (ln r y sd b λq=>K (.int q.h) (q.up { b with fin:=true }))
theorem eM{L:Nat}{a r n:Int}{y:List UInt8}(ha:sz a):(zr (pd a (L+n))++y).length=pd a (L+n)+y.length/\(lm L a r n y).length<=y.length+23/\(((L+(lm L a r n y).length:Nat):Int)) % 4=0:=by
 have e:(zr (pd a (L+n))++y).length=pd a (L+n)+y.length:=by rw [List.length_append,aC]
 have h1:=@bw a (L+n) (cy ha).1
 have h2:=(cy ha).2
 have h3:=@bw 4 (L+(pd a (L+n)+y.length):Nat) (by decide)
 have h4:=@dF 4 (L+(pd a (L+n)+y.length):Nat) (by decide)
 have e2:(lm L a r n y).length=pd a (L+n)+y.length+(pd 4 (L+(pd a (L+n)+y.length):Nat)+4):=by unfold lm; rw [List.length_append,e,gS]
 exact⟨e,by lia,by lia⟩
noncomputable def finF:Bool->Nat
 | true=>515
 | false=>507
theorem w4(sd:Bool):∀ vs w k,bsp (finA sd) vs w k->ak O29 (finF sd) vs w k:=fw λb m x k=>aIK λr as h2=>by
 have key:∀{y:List UInt8}{n r:Int}{K:Bm->Prop},Co b.bytes b.head (out b)->sz b.minalign->4<=b.minalign->(out b).length<=700000->0<=r->r<=(out b).length->y.length<=4->(0<=n/\n<=100)->(∀ q,Pu (out b) b.head (lm (out b).length b.minalign r n y) b.minalign 0 q->K q)->∀ q,Pu (out b) b.head (zr (pd b.minalign ((out b).length+n))++y) b.minalign 0 q->uoQ r (q.up b) K:=λ{y n r K} c1 c2 c3 c4 c5 c6 hy hn k q p=>by
  refine x03 (@eM (out b).length b.minalign r n y c2) λe1 e2 e3=>?_
  have:=@bw b.minalign ((out b).length+n) (by lia)
  have:=(cy c2).2
  exact fin_3 p c5 c6 c3 (by rw [e1]; lia) λq' p'=>k q' (p'.less (by unfold lm; rw [e1]) rfl (Int.le_refl _))
 have non:∀ r:Int,(ln r none sd b λq=>k (.int q.h) (some ⟨[q.up { b with fin:=true }],m,x⟩))->ak O29 (finF sd) [.key (.bld 0),.int r,.none] ⟨[b],m,x⟩ k:=λr h1=>by
  obtain⟨⟨c1,c2,c3,c4,c5,c6,c7⟩,h1⟩:=h1
  have hr0:_<=(4294967295:Int):=Int.le_trans c6 (by lia)
  cases sd with
  | false =>
   refine t_f0 ..▸?_
   refine aF c5 (aF hr0 (w3 c1 c2 (by decide) (by lia) (λq p _1=>key c1 c2 c3 c4 c5 c6 (Nat.zero_le _) (by decide) (λq p=>h1 q (p.less (List.append_nil _).symm rfl (Int.le_refl _))) q (p.less rfl rfl (by decide))) c3))
  | true =>
   obtain⟨e1,e2,e3⟩:=@eM (out b).length b.minalign _ 8 [] c2
   refine t_g0 ..▸?_
   refine aF c5 (aF hr0 (w3 c1 c2 (by decide) (by lia) (λq p _1=>key c1 c2 c3 c4 c5 c6 (Nat.zero_le _) (by decide) (λq p=>zV p e3 c3 (by have:([]:List UInt8).length=0:=rfl; lia) λq p=>h1 q p) q (p.less rfl rfl (by decide))) c3))
 refine x33 (aV_e h2) λa y as' e e2 h3=>?_
 refine x02 (a0_e h3) λe104_0 h4=>?_
 subst e104_0
 have tl:as=[a]\/as=[]/\a=.none:=by
  cases as with
  | nil=>exact .inr ⟨rfl,(List.cons.inj e).1.symm⟩
  | cons x r=>exact .inl e
 rcases vNm_e e2 with ⟨rfl,rfl⟩ | ⟨y,rfl,rfl⟩
 . have N:=non _ h4
   rcases tl with rfl | ⟨rfl,-⟩
   . exact N
   . cases sd with
     | false=>exact cast (Prod.mk.inj (t_f2 ..)).1 N
     | true=>exact cast (Prod.mk.inj (t_f2 ..)).2 N
 . obtain rfl:=tl.resolve_right nofun
   obtain⟨⟨c1,c2,c3,c4,c5,c6,c7⟩,h1⟩:=h4
   have hy:=c7 _ rfl
   have hr0:r<=(4294967295:Int):=Int.le_trans c6 (by lia)
   have hy':y.reverse.length=4:=by rw [List.length_reverse]; exact hy
   have two:∀{n:Int}{K:Bm->Prop},(n=8\/n=12)->(∀ q,Pu (out b) b.head (zr (pd b.minalign ((out b).length+n))++y.reverse) b.minalign 0 q->K q)->bM b.minalign n b λq1=>(bM (4:Int) (4:Int) (q1.up b) λq2=>(y.length=4/\sl (S ">BBBB") ">BBBB"=true)/\(plQ ⟨1,false,false,(0),(255)⟩ ((y.getD 3 0).toNat:Int) (q2.up b) λq3=>(plQ ⟨1,false,false,(0),(255)⟩ ((y.getD 2 0).toNat:Int) (q3.up b) λq4=>(plQ ⟨1,false,false,(0),(255)⟩ ((y.getD 1 0).toNat:Int) (q4.up b) λq5=>(plQ ⟨1,false,false,(0),(255)⟩ ((y.getD 0 0).toNat:Int) (q5.up b) K))))):=λ{n K} hn k=>by
    have hp:=@bw b.minalign ((out b).length+n) (by lia)
    have hq:=pd_4 (L:=(out b).length+n) c2 c3
    have h16:=(cy c2).2
    refine w3 c1 c2 (by lia) (by lia) (λq p _1=>fin_2 p (by lia) ?_ c3 ?_ λq2 p2=>⟨⟨hy,by decide⟩,fin_y p2 (by decide) hy λq p=>k q (p.less (by rw [List.append_nil]) rfl (by decide))⟩) c3
    . rw [List.append_nil,aC]; lia
    . rw [List.append_nil,aC]; lia
   cases sd with
   | false =>
    refine t_f1 ..▸?_
    exact aF c5 (aF hr0 (two (.inl rfl) (key c1 c2 c3 c4 c5 c6 (by lia) (by decide) λq p=>h1 q (p.less (List.append_nil _).symm rfl (Int.le_refl _)))))
   | true =>
    refine x03 (@eM (out b).length b.minalign r (4+4+4) y.reverse c2) λe1 e2 e3=>?_
    refine t_g1 ..▸?_
    exact aF c5 (aF hr0 (two (.inr rfl) (key c1 c2 c3 c4 c5 c6 (by lia) (by decide) λq p=>zV p e3 c3 (by lia) λq p=>h1 q p)))
noncomputable def O30:Om:=bg 507 (bsp (finA false)) (bg 515 (bsp (finA true)) O29)
theorem ok30:ΩOk 33 O30:=ok29.add2 (w4 false) (w4 true)
end
end
section
open PySem PySem.W PyProof.Rows PySem.Calls
section
noncomputable def LQ1(r:Int)(i:Int):Loc:=⟨[(S "builder",.v (.key (.bld 0))),(S "mine",.v (.key .mine)),(S "box",.v (.key (.box 0))),(S "root",.v (.int r)),(S "pick",.v (.int i))],scF 855⟩
noncomputable def LQ2(r:Int)(i:Int)(y:AV):Loc:=⟨[(S "builder",.v (.key (.bld 0))),(S "mine",.v (.key .mine)),(S "box",.v (.key (.box 0))),(S "root",.v (.int r)),(S "pick",.v (.int i)),(S "name",.v y)],scF 855⟩
noncomputable def LQ3(r:Int)(i:Int)(y:AV)(s:Bool):Loc:=⟨[(S "builder",.v (.key (.bld 0))),(S "mine",.v (.key .mine)),(S "box",.v (.key (.box 0))),(S "root",.v (.int r)),(S "pick",.v (.int i)),(S "name",.v y),(S "sized",.v (.bool s))],scF 855⟩
theorem r_Fn(b:BS)(m:Mn)(x:Bx)(r:Int)(k:AV->Option W->Prop):kA O30 855 0 k (.nx,⟨[(S "builder",.v (.key (.bld 0))),(S "mine",.v (.key .mine)),(S "box",.v (.key (.box 0))),(S "root",.v (.int r))],scF 855⟩) ⟨W.mk [b] (some m) [x],false⟩=ak O30 855 [.key (.bld 0),.key .mine,.key (.box 0),.int r] (W.mk [b] (some m) [x]) k:=fA (by kernel_rfl)
theorem s_Fn0(b:BS)(m:Mn)(x:Bx)(r:Int)(wr:Bool)(K:Fl×Loc->G->Prop):((taQ (3:Int) x λi1 x2=>K (.nx,(LQ1 r i1)) ⟨W.mk [b] (some m) [x2],true⟩))=evS (ev O30 60) (((aJ 855).drop 0).take 1) ⟨[(S "builder",.v (.key (.bld 0))),(S "mine",.v (.key .mine)),(S "box",.v (.key (.box 0))),(S "root",.v (.int r))],scF 855⟩ ⟨W.mk [b] (some m) [x],wr⟩ K:=by kernel_rfl
theorem s_Fn1(b:BS)(m:Mn)(x:Bx)(r:Int)(i:Int)(wr:Bool)(K:Fl×Loc->G->Prop):(cnd (decide (i=(0:Int))) (K (.nx,(LQ2 r i .none)) ⟨W.mk [b] (some m) [x],wr⟩) (cnd (decide (i=(1:Int))) (K (.nx,(LQ2 r i (.bytes [65,66,67,68]))) ⟨W.mk [b] (some m) [x],wr⟩) (((dM (0:Int) (1:Int) ((4:Int).toNat)).length<=1000000)/\(taQ (256:Int) x λi1 x2=>(taQ (256:Int) x2 λi3 x4=>(taQ (256:Int) x4 λi5 x6=>(taQ (256:Int) x6 λi7 x8=>((∀ q_∈[i1,i3,i5,i7],0<=q_/\q_ < 256)/\[i1,i3,i5,i7].length<=16777216)/\K (.nx,(LQ2 r i (.bytes ([i1,i3,i5,i7].map fa)))) ⟨W.mk [b] (some m) [x8],true⟩)))))))=evS (ev O30 60) (((aJ 855).drop 1).take 1) (LQ1 r i) ⟨W.mk [b] (some m) [x],wr⟩ K:=by kernel_rfl
theorem BF(b:BS)(m:Mn)(x:Bx)(r:Int)(i:Int)(wr:Bool)(K:Fl×Loc->G->Prop):((taQ (2:Int) x λi1 x2=>K (.nx,(LQ3 r i .none (decide (i1=(1:Int))))) ⟨W.mk [b] (some m) [x2],true⟩))=evS (ev O30 60) (((aJ 855).drop 2).take 1) (LQ2 r i .none) ⟨W.mk [b] (some m) [x],wr⟩ K:=by kernel_rfl
theorem yF(b:BS)(m:Mn)(x:Bx)(r:Int)(i:Int)(wr:Bool)(k:AV->Option W->Prop):((ln r none false b λq1=>(alQ m.align (((4:Int)+(0:Int))+(0:Int)) m λm2=>(ofQ r m2 λm3=>k (.int q1.h) (some (W.mk [(q1.up ({ b with fin:=true }))] (some m3) [x]))))))=kA O30 855 3 k (.nx,(LQ3 r i .none false)) ⟨W.mk [b] (some m) [x],wr⟩:=by kernel_rfl
theorem yG(b:BS)(m:Mn)(x:Bx)(r:Int)(i:Int)(wr:Bool)(k:AV->Option W->Prop):((ln r none true b λq1=>(alQ m.align (((4:Int)+(4:Int))+(0:Int)) m λm2=>(ofQ r m2 λm3=>(m3.rear.length<=16777216)/\(wrQ (4:Int) (m3.rear.length:Int) m3 λm4=>k (.int q1.h) (some (W.mk [(q1.up ({ b with fin:=true }))] (some m4) [x])))))))=kA O30 855 3 k (.nx,(LQ3 r i .none true)) ⟨W.mk [b] (some m) [x],wr⟩:=by kernel_rfl
theorem BG(b:BS)(m:Mn)(x:Bx)(r:Int)(i:Int)(y:List UInt8)(wr:Bool)(K:Fl×Loc->G->Prop):((taQ (2:Int) x λi1 x2=>K (.nx,(LQ3 r i (.bytes y) (decide (i1=(1:Int))))) ⟨W.mk [b] (some m) [x2],true⟩))=evS (ev O30 60) (((aJ 855).drop 2).take 1) (LQ2 r i (.bytes y)) ⟨W.mk [b] (some m) [x],wr⟩ K:=by kernel_rfl
theorem yH(b:BS)(m:Mn)(x:Bx)(r:Int)(i:Int)(y:List UInt8)(wr:Bool)(k:AV->Option W->Prop):((ln r (some y) false b λq1=>(alQ m.align (((4:Int)+(0:Int))+(4:Int)) m λm2=>(y.length<=16777216)/\((y.map tI).length<=16777216)/\(wR ((y.map tI).reverse) m2 λm3=>(ofQ r m3 λm4=>k (.int q1.h) (some (W.mk [(q1.up ({ b with fin:=true }))] (some m4) [x])))))))=kA O30 855 3 k (.nx,(LQ3 r i (.bytes y) false)) ⟨W.mk [b] (some m) [x],wr⟩:=by kernel_rfl
theorem yI(b:BS)(m:Mn)(x:Bx)(r:Int)(i:Int)(y:List UInt8)(wr:Bool)(k:AV->Option W->Prop):((ln r (some y) true b λq1=>(alQ m.align (((4:Int)+(4:Int))+(4:Int)) m λm2=>(y.length<=16777216)/\((y.map tI).length<=16777216)/\(wR ((y.map tI).reverse) m2 λm3=>(ofQ r m3 λm4=>(m4.rear.length<=16777216)/\(wrQ (4:Int) (m4.rear.length:Int) m4 λm5=>k (.int q1.h) (some (W.mk [(q1.up ({ b with fin:=true }))] (some m5) [x]))))))))=kA O30 855 3 k (.nx,(LQ3 r i (.bytes y) true)) ⟨W.mk [b] (some m) [x],wr⟩:=by kernel_rfl
section
variable {b:BS}{m m2:Mn}{r n:Int}{y z:List UInt8}{f:Mn->Prop}
theorem lm_a(R:Rb b m)(hl:(out b).length<=100000)(h:f (m.lay (out b) (zr (pd b.minalign ((out b).length+n))++[]) b.minalign)):alQ m.align n m f:=by
 rw [R.al]
 refine R.alQ R.as (by lia) ?_
 rw [List.append_nil] at h
 rw [show mx b.minalign b.minalign=b.minalign by unfold mx; split <;> rfl]; exact h
theorem lm_u(hm:m2=m.lay (out b) (zr (pd b.minalign ((out b).length+n))++y) b.minalign)(R:Rb b m)(h4:4<=b.minalign)(hl:(out b).length<=100000)(hy:y.length<=4)(h:f (m.lay (out b) (lm (out b).length b.minalign r n y) b.minalign)):ofQ r m2 f:=by
 subst hm
 have l:=List.length_append (as:=out b) (bs:=zr (pd b.minalign ((out b).length+n))++y)
 rw [List.length_append (bs:=y),aC] at l
 have:=@bw b.minalign ((out b).length+n) (by lia)
 have:=(cy R.as).2
 refine⟨_,⟨rfl,by lia⟩,?_⟩
 rw [l,List.append_assoc,show mx (m.lay (out b) (zr (pd b.minalign ((out b).length+n))++y) b.minalign).align 4=b.minalign from iY h4]
 exact h
theorem lm_s(hm:m2=m.lay (out b) z b.minalign)(hl:(out b).length+z.length<=100100)(h:f (m.lay (out b) (z++leR 4 ((out b).length+z.length)) b.minalign)):(m2.rear.length<=16777216)/\wrQ (4:Int) (m2.rear.length:Int) m2 f:=by
 subst hm
 have l:(m.lay (out b) z b.minalign).rear.length=(out b).length+z.length:=by show(List.map tI _).length=_; rw [List.length_map,List.length_append]
 rw [l]
 refine⟨by lia,_,⟨rfl,by decide,by rw [List.length_append]; lia⟩,?_⟩
 rw [List.append_assoc]
 exact h
theorem lm_y(R:Rb b m)(hl:(out b).length<=100000)(hy:y.length=4)(h:f (m.lay (out b) (zr (pd b.minalign ((out b).length+n))++y.reverse) b.minalign)):alQ m.align n m λm2=>(y.length<=16777216)/\((y.map tI).length<=16777216)/\wR ((y.map tI).reverse) m2 f:=lm_a R hl (by
 have:=@bw b.minalign ((out b).length+n) (cy R.as).1
 have:=(cy R.as).2
 refine⟨by lia,by rw [List.length_map]; lia,?_,?_⟩
 . show(List.map tI _).length+_<=_
   rw [List.length_map,List.length_reverse,List.length_map,List.append_nil,List.length_append,aC]; lia
 . show f { m.lay _ _ _ with rear:=List.map tI _++_ }
   rw [<- List.map_reverse,<- List.map_append,List.append_nil,List.append_assoc]
   exact h)
end
noncomputable def lfB(r:Int)(b:BS)(m:Mn)(x:Bx)(F:Int->BS->Mn->Bx->Prop):Prop:=(Rb b m/\bj x/\4<=b.minalign/\(out b).length<=100000/\0<=r/\r<=(out b).length)/\∀ z q x',Pu (out b) b.head z b.minalign 0 q->bj x'->z.length<=100->F q.h (q.up { b with fin:=true }) (m.lay (out b) z b.minalign) x'
noncomputable def lfA(as:List AV):LK:=λb m x K=>aV vI as λr as=>a0 as (lfB r b m x λv=>K (.int v))
theorem BH:∀ vs w k,lsp lfA vs w k->ak O30 855 vs w k:=tf λb m x k=>aIK λr=>a0K λh=>by
 obtain⟨⟨R,hx,h4,hl,r0,r1⟩,h1⟩:=h
 have end0:∀{y:Option (List UInt8)}{sd:Bool}{z:List UInt8}{m':Mn}{q:Bm}{x':Bx},(∀ u,y=some u->u.length=4)->w2 (out b).length b.minalign r y sd=z->m'=m.lay (out b) z b.minalign->Pu (out b) b.head (w2 (out b).length b.minalign r y sd) b.minalign 0 q->bj x'->k (.int q.h) (some ⟨[q.up { b with fin:=true }],some m',[x']⟩):=λ{y sd z m' q x'} hy hz hm p hx'=>by
  subst hz hm
  refine h1 _ q x' p hx' ?_
  have e:=(@eM (out b).length b.minalign r (4+n4 y.isSome+n4 sd) (yO y) R.as).2.1
  have:(yO y).length<=4:=by
   cases y with
   | none=>exact Nat.zero_le _
   | some u=>exact Nat.le_of_eq ((List.length_reverse ..).trans (hy u rfl))
  unfold w2
  rw [List.length_append]
  cases sd
  . show _+0<=_; lia
  . show _+(leR _ _).length<=_; rw [ay]; lia
 have pre:∀{y:Option (List UInt8)}{sd:Bool}{f:Bm->Prop},(∀ u,y=some u->u.length=4)->(∀ q,Pu (out b) b.head (w2 (out b).length b.minalign r y sd) b.minalign 0 q->f q)->ln r y sd b f:=λhy k=>⟨⟨R.co,R.as,h4,by lia,r0,r1,hy⟩,k⟩
 have no0:∀ u:List UInt8,none=some u->u.length=4:=λ_1 e=>nomatch e
 have go0:∀ (i:Int) (x':Bx) (wr:Bool),bj x'->kA O30 855 2 k (.nx,LQ2 r i .none) ⟨⟨[b],some m,[x']⟩,wr⟩:=λi x' wr hx'=>kA.seg 1 (BF ..▸⟨⟨hx',by decide⟩,λj x2 hx2 _1 _2=>by
  have go:∀ s:Bool,kA O30 855 3 k (.nx,LQ3 r i .none s) ⟨⟨[b],some m,[x2]⟩,true⟩:=λs=>by
   cases s
   . rw [<- yF]
     exact pre no0 λq p=>lm_a R hl (lm_u rfl R h4 hl (Nat.zero_le _) (end0 (y:=none) (sd:=false) no0 (List.append_nil _) rfl p hx2))
   . rw [<- yG]
     refine pre no0 λq p=>lm_a R hl (lm_u rfl R h4 hl (Nat.zero_le _) (lm_s rfl ?_ (end0 (y:=none) (sd:=true) no0 rfl rfl p hx2)))
     have e:=(@eM (out b).length b.minalign r (4+4+0) [] R.as).2.1
     have:([]:List UInt8).length=0:=rfl
     lia
  exact go _⟩)
 have go1:∀ (i:Int) (y:List UInt8) (x':Bx) (wr:Bool),y.length=4->bj x'->kA O30 855 2 k (.nx,LQ2 r i (.bytes y)) ⟨⟨[b],some m,[x']⟩,wr⟩:=λi y x' wr hy hx'=>kA.seg 1 (BG ..▸⟨⟨hx',by decide⟩,λj x2 hx2 _1 _2=>by
  have hs:∀ u,some y=some u->u.length=4:=λu e=>by cases e; exact hy
  have hr:y.reverse.length<=4:=by rw [List.length_reverse]; lia
  have go:∀ s:Bool,kA O30 855 3 k (.nx,LQ3 r i (.bytes y) s) ⟨⟨[b],some m,[x2]⟩,true⟩:=λs=>by
   cases s
   . rw [<- yH]
     exact pre hs λq p=>lm_y R hl hy (lm_u rfl R h4 hl hr (end0 (y:=some y) (sd:=false) hs (List.append_nil _) rfl p hx2))
   . rw [<- yI]
     refine pre hs λq p=>lm_y R hl hy (lm_u rfl R h4 hl hr (lm_s rfl ?_ (end0 (y:=some y) (sd:=true) hs rfl rfl p hx2)))
     have e:=(@eM (out b).length b.minalign r (4+4+4) y.reverse R.as).2.1
     lia
  exact go _⟩)
 rw [<- r_Fn]
 refine kA.seg 1 (s_Fn0 ..▸⟨⟨hx,by decide⟩,λi x1 hx1 _1 _2=>kA.seg 1 (s_Fn1 ..▸aW (λ_1=>go0 i x1 _ hx1) λ_1=>aW (λ_1=>go1 i _ x1 _ rfl hx1) λ_1=>⟨by decide,⟨hx1,by decide⟩,λi1 x2 hx2 a0 a1=>⟨⟨hx2,by decide⟩,λi2 x3 hx3 b0 b1=>⟨⟨hx3,by decide⟩,λi3 x4 hx4 c0 c1=>⟨⟨hx4,by decide⟩,λi4 x5 hx5 d0 d1=>⟨⟨λu hu=>?_,by show 4<=16777216; decide⟩,go1 i _ x5 _ rfl hx5⟩⟩⟩⟩⟩)⟩)
 simp only [List.mem_cons,List.not_mem_nil,or_false] at hu
 lia
noncomputable def O31:Om:=bg 855 (lsp lfA) O30
theorem ok31:ΩOk 34 O31:=ok30.addR BH
end
end
section
open PySem PySem.W PyProof.Rows PySem.Calls
section
noncomputable def OL:Om:=bg CB (mkSp O31) O31
theorem okL:ΩOk 36 OL:=ok31.make
theorem w5(i:Int)(w:W)(h:0<=i)(h':i<=10000):fU O31 i w:=by
 have key:∀ D,cnd (decide ((0:Int)<=i)) (cnd (decide (i<=(2147483648:Int))) ((0<=i/\i<=16777216)/\(jQ i=jQ i/\(⟨w,false⟩:G)=⟨w,false⟩)) False) False=(oP (fdN dj) λfd=>oP (stmts fd.body) λb=>wE (ev O31 60) ⟨[(iU,.v (.top D)),(nI,.v (.int i))],fd.scope.names⟩ iU b ⟨w,false⟩ λq g=>q=jQ i/\g=⟨w,false⟩):=λD=>by kernel_rfl
 exact λD=>(key D).mp (aF h (aF (by lia) ⟨⟨h,by lia⟩,rfl,rfl⟩))
noncomputable def LL1(xs:List Int):Loc:=⟨[(S "script",.v (.ints xs)),(S "box",.v (.key (.box 0)))],scF 862⟩
noncomputable def LL2(xs:List Int):Loc:=⟨[(S "script",.v (.ints xs)),(S "box",.v (.key (.box 0))),(S "builder",.v (.key (.bld 0)))],scF 862⟩
noncomputable def LL4(xs:List Int):Loc:=⟨[(S "script",.v (.ints xs)),(S "box",.v (.key (.box 0))),(S "builder",.v (.key (.bld 0))),(S "mine",.v (.key .mine))],scF 862⟩
theorem r_La(xs:List Int)(k:AV->Option W->Prop):kA OL 862 0 k (.nx,⟨[(S "script",.v (.ints xs))],scF 862⟩) ⟨W.mk [] none [],false⟩=ak OL 862 [.ints xs] (W.mk [] none []) k:=fA (by kernel_rfl)
theorem s_La0(xs:List Int)(wr:Bool)(K:Fl×Loc->G->Prop):(((63:Int)<=1000000/\xs.length<=16777216)/\K (.nx,(LL1 xs)) ⟨W.mk [] none [(Bx.mk (xs.take (63:Int).toNat) (0:Int))],true⟩)=evS (ev OL 60) (((aJ 862).drop 0).take 1) ⟨[(S "script",.v (.ints xs))],scF 862⟩ ⟨W.mk [] none [],wr⟩ K:=by kernel_rfl
theorem s_La1(xs:List Int)(x:Bx)(wr:Bool)(K:Fl×Loc->G->Prop):((taQ (5:Int) x λi1 x2=>(cS [(0:Int),(1:Int),(7:Int),(64:Int),(200:Int)] i1 λv3=>(fU O31 v3 (W.mk [] none [x2]))/\K (.nx,(LL2 xs)) ⟨W.mk [(ef v3)] none [x2],true⟩)))=evS (ev OL 60) (((aJ 862).drop 1).take 1) (LL1 xs) ⟨W.mk [] none [x],wr⟩ K:=by kernel_rfl
theorem s_La2(xs:List Int)(b:BS)(x:Bx)(wr:Bool)(K:Fl×Loc->G->Prop):((taQ (4:Int) x λi1 x2=>cnd (decide (i1=(1:Int))) (shB (S "a") b λv3 b4=>cnd (b4.nested) False ((-16777216<=(1:Int)/\(1:Int)<=16777216)/\(b4.bytes.length<=16777216)/\(slS ⟨8,true,false,(-9223372036854775808),(9223372036854775807)⟩ (0:Int) (5:Int) (some (0:Int)) ({ b4 with cv:=some (List.replicate (1:Int).toNat ((0:Int):Int)),objectEnd:=some ((b4.bytes.length:Int)-b4.head),nested:=true }) λb5=>cnd (b5.nested) (wvB ({ b5 with nested:=false }) λv6 b7=>(ln v6 none false b7 λq8=>(q8.x.length<=16777216)/\K (.nx,(LL2 xs)) ⟨W.mk [{ b7 with bytes:=q8.x,head:=(q8.x.length:Int),minalign:=(1:Int),fin:=false,cv:=none,objectEnd:=none,vt:=[],nested:=false,force:=false,ss:=none,vecN:=some none }] none [x2],true⟩)) False))) (K (.nx,(LL2 xs)) ⟨W.mk [b] none [x2],true⟩)))=evS (ev OL 60) (((aJ 862).drop 2).take 1) (LL2 xs) ⟨W.mk [b] none [x],wr⟩ K:=by kernel_rfl
theorem s_La3(xs:List Int)(b:BS)(x:Bx)(wr:Bool)(K:Fl×Loc->G->Prop):((jz=jz)/\(taQ (3:Int) x λi1 x2=>K (.nx,(LL4 xs)) ⟨W.mk [{ b with force:=(Mn.mk [] (1:Int) [] [] [] [] (decide (i1=(1:Int)))).forced }] (some (Mn.mk [] (1:Int) [] [] [] [] (decide (i1=(1:Int))))) [x2],true⟩))=evS (ev OL 60) (((aJ 862).drop 3).take 2) (LL2 xs) ⟨W.mk [b] none [x],wr⟩ K:=by kernel_rfl
noncomputable def tu:List AV->Loc->EM (Fl×Loc):=ji (ev OL 59) (S "turn") (fiB (stI 862 5))
theorem w0_La(b:BS)(m:Mn)(x:Bx)(xs:List Int)(v:Int)(wr:Bool)(K:Fl×Loc->G->Prop):(K (.nx,(LL4 xs)) ⟨W.mk [b] (some m) [x],wr⟩)=tu [] (LL4 xs) ⟨W.mk [b] (some m) [x],wr⟩ K:=by kernel_rfl
theorem w1_La(b:BS)(m:Mn)(x:Bx)(xs:List Int)(v:Int)(wr:Bool)(r:List AV)(K:Fl×Loc->G->Prop):((x.items.length<=16777216)/\cnd (decide (x.pos < (x.items.length:Int))) (thB b m x λb1 m2 x3=>tu r (LL4 xs) ⟨W.mk [b1] (some m2) [x3],true⟩ K) (tu r (LL4 xs) ⟨W.mk [b] (some m) [x],wr⟩ K))=tu (.int v::r) (LL4 xs) ⟨W.mk [b] (some m) [x],wr⟩ K:=by kernel_rfl
theorem s_La5(b:BS)(m:Mn)(x:Bx)(xs:List Int)(wr:Bool)(K:Fl×Loc->G->Prop):(tu ((dM (0:Int) (1:Int) ((12:Int).toNat)).map .int) (LL4 xs) ⟨W.mk [b] (some m) [x],wr⟩ K)=(ev OL 60).s (stI 862 5) (LL4 xs) ⟨W.mk [b] (some m) [x],wr⟩ K:=by kernel_rfl
theorem z_La6(b:BS)(m:Mn)(x:Bx)(xs:List Int)(wr:Bool)(k:AV->Option W->Prop):((taB b m x λv1 b2 m3 x4=>(lfB v1 b2 m3 x4 λv5 b6 m7 x8=>cnd (b6.fin) ((0<=b6.head/\b6.head<=b6.bytes.length/\b6.bytes.length<=16777216)/\cnd (!decide (v5=b6.head)) (k (.bool false) (some (W.mk [b6] (some m7) [x8]))) ((b6.bytes.length<=16777216)/\(m7.rear.length<=16777216)/\cnd (!decide (v5=((b6.bytes.length:Int)-(m7.rear.length:Int)))) (k (.bool false) (some (W.mk [b6] (some m7) [x8]))) ((b6.bytes.length<=16777216)/\(m7.rear.length<=16777216)/\cnd (!decide (((b6.bytes.length:Int)-b6.head)=(m7.rear.length:Int))) (k (.bool false) (some (W.mk [b6] (some m7) [x8]))) (((b6.bytes.drop b6.head.toNat).length<=16777216)/\(m7.rear.length<=16777216)/\k (.bool (decide (((b6.bytes.drop b6.head.toNat).map tI)=m7.rear.reverse))) (some (W.mk [b6] (some m7) [x8])))))) False)))=kA OL 862 6 k (.nx,(LL4 xs)) ⟨W.mk [b] (some m) [x],wr⟩:=by kernel_rfl
end
end
section
open PySem PySem.W PyProof.Rows PySem.Calls
section
theorem Iv.up{n:Nat}{b:BS}{m:Mn}{x:Bx}(I:Iv n b m x):Iv (n+1) b m x:=by
 obtain⟨a1,a2,a3,a4,a5,a6,a7,a8,a9,aa,ab,ac⟩:=I
 exact⟨a1,a2,a3,a4,by lia,a6,a7,by lia,a9,aa,by lia,by lia⟩
theorem i8{xs:List Int}{K:Fl×Loc->G->Prop}:∀ (is:List Int) (n:Nat) (b:BS) (m:Mn) (x:Bx) (wr:Bool),n+is.length<=13->Iv n b m x->(∀ b' m' x' wr',Iv (n+is.length) b' m' x'->K (.nx,LL4 xs) ⟨⟨[b'],some m',[x']⟩,wr'⟩)->tu (is.map .int) (LL4 xs) ⟨⟨[b],some m,[x]⟩,wr⟩ K
 | [],n,b,m,x,wr,hn,I,k=>by
  rw [List.map_nil,<- w0_La (v:=0)]; exact k b m x wr I
 | i::is,n,b,m,x,wr,hn,I,k=>by
  have hn:n+(is.length+1)<=13:=hn
  have e:n+(i::is).length=n+1+is.length:=by rw [List.length_cons]; lia
  rw [e] at k
  rw [List.map_cons,<- w1_La]
  exact⟨Nat.le_trans I.hx.l (by decide),aW (λ_1=>⟨n,by lia,I,λb' m' x' I'=>i8 is (n+1) b' m' x' true (by lia) I' k⟩) λ_1=>i8 is (n+1) b m x wr (by lia) I.up k⟩
structure jV(b:BS):Prop where
 h:b.head=b.bytes.length
 l:b.bytes.length<=4000000
 al:b.minalign=1
 nn:b.nested=false
 vt:b.vt=[]
 ss:b.ss=none
theorem jV.out{b:BS}(h:jV b):out b=[]/\Co b.bytes b.head (out b):=by
 have h1:=h.h
 have h2:=h.l
 exact⟨by unfold Internal.out aG; rw [h1,Int.toNat_natCast,List.drop_length]; rfl,by lia,by lia,h2,rfl⟩
theorem pE{i:Int}(h0:0<=i)(h:i<=10000):jV (ef i):=by
 have e:((List.replicate i.toNat (0:UInt8)).length:Int)=i:=by rw [List.length_replicate]; lia
 exact⟨e.symm,by show(List.replicate i.toNat (0:UInt8)).length<=_; lia,rfl,rfl,rfl,rfl⟩
theorem tv{b:BS}(F:jV b){f:BS->Prop}(k:∀ b',jV b'->f b'):shB (S "a") b λv3 b4=>cnd (b4.nested) False ((-16777216<=(1:Int)/\(1:Int)<=16777216)/\(b4.bytes.length<=16777216)/\(slS ⟨8,true,false,(-9223372036854775808),(9223372036854775807)⟩ (0:Int) (5:Int) (some (0:Int)) ({ b4 with cv:=some (List.replicate (1:Int).toNat ((0:Int):Int)),objectEnd:=some ((b4.bytes.length:Int)-b4.head),nested:=true }) λb5=>cnd (b5.nested) (wvB ({ b5 with nested:=false }) λv6 b7=>(ln v6 none false b7 λq8=>(q8.x.length<=16777216)/\f { b7 with bytes:=q8.x,head:=(q8.x.length:Int),minalign:=(1:Int),fin:=false,cv:=none,objectEnd:=none,vt:=[],nested:=false,force:=false,ss:=none,vecN:=some none })) False)):=by
 refine x02 F.out λo0 co=>?_
 have u8:cr (S "a")=[97]:=by kernel_rfl
 have l0:(out b).length=0:=by rw [o0]; rfl
 refine⟨[],.inr ⟨F.ss,rfl⟩,by decide,λc hc=>?_,⟨co,F.nn,by rw [l0,u8]; decide⟩,λq p=>⟨by decide,Nat.le_trans p.c.h2 (by decide),⟨p.co,?_,by decide,by decide,rfl,by decide,λi e=>by cases e; decide⟩,_,rfl,by decide,by decide,nofun,λ_1 q2 p2=>?_⟩⟩
 . rw [show(S "a").cps.toList=[97] by kernel_rfl] at hc
   rw [List.mem_singleton.mp hc]; rfl
 . have:=@gV (out b).length (cr (S "a")) 1
   rw [show out _=_ from p.out,List.length_append,l0]
   rw [l0] at this
   rw [u8] at this ⊢
   exact Nat.le_trans (Nat.add_le_add_left this _) (by decide)
 have lz:=@gV (out b).length (cr (S "a")) 1
 rw [u8] at lz p
 have lz:(ocZ (out b).length [97] 1).length<=10:=lz
 have pl:=p.len
 have lo:(aG q.x q.h).length=(out b).length+(ocZ (out b).length [97] 1).length:=by rw [p.out,List.length_append]
 have p2:Pu (aG q.x q.h) q.h (zr (pd 8 (aG q.x q.h).length)++leR 8 5) (mx q.a 8) 0 q2:=p2
 have hp:=@bw 8 (aG q.x q.h).length (by decide)
 have lo2:(aG q2.x q2.h).length=(aG q.x q.h).length+(pd 8 (aG q.x q.h).length+8):=by rw [p2.out,List.length_append,List.length_append,aC,ay]
 have pl2:=p2.len
 rw [List.length_append,aC,ay] at pl2
 have hq:=@bw 4 (aG q2.x q2.h).length (by decide)
 refine⟨_,_,rfl,rfl,p2.co,⟨λv hv=>?_,by show 1<=100; decide,?_,?_,by show b.vt.length<=_; rw [F.vt]; decide,λkk v hv=>?_⟩,λq3 p3=>?_⟩
 . rw [List.mem_singleton.mp hv]
   show 0<=_/\_<=((aG q2.x q2.h).length:Int); omega
 . show 0<=(q.x.length:Int)-q.h/\(q.x.length:Int)-q.h<=((aG q2.x q2.h).length:Int); lia
 . show(aG q2.x q2.h).length<=_; lia
 . have hv:aN kk b.vt=some v:=hv
   rw [F.vt] at hv; cases hv
 have ha:q.a=4:=by rw [p.a,F.al]; rfl
 have ha2:q2.a=8:=by rw [p2.a,ha]; rfl
 have p3:Pu (aG q2.x q2.h) q2.h (wvZ (aG q2.x q2.h) [q2.x.length-q2.h] (q.x.length-q.h) b.vt) (mx q2.a 4) 0 q3:=p3
 rw [F.vt,ha2] at p3
 have ez:wvZ (aG q2.x q2.h) [q2.x.length-q2.h] (q.x.length-q.h) []=zr (pd 4 (aG q2.x q2.h).length)++(leR 4 (2*(wvL (aG q2.x q2.h) [q2.x.length-q2.h] (q.x.length-q.h)).length)++(wvL (aG q2.x q2.h) [q2.x.length-q2.h] (q.x.length-q.h)).flatMap (leR 2)):=rfl
 have lL:(wvL (aG q2.x q2.h) [q2.x.length-q2.h] (q.x.length-q.h)).length<=3:=by
  have:=kX ([q2.x.length-q2.h].reverse.map (ent (wvH (aG q2.x q2.h))))
  have:(wvD (aG q2.x q2.h) [q2.x.length-q2.h]).length<=1:=this
  unfold wvL wvK
  rw [List.length_append,List.length_append]; show _+1+1<=3; lia
 rw [ez] at p3
 have lo3:=congrArg List.length p3.out
 rw [List.length_append,List.length_append,List.length_append,aC,ay,ey] at lo3
 have hH:wvH (aG q2.x q2.h)=(aG q2.x q2.h).length+pd 4 (aG q2.x q2.h).length+4:=rfl
 refine⟨⟨p3.co,?_,?_,?_,?_,?_,λu e=>nomatch e⟩,λq8 p8=>⟨Nat.le_trans p8.c.h2 (by decide),k _ ⟨rfl,p8.c.h2,rfl,rfl,rfl,rfl⟩⟩⟩
 . show sz q3.a; rw [p3.a]; exact .inr (.inr (.inr (.inl rfl)))
 . show 4<=q3.a; rw [p3.a]; decide
 . show(aG q3.x q3.h).length<=_; lia
 . show 0<=wvH (aG q2.x q2.h); lia
 . show wvH (aG q2.x q2.h)<=((aG q3.x q3.h).length:Int); lia
end
end
section
open PySem PySem.W PyProof.Rows PySem.Calls
section
theorem w6{p:Prop}[Decidable p]{P Q:Prop}(h:p)(h':Q):cnd (!decide p) P Q:=by rw [decide_eq_true h]; exact h'
theorem kdec{p:Prop}[Decidable p]{k:AV->Option W->Prop}{w:Option W}(h:p)(h':k (.bool true) w):k (.bool (decide p)) w:=by rw [decide_eq_true h]; exact h'
theorem w7(xs:List Int)(hl:xs.length<=63)(k:AV->Option W->Prop)(h:∀ w',k (.bool true) (some w')):ak OL 862 [.ints xs] ⟨[],none,[]⟩ k:=by
 have hx0:bj (Bx.mk (xs.take (63:Int).toNat) (0:Int)):=⟨Int.le_refl _,by show(xs.take _).length<=_; rw [List.length_take]; lia⟩
 have next:∀ (b:BS) (x:Bx),jV b->bj x->kA OL 862 3 k (.nx,LL2 xs) ⟨⟨[b],none,[x]⟩,true⟩:=λb x F hx=>by
  refine x02 F.out λo0 co=>?_
  refine kA.seg 2 (s_La3 ..▸⟨rfl,⟨hx,by decide⟩,λt x3 hx3 _1 _2=>kA.st (by kernel_rfl) (s_La5 ..▸i8 (dM 0 1 12) 0 _ _ x3 _ (by decide) ?_ λb m x wr I=>?_)⟩)
  . refine⟨⟨co,?_,F.al.symm,?_⟩,hx3,F.nn,rfl,Nat.le_refl _,λv hv=>(nomatch hv),?_,Nat.le_refl _,λv hv=>(nomatch hv),.inr ⟨F.ss,rfl⟩,Nat.le_refl _,?_⟩
    . show []=(out b).map tI; rw [o0]; rfl
    . show sz b.minalign; rw [F.al]; exact .inl rfl
    . show VT b.vt [] []; rw [F.vt]; exact⟨rfl,rfl,λr hr=>(nomatch hr)⟩
    . show(out b).length<=_; rw [o0]; exact Nat.le_refl _
  . have I:Iv 12 b m x:=I
    have h1:=I.l
    have h2:=I.ml
    have h3:=I.vl
    rw [<- z_La6]
    refine⟨⟨I.r,I.hx,I.nn,I.f,⟨by lia,I.md⟩,⟨I.v,by lia,I.sd⟩,by lia⟩,λz a q x4 rows' stand' vt' t oe' p sa a4 z0 z1 hx4 hv hr hs t0 t1=>?_⟩
    have ob:out (q.up { b with nested:=false,cv:=none,objectEnd:=oe',vt:=vt' })=out b++z:=p.out
    have lo:=congrArg List.length ob
    rw [List.length_append] at lo
    obtain⟨r1,r2,r3,r4⟩:=I.r.lay (b':={ b with nested:=false,cv:=none,objectEnd:=oe',vt:=vt' }) p sa
    refine⟨⟨⟨r1,r2,r3,r4⟩,hx4,by show 4<=q.a; rw [p.a]; exact a4,by lia,t0,by lia⟩,λz' q' x5 p' hx5 lz'=>?_⟩
    generalize q.up { b with nested:=false,cv:=none,objectEnd:=oe',vt:=vt' }=b3 at *
    have pl:=p'.len
    have c1:=p'.c.h0
    have c2:=p'.c.h1
    have c3:=p'.c.h2
    have lr:(({ m.lay (out b) z a with rows:=rows',stand:=stand' }:Mn).lay (out b3) z' b3.minalign).rear.length=(out b3).length+z'.length:=by show(List.map tI _).length=_; rw [List.length_map,List.length_append]
    have eq:(q'.x.drop q'.h.toNat).map tI=(({ m.lay (out b) z a with rows:=rows',stand:=stand' }:Mn).lay (out b3) z' b3.minalign).rear.reverse:=by
     show _=(List.map tI _).reverse
     rw [<- p'.out,<- List.map_reverse]; unfold aG; rw [List.reverse_reverse]
    dsimp only
    rw [lr]
    refine dk rfl ⟨⟨c1,c2,by show q'.x.length<=_; lia⟩,w6 rfl ⟨by show q'.x.length<=_; lia,by lia,w6 (by show q'.h=(q'.x.length:Int)-_; lia) ⟨by show q'.x.length<=_; lia,by lia,w6 (by show(q'.x.length:Int)-q'.h=_; lia) ⟨?_,by lia,?_⟩⟩⟩⟩
    . show(q'.x.drop _).length<=_; rw [List.length_drop]; lia
    . exact kdec (k:=k) eq (h _)
 rw [<- r_La]
 refine kA.seg 1 (s_La0 ..▸⟨⟨by decide,by lia⟩,kA.seg 1 (s_La1 ..▸⟨⟨hx0,by decide⟩,λi x1 hx1 i0 i5=>cS.i i0 (by show i < ((5:Nat):Int); exact i5) (show 5<=16777216 by decide) ?_⟩)⟩)
 have key:∀ v∈[(0:Int),1,7,64,200],0<=v/\v<=10000:=by decide
 refine(Int.eq_ofNat_of_zero_le i0).elim λn e48_1=>?_
 subst e48_1
 have hv:=key _ (fW (n:=n) (by show n < 5; lia))
 have F:=pE hv.1 hv.2
 refine⟨w5 _ _ hv.1 hv.2,kA.seg 1 (s_La2 ..▸⟨⟨hx1,by decide⟩,λj x2 hx2 _1 _2=>aW (λ_1=>tv F λb' F'=>next b' x2 F' hx2) λ_1=>next _ x2 F hx2⟩)⟩
theorem BI:mh w0:=λs hb xs a vs hl la ia=>by
 have nl:∀ q,¬ live (W.mk [] none []) q:=λq=>by
  intro l
  cases q with
  | comp r c =>
   have l:bH (W.mk [] none []) r c (aI c):=l
   cases hc:aI c <;> rw [hc] at l
   . exact xFT l.2
   . exact xFT l
  | _=>exact xFT l
 have gd:aj (W.mk [] none []) ⟨λa=>∃ o,s.heap.get? a=some o,λ_1=>0,s⟩:=⟨hb,λa o e=>⟨o,hb a o e⟩,λ_1 h=>h,λq l=>(nl q l).elim,λq _1 l=>(nl q l).elim,λq l=>(nl q l).elim⟩
 refine x12 la λo ho hr=>?_
 refine x24 (kP okL (vs:=[.ints xs]) (w:=⟨[],none,[]⟩) (k:=λv _1=>v=.bool true) rfl (w7 xs hl _ λ_1=>rfl)) λv o' h1 h2 h3 run=>?_
 subst h1
 refine cq (run π0 _ [.ref a] gd ⟨_,[],rfl,⟨a,vs,rfl,⟨o,ho⟩,⟨o,ho,hr⟩,ia⟩,rfl⟩ callerA _ ⟨by decide,by decide,rfl,rfl,_,rfl⟩ λb σ' z=>?_)
 have p:=z.po
 exact⟨z.rv,λb o e=>p.mv.pres b o e λq l=>(nl q l).elim,p.mv.gens,p.mv.os⟩
end
end
section
open PySem PySem.W PyProof.Rows PySem.Calls
open Sem (wp)
section
theorem zW{b:Nat}{o:Obj}:∀{l:List Obj}{i:Nat},(kL i l).lookup b=some o->o.isFreed=false/\i<=b/\l[b-i]?=some o
 | [],i,e=>nomatch e
 | x::r,i,e=>by
  have up:(kL (i+1) r).lookup b=some o->o.isFreed=false/\i<=b/\(x::r)[b-i]?=some o:=λe=>by
   refine x03 (zW e) λh1 h2 h3=>?_
   exact⟨h1,by lia,by rw [show b-i=(b-(i+1))+1 by lia]; exact h3⟩
  unfold kL at e
  cases z:x.isFreed <;> rw [z] at e
  . dsimp only at e
    rw [List.lookup_cons] at e
    cases q:b==i <;> rw [q] at e
    . exact up e
    . cases e
      have:=beq_iff_eq.mp q
      subst this
      exact⟨z,Nat.le_refl _,by rw [Nat.sub_self]; rfl⟩
  . exact up e
theorem BJ{h:Heap}{b:Addr}{o:Obj}(e:h.objs.toList[b]?=some o)(z:o.isFreed=false):h.get? b=some o:=by
 rw [Array.getElem?_toList] at e
 unfold Heap.get?
 rw [e]
 obtain⟨c,d,data,sl⟩:=o
 cases data <;> first | rfl | cases z
theorem KP_in{P:Params}{h:Heap}(k:∀ b o,(h1 P).get? b=some o->h.get? b=some o):(KP P).In h:=λb o e=>by
 refine x03 (zW e) λz _1 e=>?_
 exact k b o (BJ e z)
theorem nP:tL ⟨.builtin "claim.caller" {},none,none,[],none⟩:=⟨by kernel_rfl,λx h=>nomatch h⟩
theorem yJ{prog:Program}{w:World}{t:Sem Fin}{s:Shared}{P:Value->Shared->Prop}(hz:s.asleep)
 (h:wpC (model prog w) callerA t (λfin s'=>∃ v,fin=.done (.ret v)/\P v s'/\s'.gens=#[]) (λ_1 _2=>False) s) :
 ∃ n v s' s'',schedN (denote table) prog w n (.single s ⟨t,.builtin "claim.caller" {},default,[]⟩)=.halted (.done (.ret v)) s'/\s'.heap.life=s.heap.life/\s'.forget=s''.forget/\P v s'':=by
 have h':wp (model prog w) ⟨.builtin "claim.caller" {},none,none,[],none⟩ t (Sem.finPost (model prog w) ⟨.builtin "claim.caller" {},none,none,[],none⟩ λr s'=>(∃ v,r=.ok (.ret v)/\P v s')/\leftWithCleanup s'.gens=false)
  (λe _1 s'=>(∃ v,(Except.error e:Result)=.ok (.ret v)/\P v s')/\leftWithCleanup s'.gens=false) default s:=by
  refine Sem.wp_mono _ _ t (λfin p s' x=>?_) (λ_1 _2 _3 x=>x.elim) _ _ (h.run _ default caller_in nP)
  refine x13 x λv e44_1 x1 x2=>?_
  clear x
  subst e44_1
  exact⟨⟨v,rfl,x1⟩,by rw [x2]; simp [leftWithCleanup]⟩
 obtain⟨n,r,s₁,s₂,hs,hn,hf,v,rfl,hP⟩:=wp_halts_full (M:=model prog w) (R:=λr s'=>∃ v,r=.ok (.ret v)/\P v s') hz h'
 exact⟨n,v,s₂,s₁,hs,runN_life _ _ _ hn,hf,hP⟩
theorem yK{x:WData}(h:WShape.has [] x .int=true):∃ i,x=.int i:=by
 cases x <;> first | exact⟨_,rfl⟩ | exact(Bool.false_ne_true h).elim
theorem w8{x:WData}(h:WShape.has [] x (.list .int)=true):∃ l,x=.list l/\WShape.hasItems [] l .int=true:=by
 cases x <;> first | exact⟨_,rfl,(Bool.or_false _).symm.trans h⟩ | exact(Bool.false_ne_true h).elim
theorem ja:∀{l:List WData},WShape.hasItems [] l .int=true->∃ is:List Int,l=is.map .int
 | [],_1=>⟨[],rfl⟩
 | x::r,h=>(yK (Bool.and_eq_true_iff.mp h).1).elim λi e=>(ja (Bool.and_eq_true_iff.mp h).2).elim λis e'=>⟨i::is,by rw [e,e']; rfl⟩
theorem BL{args:List WData}(h:rw0.row.toRowW.claim.pre args=true):∃ is:List Int,args=[.list (is.map .int)]/\is.length<=63:=by
 refine x02 (Bool.and_eq_true_iff.mp h) λh1 h2=>?_
 have h1:WShape.hasAll [] args [.list .int]=true:=h1
 obtain⟨x,r,rfl⟩:∃ x r,args=x::r:=by
  cases args with
  | nil=>exact(Bool.false_ne_true h1).elim
  | cons x r=>exact⟨x,r,rfl⟩
 refine x02 (Bool.and_eq_true_iff.mp (show(WShape.has [] x (.list .int)&&WShape.hasAll [] r [])=true from h1)) λh3 h4=>?_
 obtain rfl:r=[]:=by
  cases r with
  | nil=>rfl
  | cons y r=>exact(Bool.false_ne_true h4).elim
 refine x12 (w8 h3) λl e68_1 h5=>?_
 subst e68_1
 refine(ja h5).elim λis e69_1=>?_
 subst e69_1
 refine⟨is,rfl,?_⟩
 have h2:WTm.holds [] (.and (.not (.lt (.lit (.int 63)) (.len (.arg 0)))) (.lit (.bool true))) { args:=[.list (is.map .int)] }=true:=h2
 rcases Nat.lt_or_ge 63 is.length with hlt | hge
 . have e:WTm.value [] (.lt (.lit (.int 63)) (.len (.arg 0))) { args:=[.list (is.map .int)] }=some (.bool true):=by
    show some (WData.bool (decide ((63:Int) < ((is.map WData.int).length:Nat))))=_
    rw [List.length_map,decide_eq_true (by lia)]
   unfold WTm.holds WTm.value at h2
   unfold WTm.value at h2
   rw [e] at h2
   cases h2
 . exact hge
theorem jb:∀ is:List Int,ofPys (is.map .int)=is.map .int
 | []=>rfl
 | i::is=>congrArg (_::·) (jb is)
theorem tw{cl:Str->Option Addr}{h:Heap}{is:List Int}{vs:List Value}{as:List Addr}(r:ReadsAllW [] cl h vs [.list (is.map .int)] as):∃ (a:Addr) (arr:List Value),vs=[.ref a]/\h.IsList a arr.toArray/\IntsAre arr is:=by
 rw [<- jb] at r
 cases readsAll_of_readsAllW [.list (is.map .int)] r with
 | cons r1 r2 =>
  cases r2
  obtain⟨l,o,its,n,rfl,-,h1,h2,h3,h4⟩:=reads_ints_open r1
  exact⟨l,its.toList,rfl,⟨o,h1,h2,n,h3⟩,h4⟩
theorem w9{w:World}{s:Shared}{mg:Str->Option Value}{a:Addr}{arr:List Value}{is:List Int}(base:(KP w.params).In s.heap)(hl:is.length<=63)(la:s.heap.IsList a arr.toArray)(ia:IntsAre arr is)(ns:s.heap.Ns mainGlobals mg)(hm:mg (Str.ofString "law")=some (.ref 862))(hz:s.asleep)(hg:s.gens=#[]) :
 ∃ n s',schedN (denote table) pw w n (.single s ⟨(do match <- nsGet mainNs (Str.ofString "law") with
  | some f=>do ret (<- PySem.call f [.ref a])
  | none=>unsupported "claim.caller:no-such-global":Sem PySem.Fin),.builtin "claim.caller" {},default,[]⟩)=.halted (.done (.ret (.bool true))) s'/\s'.heap.life=s.heap.life/\(∀ b o,s.heap.get? b=some o->s'.heap.get? b=some o)/\s'.os=s.os:=by
 have tr:wpC (model pw w) callerA (do match <- nsGet mainNs (Str.ofString "law") with
  | some f=>do ret (<- PySem.call f [.ref a])
  | none=>unsupported "claim.caller:no-such-global":Sem PySem.Fin) (λfin s'=>∃ v',fin=.done (.ret v')/\(v'=.bool true/\(∀ b o,s.heap.get? b=some o->s'.heap.get? b=some o)/\s'.os=s.os)/\s'.gens=#[]) (λ_1 _2=>False) s:=by
  refine ad (.of (wpAny_nsGet ns ?_))
  rw [hm]
  exact ad (ai (every BI w s base is a arr hl la ia) (λv' s' x=>ae ⟨v',rfl,⟨x.1,x.2.1,x.2.2.2⟩,x.2.2.1.trans hg⟩) λ_1 _2 x=>x)
 obtain⟨n,v',s2,s3,hs,hlf,hfo,hv,hk,ho3⟩:=yJ hz tr
 subst hv
 refine x05 (Shared.forget_eq hfo) λeh _1 _2 eo _3=>?_
 exact⟨n,s2,hs,hlf,λb o e=>by rw [eh]; exact hk b o e,eo.trans ho3⟩
theorem BM(w:World):(h1 w.params).nsMap mainGlobals (Str.ofString "law")=some (.ref 862):=by kernel_rfl
theorem okS:chainsOk qv=true/\opensWell rw0.row.prog=true:=Bool.and_eq_true_iff.mp (Bool.and_eq_true_iff.mp okAll).1
theorem BO:rw0.Holds:=holds_law said0 λ_1=>⟨saR,jn,⟨bare0,okS.2,rfl⟩,jn.witness,λw=>by
 have B:=left.behind (XP:=λmg h=>XL qv [] mg h) (λs e=>xl_of s (Bool.and_eq_true_iff.mp e).1) okS.1 w
 refine⟨B.1,λs' hs'=>(B.2 s' hs').elim λs₀ z=>⟨s₀,z.1,z.2.1,z.2.2.elim λs z=>⟨s,z.1,λn hn=>?_,λx hx=>(nomatch hx),λx hx=>(nomatch hx),λargs hpre hlay ord hord=>(BL hpre).elim λis z'=>?_⟩⟩⟩
 . rw [List.mem_singleton.mp hn]
   exact pinned_of_view (d:=lawD) (kwd:=[]) z.2.2.2.1 z.2.2.2.2.1 (by kernel_rfl) (by kernel_rfl) (by kernel_rfl)
 have hgens:s.gens=#[]:=Array.eq_empty_of_size_eq_zero (beq_iff_eq.mp z.2.2.1)
 refine(Option.isSome_iff_exists.mp (layAllW_isSome (P:=w.params) (ord:=ord) z.2.2.2.2.1.has args rw0.row.args s (pre_splitW hpre).1)).elim λq hlaid=>?_
 have hal:=layAllW_rest _ _ _ hlaid
 have keeps:=layAllW_keeps _ _ _ hlaid
 refine(reads_layAllW hord _ _ _ hlaid hlay q.2.heap (λ_1 _2 e=>e)).elim λas y=>(tw (z'.1▸y.1)).elim λa z1=>z1.elim λarr z1=>?_
 refine(w9 (KP_in λb o e=>keeps b o (by rw [z.2.2.2.2.2]; exact e)) z'.2 z1.2.1 z1.2.2 (z.2.2.2.2.1.T.g.imp λo z=>z.imp λes z=>z.imp λep z=>⟨keeps _ _ z.1,z.2⟩) (by rw [z.2.2.2.2.2]; exact BM w) (Shared.asleep_of_life hal.2.2.2 z.2.1) (hal.1.trans hgens)).elim λn k=>k.elim λs2 k=>?_
 exact⟨q.1,q.2,hlaid,n,_,s2,z1.1▸k.1,.inl ⟨.bool true,rfl,λ_1=>rfl,⟨.bool true,_,[],_,.bool true,y.1.keepsK λb o e _1=>k.2.2.1 b o e,by kernel_rfl,λ_1=>⟨List.nodup_nil,λa ha=>(nomatch ha),λa ha=>(nomatch ha)⟩,λ_1 _2=>ident_freeW (r:=rw0.row.toRowW) rfl rfl rfl _ _⟩,λi hi=>(nomatch hi),λb o e _1 _2 _3=>.inl (k.2.2.1 b o e),λi hi=>(nomatch hi)⟩,λ_1 i x hx=>(by rw [hgens] at hx; cases hx),λq=>(nomatch q),congrArg Life.seen (k.2.1.trans hal.2.2.2),Shared.rest_eq (k.2.2.2.trans hal.2.2.1)⟩⟩
end
end
end Internal
theorem PySem.Challenge.cw_ke0008_01_holds : PySem.Challenge.rw_ke0008_01.Holds :=
 Internal.BO
