import PyProof.Rows.All
import Wide.All
import OpenK.AllK
import Wide.FinOn
import PySem.Challenge.RW_ij0131_01
set_option Elab.async false
set_option linter.unusedVariables false
namespace Mine
section
open PySem PySem.W PyProof.Rows
set_option maxRecDepth 100000
set_option maxHeartbeats 80000000
def stmAt (i : Nat) : Stmt := match PySem.Challenge.pw_ij0131_01.main.body[i]? with
  | some s => s
  | none => .Pass ⟨0, 0, 0, 0⟩
def subAt (s : Stmt) (j : Nat) : Stmt := match s with
  | .ClassDef _ _ _ body _ _ _ _ _ _ _ => (match body[j]? with
    | some s => s
    | none => .Pass ⟨0, 0, 0, 0⟩)
  | _ => .Pass ⟨0, 0, 0, 0⟩
def fnAt (s : Stmt) (qual : Str) (dV kV doc pm : Value) (an : Option Addr) (cd ct : Value) : FuncData := match s with
  | .FunctionDef name params body _ _ _ scope _ _ _ =>
    { name := name, qualname := qual, params := params, body := .stmts body, scope := scope, globals := mainGlobals, closure := [], defaults := dV, kwdefaults := kV, doc := doc, pyModule := pm, annotations := an, code := cd, closureTuple := ct, builtins := builtinsNs }
  | _ => default
def o2 (P : Params) : Obj := Obj.mk (Value.none) (none) (Data.dict [(DictEntry.mk (PyData.keyHash P (Str.ofString "\x69mport.loaded._sre")) (Value.str (Str.ofString "\x69mport.loaded._sre") 183) (Value.bool true)), (DictEntry.mk (PyData.keyHash P (Str.ofString "class._frozen_importlib.BuiltinImporter")) (Value.str (Str.ofString "class._frozen_importlib.BuiltinImporter") 185) (Value.ref 14)), (DictEntry.mk (PyData.keyHash P (Str.ofString "watched.\x69mport")) (Value.str (Str.ofString "watched.\x69mport") 206) (Value.ref 18)), (DictEntry.mk (PyData.keyHash P (Str.ofString "class._frozen_importlib.ModuleSpec")) (Value.str (Str.ofString "class._frozen_importlib.ModuleSpec") 216) (Value.ref 22)), (DictEntry.mk (PyData.keyHash P (Str.ofString "sys.modules.booked-epoch")) (Value.str (Str.ofString "sys.modules.booked-epoch") 245) (Value.int (4) 0)), (DictEntry.mk (PyData.keyHash P (Str.ofString "\x69mport.later-laid._sre")) (Value.str (Str.ofString "\x69mport.later-laid._sre") 270) (Value.bool true)), (DictEntry.mk (PyData.keyHash P (Str.ofString "watched.library")) (Value.str (Str.ofString "watched.library") 272) (Value.ref 27)), (DictEntry.mk (PyData.keyHash P (Str.ofString "watched.library-objects")) (Value.str (Str.ofString "watched.library-objects") 0) (Value.str (Str.ofString "\x0c\x1e") 0)), (DictEntry.mk (PyData.keyHash P (Str.ofString "watched.library-deep._sre")) (Value.str (Str.ofString "watched.library-deep._sre") 273) (Value.str (Str.ofString "\x04\x00\x00\x0b\x04\x00\x00\x0b\x04\x00\x00\x03\x04\x00\x00\x0b\x08\x04dict\x02") 0)), (DictEntry.mk (PyData.keyHash P (Str.ofString "\x69mport.loaded._collections")) (Value.str (Str.ofString "\x69mport.loaded._collections") 280) (Value.bool true)), (DictEntry.mk (PyData.keyHash P (Str.ofString "sys.modules.landed._collections")) (Value.str (Str.ofString "sys.modules.landed._collections") 294) (Value.bool true)), (DictEntry.mk (PyData.keyHash P (Str.ofString "\x69mport.later-laid._collections")) (Value.str (Str.ofString "\x69mport.later-laid._collections") 309) (Value.bool true)), (DictEntry.mk (PyData.keyHash P (Str.ofString "watched.library-deep._collections")) (Value.str (Str.ofString "watched.library-deep._collections") 311) (Value.str (Str.ofString "\x04\x00\x00\x1d\x04\x00\x00\x1d\x04\x00\x00\x03\x04\x00\x00\x1d\x08\x04dict\x02") 0)), (DictEntry.mk (PyData.keyHash P (Str.ofString "type.__subclasses__.OSError.0")) (Value.str (Str.ofString "type.__subclasses__.OSError.0") 407) (Value.int (73) 0)), (DictEntry.mk (PyData.keyHash P (Str.ofString "type.__subclasses__.OSError.n")) (Value.str (Str.ofString "type.__subclasses__.OSError.n") 408) (Value.int (1) 0))].toArray 15) [].toArray
def o3 (P : Params) : Obj := Obj.mk (Value.type "dict") (none) (Data.dict [(DictEntry.mk (PyData.keyHash P (Str.ofString "__name__")) (Value.str (Str.ofString "__name__") 165) (Value.str (Str.ofString "law_ij0131_01") 1308)), (DictEntry.mk (PyData.keyHash P (Str.ofString "__doc__")) (Value.str (Str.ofString "__doc__") 166) (Value.none)), (DictEntry.mk (PyData.keyHash P (Str.ofString "__package__")) (Value.str (Str.ofString "__package__") 167) (Value.none)), (DictEntry.mk (PyData.keyHash P (Str.ofString "__loader__")) (Value.str (Str.ofString "__loader__") 168) (Value.builtin "__main__.__loader__#opaque")), (DictEntry.mk (PyData.keyHash P (Str.ofString "__spec__")) (Value.str (Str.ofString "__spec__") 169) (Value.none)), (DictEntry.mk (PyData.keyHash P (Str.ofString "__annotations__")) (Value.str (Str.ofString "__annotations__") 170) (Value.ref 6)), (DictEntry.mk (PyData.keyHash P (Str.ofString "__builtins__")) (Value.str (Str.ofString "__builtins__") 171) (Value.ref 4)), (DictEntry.mk (PyData.keyHash P (Str.ofString "__file__")) (Value.str (Str.ofString "__file__") 173) (Value.str (Str.ofString "/claim/cut.py") 172)), (DictEntry.mk (PyData.keyHash P (Str.ofString "__cached__")) (Value.str (Str.ofString "__cached__") 174) (Value.none)), (DictEntry.mk (PyData.keyHash P (Str.ofString "_sre")) (Value.str (Str.ofString "_sre") 275) (Value.ref 12)), (DictEntry.mk (PyData.keyHash P (Str.ofString "deque")) (Value.str (Str.ofString "deque") 317) (Value.type "collections.deque")), (DictEntry.mk (PyData.keyHash P (Str.ofString "_wall")) (Value.str (Str.ofString "_wall") 330) (Value.ref 44)), (DictEntry.mk (PyData.keyHash P (Str.ofString "_twin_re_1")) (Value.str (Str.ofString "_twin_re_1") 370) (Value.ref 49)), (DictEntry.mk (PyData.keyHash P (Str.ofString "_whence")) (Value.str (Str.ofString "_whence") 380) (Value.ref 56)), (DictEntry.mk (PyData.keyHash P (Str.ofString "_index")) (Value.str (Str.ofString "_index") 388) (Value.ref 63)), (DictEntry.mk (PyData.keyHash P (Str.ofString "UnsupportedOperation")) (Value.str (Str.ofString "UnsupportedOperation") 410) (Value.ref 73)), (DictEntry.mk (PyData.keyHash P (Str.ofString "IOBase")) (Value.str (Str.ofString "IOBase") 442) (Value.ref 93)), (DictEntry.mk (PyData.keyHash P (Str.ofString "BufferedIOBase")) (Value.str (Str.ofString "BufferedIOBase") 460) (Value.ref 108)), (DictEntry.mk (PyData.keyHash P (Str.ofString "TextIOBase")) (Value.str (Str.ofString "TextIOBase") 478) (Value.ref 120)), (DictEntry.mk (PyData.keyHash P (Str.ofString "BytesIO")) (Value.str (Str.ofString "BytesIO") 740) (Value.ref 350)), (DictEntry.mk (PyData.keyHash P (Str.ofString "StringIO")) (Value.str (Str.ofString "StringIO") 1027) (Value.ref 597)), (DictEntry.mk (PyData.keyHash P (Str.ofString "_kind")) (Value.str (Str.ofString "_kind") 1038) (Value.ref 606)), (DictEntry.mk (PyData.keyHash P (Str.ofString "_fspath")) (Value.str (Str.ofString "_fspath") 1047) (Value.ref 613)), (DictEntry.mk (PyData.keyHash P (Str.ofString "_check_arg_types")) (Value.str (Str.ofString "_check_arg_types") 1057) (Value.ref 620)), (DictEntry.mk (PyData.keyHash P (Str.ofString "isabs")) (Value.str (Str.ofString "isabs") 1064) (Value.ref 627)), (DictEntry.mk (PyData.keyHash P (Str.ofString "join")) (Value.str (Str.ofString "join") 1075) (Value.ref 634)), (DictEntry.mk (PyData.keyHash P (Str.ofString "dirname")) (Value.str (Str.ofString "dirname") 1085) (Value.ref 641)), (DictEntry.mk (PyData.keyHash P (Str.ofString "shlex")) (Value.str (Str.ofString "shlex") 1226) (Value.ref 732)), (DictEntry.mk (PyData.keyHash P (Str.ofString "split")) (Value.str (Str.ofString "split") 1236) (Value.ref 744)), (DictEntry.mk (PyData.keyHash P (Str.ofString "_find_unsafe")) (Value.str (Str.ofString "_find_unsafe") 1238) (Value.ref 745)), (DictEntry.mk (PyData.keyHash P (Str.ofString "quote")) (Value.str (Str.ofString "quote") 1245) (Value.ref 752)), (DictEntry.mk (PyData.keyHash P (Str.ofString "filterfalse")) (Value.str (Str.ofString "filterfalse") 1297) (Value.ref 785)), (DictEntry.mk (PyData.keyHash P (Str.ofString "_difference")) (Value.str (Str.ofString "_difference") 1307) (Value.ref 796)), (DictEntry.mk (PyData.keyHash P (Str.ofString "_law_bare")) (Value.str (Str.ofString "_law_bare") 1317) (Value.ref 803)), (DictEntry.mk (PyData.keyHash P (Str.ofString "_law_inner")) (Value.str (Str.ofString "_law_inner") 1323) (Value.ref 808)), (DictEntry.mk (PyData.keyHash P (Str.ofString "_law_link")) (Value.str (Str.ofString "_law_link") 1332) (Value.ref 815)), (DictEntry.mk (PyData.keyHash P (Str.ofString "_law_next")) (Value.str (Str.ofString "_law_next") 1341) (Value.ref 822)), (DictEntry.mk (PyData.keyHash P (Str.ofString "_law_row")) (Value.str (Str.ofString "_law_row") 1347) (Value.ref 827)), (DictEntry.mk (PyData.keyHash P (Str.ofString "law")) (Value.str (Str.ofString "law") 1353) (Value.ref 832))].toArray 39) [].toArray
def o48 (P : Params) : Obj := Obj.mk (Value.type "tuple") (none) (Data.seq [Value.int (14) 0, Value.int (17) 0, Value.int (4) 0, Value.int (1) 0, Value.int (1) 0, Value.int (21) 0, Value.int (9) 0, Value.int (0) 0, Value.int (604043296) 0, Value.int (1) 0, Value.int (0) 0, Value.int (0) 0, Value.int (0) 0, Value.int (0) 0, Value.int (0) 0, Value.int (8) 0, Value.int (4) 0, Value.int (0) 0, Value.int (13) 0, Value.int (14) 0, Value.int (21) 0, Value.int (9) 0, Value.int (0) 0, Value.int (604043296) 0, Value.int (1) 0, Value.int (0) 0, Value.int (0) 0, Value.int (0) 0, Value.int (0) 0, Value.int (0) 0, Value.int (8) 0, Value.int (4) 0, Value.int (0) 0, Value.int (1) 0].toArray 0) [].toArray
def o49 (P : Params) : Obj := Obj.mk (Value.type "re.Pattern") (none) (Data.fields [Value.str (Str.ofString "[^\\w@%+=:,./-]") 332, Value.int (256) 369, Value.int (0) 0, Value.none, Value.none, Value.ref 48, Value.int (0) 0].toArray) [].toArray
def o62 (P : Params) : Obj := Obj.mk (Value.type "code") (none) (Data.fields [Value.str (Str.ofString "_index") 381, Value.str (Str.ofString "_index") 382, Value.str (Str.ofString "/claim/cut.py") 383, Value.int (13) 0, Value.int (2) 0, Value.int (0) 0, Value.int (0) 0, Value.int (3) 0, Value.ref 57, Value.bool true, Value.int (318) 0, Value.ref 58, Value.none, Value.ref 59, Value.ref 60, Value.ref 61, Value.int (386) 0, Value.int (13) 0, Value.str (Str.ofString "/claim/cut.py") 387].toArray) [].toArray
def o63 (P : Params) : Obj := Obj.mk (Value.type "function") (none) (Data.func (fnAt (stmAt 6) (Str.ofString "_index") (Value.none) (Value.none) (Value.none) (Value.str (Str.ofString "io") 371) (none) (Value.ref 62) (Value.none))) [].toArray
def o89 (P : Params) : Obj := Obj.mk (Value.type "code") (none) (Data.fields [Value.str (Str.ofString "__new__") 425, Value.str (Str.ofString "IOBase.__new__") 426, Value.str (Str.ofString "/claim/cut.py") 427, Value.int (25) 0, Value.int (1) 0, Value.int (1) 0, Value.int (0) 0, Value.int (15) 0, Value.ref 84, Value.bool true, Value.int (318) 0, Value.ref 85, Value.none, Value.ref 86, Value.ref 87, Value.ref 88, Value.int (431) 0, Value.int (25) 0, Value.str (Str.ofString "/claim/cut.py") 432].toArray) [].toArray
def o90 (P : Params) : Obj := Obj.mk (Value.type "function") (none) (Data.func (fnAt (subAt (stmAt 8) 1) (Str.ofString "IOBase.__new__") (Value.none) (Value.none) (Value.none) (Value.str (Str.ofString "io") 371) (none) (Value.ref 89) (Value.none))) [].toArray
def o92 (P : Params) : Obj := Obj.mk (Value.type "dict") (none) (Data.dict [(DictEntry.mk (PyData.keyHash P (Str.ofString "__module__")) (Value.str (Str.ofString "__module__") 418) (Value.str (Str.ofString "io") 423)), (DictEntry.mk (PyData.keyHash P (Str.ofString "__firstlineno__")) (Value.str (Str.ofString "__firstlineno__") 422) (Value.int (22) 421)), (DictEntry.mk (PyData.keyHash P (Str.ofString "__new__")) (Value.str (Str.ofString "__new__") 433) (Value.ref 94)), (DictEntry.mk (PyData.keyHash P (Str.ofString "__static_attributes__")) (Value.str (Str.ofString "__static_attributes__") 434) (Value.ref 91)), (DictEntry.mk (PyData.keyHash P (Str.ofString "__dict__")) (Value.str (Str.ofString "__dict__") 437) (Value.ref 95)), (DictEntry.mk (PyData.keyHash P (Str.ofString "__weakref__")) (Value.str (Str.ofString "__weakref__") 439) (Value.ref 96)), (DictEntry.mk (PyData.keyHash P (Str.ofString "__doc__")) (Value.str (Str.ofString "__doc__") 440) (Value.none))].toArray 4) [].toArray
def o93 (P : Params) : Obj := Obj.mk (Value.type "type") (none) (Data.cls { name := Str.ofString "IOBase", bases := [Value.type "object"], mro := [Value.ref 93, Value.type "object"], ns := 92, qualname := Str.ofString "IOBase", hasDict := true, slotNames := [], subclasses := [Value.ref 108, Value.ref 120], abstract := false, collection := none, hasDel := false }) [none, none, some (Value.str (Str.ofString "IOBase") 411), some (Value.str (Str.ofString "IOBase") 419), some (Value.none), some (Value.bool true)].toArray
def o94 (P : Params) : Obj := Obj.mk (Value.type "staticmethod") (none) (Data.fields [Value.ref 90].toArray) [].toArray
def o107 (P : Params) : Obj := Obj.mk (Value.type "dict") (none) (Data.dict [(DictEntry.mk (PyData.keyHash P (Str.ofString "__module__")) (Value.str (Str.ofString "__module__") 450) (Value.str (Str.ofString "io") 455)), (DictEntry.mk (PyData.keyHash P (Str.ofString "__firstlineno__")) (Value.str (Str.ofString "__firstlineno__") 454) (Value.int (29) 453)), (DictEntry.mk (PyData.keyHash P (Str.ofString "__static_attributes__")) (Value.str (Str.ofString "__static_attributes__") 457) (Value.ref 106)), (DictEntry.mk (PyData.keyHash P (Str.ofString "__doc__")) (Value.str (Str.ofString "__doc__") 458) (Value.none))].toArray 2) [].toArray
def o108 (P : Params) : Obj := Obj.mk (Value.type "type") (none) (Data.cls { name := Str.ofString "BufferedIOBase", bases := [Value.ref 93], mro := [Value.ref 108, Value.ref 93, Value.type "object"], ns := 107, qualname := Str.ofString "BufferedIOBase", hasDict := true, slotNames := [], subclasses := [Value.ref 350], abstract := false, collection := none, hasDel := false }) [some (Value.ref 99), none, some (Value.str (Str.ofString "BufferedIOBase") 443), some (Value.str (Str.ofString "BufferedIOBase") 451), some (Value.none), some (Value.bool true)].toArray
def o119 (P : Params) : Obj := Obj.mk (Value.type "dict") (none) (Data.dict [(DictEntry.mk (PyData.keyHash P (Str.ofString "__module__")) (Value.str (Str.ofString "__module__") 468) (Value.str (Str.ofString "io") 473)), (DictEntry.mk (PyData.keyHash P (Str.ofString "__firstlineno__")) (Value.str (Str.ofString "__firstlineno__") 472) (Value.int (31) 471)), (DictEntry.mk (PyData.keyHash P (Str.ofString "__static_attributes__")) (Value.str (Str.ofString "__static_attributes__") 475) (Value.ref 118)), (DictEntry.mk (PyData.keyHash P (Str.ofString "__doc__")) (Value.str (Str.ofString "__doc__") 476) (Value.none))].toArray 2) [].toArray
def o120 (P : Params) : Obj := Obj.mk (Value.type "type") (none) (Data.cls { name := Str.ofString "TextIOBase", bases := [Value.ref 93], mro := [Value.ref 120, Value.ref 93, Value.type "object"], ns := 119, qualname := Str.ofString "TextIOBase", hasDict := true, slotNames := [], subclasses := [Value.ref 597], abstract := false, collection := none, hasDel := false }) [some (Value.ref 111), none, some (Value.str (Str.ofString "TextIOBase") 461), some (Value.str (Str.ofString "TextIOBase") 469), some (Value.none), some (Value.bool true)].toArray
def o349 (P : Params) : Obj := Obj.mk (Value.type "dict") (none) (Data.dict [(DictEntry.mk (PyData.keyHash P (Str.ofString "__module__")) (Value.str (Str.ofString "__module__") 486) (Value.str (Str.ofString "_io") 491)), (DictEntry.mk (PyData.keyHash P (Str.ofString "__firstlineno__")) (Value.str (Str.ofString "__firstlineno__") 490) (Value.int (33) 489)), (DictEntry.mk (PyData.keyHash P (Str.ofString "__init__")) (Value.str (Str.ofString "__init__") 500) (Value.ref 137)), (DictEntry.mk (PyData.keyHash P (Str.ofString "_BytesIO__check")) (Value.str (Str.ofString "_BytesIO__check") 507) (Value.ref 144)), (DictEntry.mk (PyData.keyHash P (Str.ofString "_BytesIO__line")) (Value.str (Str.ofString "_BytesIO__line") 518) (Value.ref 151)), (DictEntry.mk (PyData.keyHash P (Str.ofString "closed")) (Value.str (Str.ofString "closed") 526) (Value.ref 159)), (DictEntry.mk (PyData.keyHash P (Str.ofString "close")) (Value.str (Str.ofString "close") 533) (Value.ref 166)), (DictEntry.mk (PyData.keyHash P (Str.ofString "__enter__")) (Value.str (Str.ofString "__enter__") 540) (Value.ref 173)), (DictEntry.mk (PyData.keyHash P (Str.ofString "__exit__")) (Value.str (Str.ofString "__exit__") 548) (Value.ref 180)), (DictEntry.mk (PyData.keyHash P (Str.ofString "readable")) (Value.str (Str.ofString "readable") 555) (Value.ref 187)), (DictEntry.mk (PyData.keyHash P (Str.ofString "writable")) (Value.str (Str.ofString "writable") 562) (Value.ref 194)), (DictEntry.mk (PyData.keyHash P (Str.ofString "seekable")) (Value.str (Str.ofString "seekable") 569) (Value.ref 201)), (DictEntry.mk (PyData.keyHash P (Str.ofString "isatty")) (Value.str (Str.ofString "isatty") 576) (Value.ref 208)), (DictEntry.mk (PyData.keyHash P (Str.ofString "flush")) (Value.str (Str.ofString "flush") 583) (Value.ref 215)), (DictEntry.mk (PyData.keyHash P (Str.ofString "fileno")) (Value.str (Str.ofString "fileno") 590) (Value.ref 222)), (DictEntry.mk (PyData.keyHash P (Str.ofString "detach")) (Value.str (Str.ofString "detach") 597) (Value.ref 229)), (DictEntry.mk (PyData.keyHash P (Str.ofString "getvalue")) (Value.str (Str.ofString "getvalue") 604) (Value.ref 236)), (DictEntry.mk (PyData.keyHash P (Str.ofString "getbuffer")) (Value.str (Str.ofString "getbuffer") 611) (Value.ref 243)), (DictEntry.mk (PyData.keyHash P (Str.ofString "tell")) (Value.str (Str.ofString "tell") 618) (Value.ref 250)), (DictEntry.mk (PyData.keyHash P (Str.ofString "seek")) (Value.str (Str.ofString "seek") 628) (Value.ref 258)), (DictEntry.mk (PyData.keyHash P (Str.ofString "truncate")) (Value.str (Str.ofString "truncate") 636) (Value.ref 266)), (DictEntry.mk (PyData.keyHash P (Str.ofString "read")) (Value.str (Str.ofString "read") 648) (Value.ref 274)), (DictEntry.mk (PyData.keyHash P (Str.ofString "read1")) (Value.str (Str.ofString "read1") 658) (Value.ref 282)), (DictEntry.mk (PyData.keyHash P (Str.ofString "readinto")) (Value.str (Str.ofString "readinto") 668) (Value.ref 289)), (DictEntry.mk (PyData.keyHash P (Str.ofString "readinto1")) (Value.str (Str.ofString "readinto1") 676) (Value.ref 296)), (DictEntry.mk (PyData.keyHash P (Str.ofString "readline")) (Value.str (Str.ofString "readline") 686) (Value.ref 304)), (DictEntry.mk (PyData.keyHash P (Str.ofString "readlines")) (Value.str (Str.ofString "readlines") 694) (Value.ref 312)), (DictEntry.mk (PyData.keyHash P (Str.ofString "__iter__")) (Value.str (Str.ofString "__iter__") 701) (Value.ref 319)), (DictEntry.mk (PyData.keyHash P (Str.ofString "__next__")) (Value.str (Str.ofString "__next__") 709) (Value.ref 326)), (DictEntry.mk (PyData.keyHash P (Str.ofString "write")) (Value.str (Str.ofString "write") 719) (Value.ref 333)), (DictEntry.mk (PyData.keyHash P (Str.ofString "writelines")) (Value.str (Str.ofString "writelines") 727) (Value.ref 340)), (DictEntry.mk (PyData.keyHash P (Str.ofString "__repr__")) (Value.str (Str.ofString "__repr__") 734) (Value.ref 347)), (DictEntry.mk (PyData.keyHash P (Str.ofString "__static_attributes__")) (Value.str (Str.ofString "__static_attributes__") 737) (Value.ref 348)), (DictEntry.mk (PyData.keyHash P (Str.ofString "__doc__")) (Value.str (Str.ofString "__doc__") 738) (Value.none))].toArray 2) [].toArray
def o350 (P : Params) : Obj := Obj.mk (Value.type "type") (none) (Data.cls { name := Str.ofString "BytesIO", bases := [Value.ref 108], mro := [Value.ref 350, Value.ref 108, Value.ref 93, Value.type "object"], ns := 349, qualname := Str.ofString "BytesIO", hasDict := true, slotNames := [], subclasses := [], abstract := false, collection := none, hasDel := false }) [some (Value.ref 123), none, some (Value.str (Str.ofString "BytesIO") 479), some (Value.str (Str.ofString "BytesIO") 487), some (Value.none), some (Value.bool true)].toArray
def o360 (P : Params) : Obj := Obj.mk (Value.type "tuple") (none) (Data.seq [Value.str (Str.ofString "") 755, Value.str (Str.ofString "\n") 756].toArray 0) [].toArray
def o366 (P : Params) : Obj := Obj.mk (Value.type "code") (none) (Data.fields [Value.str (Str.ofString "__init__") 757, Value.str (Str.ofString "StringIO.__init__") 758, Value.str (Str.ofString "/claim/cut.py") 759, Value.int (206) 0, Value.int (3) 0, Value.int (0) 0, Value.int (0) 0, Value.int (3) 0, Value.ref 361, Value.bool true, Value.int (318) 0, Value.ref 362, Value.none, Value.ref 363, Value.ref 364, Value.ref 365, Value.int (763) 0, Value.int (206) 0, Value.str (Str.ofString "/claim/cut.py") 764].toArray) [].toArray
def o367 (P : Params) : Obj := Obj.mk (Value.type "function") (none) (Data.func (fnAt (subAt (stmAt 12) 1) (Str.ofString "StringIO.__init__") (Value.ref 360) (Value.none) (Value.none) (Value.str (Str.ofString "io") 371) (none) (Value.ref 366) (Value.none))) [].toArray
def o373 (P : Params) : Obj := Obj.mk (Value.type "code") (none) (Data.fields [Value.str (Str.ofString "__translated") 766, Value.str (Str.ofString "StringIO.__translated") 767, Value.str (Str.ofString "/claim/cut.py") 768, Value.int (219) 0, Value.int (2) 0, Value.int (0) 0, Value.int (0) 0, Value.int (3) 0, Value.ref 368, Value.bool true, Value.int (318) 0, Value.ref 369, Value.none, Value.ref 370, Value.ref 371, Value.ref 372, Value.int (772) 0, Value.int (219) 0, Value.str (Str.ofString "/claim/cut.py") 773].toArray) [].toArray
def o374 (P : Params) : Obj := Obj.mk (Value.type "function") (none) (Data.func (fnAt (subAt (stmAt 12) 2) (Str.ofString "StringIO.__translated") (Value.none) (Value.none) (Value.none) (Value.str (Str.ofString "io") 371) (none) (Value.ref 373) (Value.none))) [].toArray
def o380 (P : Params) : Obj := Obj.mk (Value.type "code") (none) (Data.fields [Value.str (Str.ofString "__check") 775, Value.str (Str.ofString "StringIO.__check") 776, Value.str (Str.ofString "/claim/cut.py") 777, Value.int (227) 0, Value.int (1) 0, Value.int (0) 0, Value.int (0) 0, Value.int (3) 0, Value.ref 375, Value.bool true, Value.int (318) 0, Value.ref 376, Value.none, Value.ref 377, Value.ref 378, Value.ref 379, Value.int (779) 0, Value.int (227) 0, Value.str (Str.ofString "/claim/cut.py") 780].toArray) [].toArray
def o381 (P : Params) : Obj := Obj.mk (Value.type "function") (none) (Data.func (fnAt (subAt (stmAt 12) 3) (Str.ofString "StringIO.__check") (Value.none) (Value.none) (Value.none) (Value.str (Str.ofString "io") 371) (none) (Value.ref 380) (Value.none))) [].toArray
def o536 (P : Params) : Obj := Obj.mk (Value.type "tuple") (none) (Data.seq [Value.int (-1) 948].toArray 0) [].toArray
def o542 (P : Params) : Obj := Obj.mk (Value.type "code") (none) (Data.fields [Value.str (Str.ofString "read") 949, Value.str (Str.ofString "StringIO.read") 950, Value.str (Str.ofString "/claim/cut.py") 951, Value.int (349) 0, Value.int (2) 0, Value.int (2) 0, Value.int (0) 0, Value.int (3) 0, Value.ref 537, Value.bool true, Value.int (318) 0, Value.ref 538, Value.none, Value.ref 539, Value.ref 540, Value.ref 541, Value.int (956) 0, Value.int (349) 0, Value.str (Str.ofString "/claim/cut.py") 957].toArray) [].toArray
def o543 (P : Params) : Obj := Obj.mk (Value.type "function") (none) (Data.func (fnAt (subAt (stmAt 12) 25) (Str.ofString "StringIO.read") (Value.ref 536) (Value.none) (Value.none) (Value.str (Str.ofString "io") 371) (none) (Value.ref 542) (Value.none))) [].toArray
def o596 (P : Params) : Obj := Obj.mk (Value.type "dict") (none) (Data.dict [(DictEntry.mk (PyData.keyHash P (Str.ofString "__module__")) (Value.str (Str.ofString "__module__") 748) (Value.str (Str.ofString "_io") 753)), (DictEntry.mk (PyData.keyHash P (Str.ofString "__firstlineno__")) (Value.str (Str.ofString "__firstlineno__") 752) (Value.int (203) 751)), (DictEntry.mk (PyData.keyHash P (Str.ofString "__init__")) (Value.str (Str.ofString "__init__") 765) (Value.ref 367)), (DictEntry.mk (PyData.keyHash P (Str.ofString "_StringIO__translated")) (Value.str (Str.ofString "_StringIO__translated") 774) (Value.ref 374)), (DictEntry.mk (PyData.keyHash P (Str.ofString "_StringIO__check")) (Value.str (Str.ofString "_StringIO__check") 781) (Value.ref 381)), (DictEntry.mk (PyData.keyHash P (Str.ofString "_StringIO__check_dot")) (Value.str (Str.ofString "_StringIO__check_dot") 788) (Value.ref 388)), (DictEntry.mk (PyData.keyHash P (Str.ofString "_StringIO__line")) (Value.str (Str.ofString "_StringIO__line") 803) (Value.ref 395)), (DictEntry.mk (PyData.keyHash P (Str.ofString "closed")) (Value.str (Str.ofString "closed") 811) (Value.ref 403)), (DictEntry.mk (PyData.keyHash P (Str.ofString "line_buffering")) (Value.str (Str.ofString "line_buffering") 819) (Value.ref 411)), (DictEntry.mk (PyData.keyHash P (Str.ofString "newlines")) (Value.str (Str.ofString "newlines") 827) (Value.ref 419)), (DictEntry.mk (PyData.keyHash P (Str.ofString "encoding")) (Value.str (Str.ofString "encoding") 835) (Value.ref 427)), (DictEntry.mk (PyData.keyHash P (Str.ofString "errors")) (Value.str (Str.ofString "errors") 843) (Value.ref 435)), (DictEntry.mk (PyData.keyHash P (Str.ofString "close")) (Value.str (Str.ofString "close") 850) (Value.ref 442)), (DictEntry.mk (PyData.keyHash P (Str.ofString "__enter__")) (Value.str (Str.ofString "__enter__") 857) (Value.ref 449)), (DictEntry.mk (PyData.keyHash P (Str.ofString "__exit__")) (Value.str (Str.ofString "__exit__") 865) (Value.ref 456)), (DictEntry.mk (PyData.keyHash P (Str.ofString "readable")) (Value.str (Str.ofString "readable") 872) (Value.ref 463)), (DictEntry.mk (PyData.keyHash P (Str.ofString "writable")) (Value.str (Str.ofString "writable") 879) (Value.ref 470)), (DictEntry.mk (PyData.keyHash P (Str.ofString "seekable")) (Value.str (Str.ofString "seekable") 886) (Value.ref 477)), (DictEntry.mk (PyData.keyHash P (Str.ofString "isatty")) (Value.str (Str.ofString "isatty") 893) (Value.ref 484)), (DictEntry.mk (PyData.keyHash P (Str.ofString "flush")) (Value.str (Str.ofString "flush") 900) (Value.ref 491)), (DictEntry.mk (PyData.keyHash P (Str.ofString "fileno")) (Value.str (Str.ofString "fileno") 907) (Value.ref 498)), (DictEntry.mk (PyData.keyHash P (Str.ofString "detach")) (Value.str (Str.ofString "detach") 914) (Value.ref 505)), (DictEntry.mk (PyData.keyHash P (Str.ofString "getvalue")) (Value.str (Str.ofString "getvalue") 921) (Value.ref 512)), (DictEntry.mk (PyData.keyHash P (Str.ofString "tell")) (Value.str (Str.ofString "tell") 928) (Value.ref 519)), (DictEntry.mk (PyData.keyHash P (Str.ofString "seek")) (Value.str (Str.ofString "seek") 938) (Value.ref 527)), (DictEntry.mk (PyData.keyHash P (Str.ofString "truncate")) (Value.str (Str.ofString "truncate") 946) (Value.ref 535)), (DictEntry.mk (PyData.keyHash P (Str.ofString "read")) (Value.str (Str.ofString "read") 958) (Value.ref 543)), (DictEntry.mk (PyData.keyHash P (Str.ofString "readline")) (Value.str (Str.ofString "readline") 968) (Value.ref 551)), (DictEntry.mk (PyData.keyHash P (Str.ofString "readlines")) (Value.str (Str.ofString "readlines") 978) (Value.ref 559)), (DictEntry.mk (PyData.keyHash P (Str.ofString "__iter__")) (Value.str (Str.ofString "__iter__") 985) (Value.ref 566)), (DictEntry.mk (PyData.keyHash P (Str.ofString "__next__")) (Value.str (Str.ofString "__next__") 993) (Value.ref 573)), (DictEntry.mk (PyData.keyHash P (Str.ofString "write")) (Value.str (Str.ofString "write") 1005) (Value.ref 580)), (DictEntry.mk (PyData.keyHash P (Str.ofString "writelines")) (Value.str (Str.ofString "writelines") 1013) (Value.ref 587)), (DictEntry.mk (PyData.keyHash P (Str.ofString "__repr__")) (Value.str (Str.ofString "__repr__") 1020) (Value.ref 594)), (DictEntry.mk (PyData.keyHash P (Str.ofString "__static_attributes__")) (Value.str (Str.ofString "__static_attributes__") 1024) (Value.ref 595)), (DictEntry.mk (PyData.keyHash P (Str.ofString "__doc__")) (Value.str (Str.ofString "__doc__") 1025) (Value.none))].toArray 2) [].toArray
def o597 (P : Params) : Obj := Obj.mk (Value.type "type") (none) (Data.cls { name := Str.ofString "StringIO", bases := [Value.ref 120], mro := [Value.ref 597, Value.ref 120, Value.ref 93, Value.type "object"], ns := 596, qualname := Str.ofString "StringIO", hasDict := true, slotNames := [], subclasses := [], abstract := false, collection := none, hasDel := false }) [some (Value.ref 353), none, some (Value.str (Str.ofString "StringIO") 741), some (Value.str (Str.ofString "StringIO") 749), some (Value.none), some (Value.bool true)].toArray
def o649 (P : Params) : Obj := Obj.mk (Value.type "tuple") (none) (Data.seq [Value.none, Value.none, Value.bool false, Value.bool false].toArray 0) [].toArray
def o655 (P : Params) : Obj := Obj.mk (Value.type "code") (none) (Data.fields [Value.str (Str.ofString "__init__") 1100, Value.str (Str.ofString "shlex.__init__") 1101, Value.str (Str.ofString "/claim/cut.py") 1102, Value.int (474) 0, Value.int (5) 0, Value.int (0) 0, Value.int (0) 0, Value.int (3) 0, Value.ref 650, Value.bool true, Value.int (318) 0, Value.ref 651, Value.none, Value.ref 652, Value.ref 653, Value.ref 654, Value.int (1109) 0, Value.int (474) 0, Value.str (Str.ofString "/claim/cut.py") 1110].toArray) [].toArray
def o656 (P : Params) : Obj := Obj.mk (Value.type "function") (none) (Data.func (fnAt (subAt (stmAt 21) 0) (Str.ofString "shlex.__init__") (Value.ref 649) (Value.none) (Value.none) (Value.str (Str.ofString "cpy313.shlex") 1086) (none) (Value.ref 655) (Value.none))) [].toArray
def o662 (P : Params) : Obj := Obj.mk (Value.type "code") (none) (Data.fields [Value.str (Str.ofString "punctuation_chars") 1112, Value.str (Str.ofString "shlex.punctuation_chars") 1113, Value.str (Str.ofString "/claim/cut.py") 1114, Value.int (515) 0, Value.int (1) 0, Value.int (0) 0, Value.int (0) 0, Value.int (3) 0, Value.ref 657, Value.bool true, Value.int (318) 0, Value.ref 658, Value.none, Value.ref 659, Value.ref 660, Value.ref 661, Value.int (1116) 0, Value.int (515) 0, Value.str (Str.ofString "/claim/cut.py") 1117].toArray) [].toArray
def o663 (P : Params) : Obj := Obj.mk (Value.type "function") (none) (Data.func (fnAt (subAt (stmAt 21) 1) (Str.ofString "shlex.punctuation_chars") (Value.none) (Value.none) (Value.none) (Value.str (Str.ofString "cpy313.shlex") 1086) (none) (Value.ref 662) (Value.none))) [].toArray
def o664 (P : Params) : Obj := Obj.mk (Value.type "property") (none) (Data.fields [Value.ref 663, Value.none, Value.none, Value.none, Value.str (Str.ofString "punctuation_chars") 1119, Value.bool false].toArray) [].toArray
def o692 (P : Params) : Obj := Obj.mk (Value.type "code") (none) (Data.fields [Value.str (Str.ofString "get_token") 1144, Value.str (Str.ofString "shlex.get_token") 1145, Value.str (Str.ofString "/claim/cut.py") 1146, Value.int (542) 0, Value.int (1) 0, Value.int (0) 0, Value.int (0) 0, Value.int (3) 0, Value.ref 687, Value.bool true, Value.int (318) 0, Value.ref 688, Value.none, Value.ref 689, Value.ref 690, Value.ref 691, Value.int (1153) 0, Value.int (542) 0, Value.str (Str.ofString "/claim/cut.py") 1154].toArray) [].toArray
def o693 (P : Params) : Obj := Obj.mk (Value.type "function") (none) (Data.func (fnAt (subAt (stmAt 21) 5) (Str.ofString "shlex.get_token") (Value.none) (Value.none) (Value.none) (Value.str (Str.ofString "cpy313.shlex") 1086) (none) (Value.ref 692) (Value.none))) [].toArray
def o699 (P : Params) : Obj := Obj.mk (Value.type "code") (none) (Data.fields [Value.str (Str.ofString "read_token") 1156, Value.str (Str.ofString "shlex.read_token") 1157, Value.str (Str.ofString "/claim/cut.py") 1158, Value.int (569) 0, Value.int (1) 0, Value.int (0) 0, Value.int (0) 0, Value.int (3) 0, Value.ref 694, Value.bool true, Value.int (318) 0, Value.ref 695, Value.none, Value.ref 696, Value.ref 697, Value.ref 698, Value.int (1164) 0, Value.int (569) 0, Value.str (Str.ofString "/claim/cut.py") 1165].toArray) [].toArray
def o700 (P : Params) : Obj := Obj.mk (Value.type "function") (none) (Data.func (fnAt (subAt (stmAt 21) 6) (Str.ofString "shlex.read_token") (Value.none) (Value.none) (Value.none) (Value.str (Str.ofString "cpy313.shlex") 1086) (none) (Value.ref 699) (Value.none))) [].toArray
def o721 (P : Params) : Obj := Obj.mk (Value.type "code") (none) (Data.fields [Value.str (Str.ofString "__iter__") 1184, Value.str (Str.ofString "shlex.__iter__") 1185, Value.str (Str.ofString "/claim/cut.py") 1186, Value.int (716) 0, Value.int (1) 0, Value.int (0) 0, Value.int (0) 0, Value.int (3) 0, Value.ref 716, Value.bool true, Value.int (318) 0, Value.ref 717, Value.none, Value.ref 718, Value.ref 719, Value.ref 720, Value.int (1188) 0, Value.int (716) 0, Value.str (Str.ofString "/claim/cut.py") 1189].toArray) [].toArray
def o722 (P : Params) : Obj := Obj.mk (Value.type "function") (none) (Data.func (fnAt (subAt (stmAt 21) 9) (Str.ofString "shlex.__iter__") (Value.none) (Value.none) (Value.none) (Value.str (Str.ofString "cpy313.shlex") 1086) (none) (Value.ref 721) (Value.none))) [].toArray
def o728 (P : Params) : Obj := Obj.mk (Value.type "code") (none) (Data.fields [Value.str (Str.ofString "__next__") 1191, Value.str (Str.ofString "shlex.__next__") 1192, Value.str (Str.ofString "/claim/cut.py") 1193, Value.int (719) 0, Value.int (1) 0, Value.int (0) 0, Value.int (0) 0, Value.int (3) 0, Value.ref 723, Value.bool true, Value.int (318) 0, Value.ref 724, Value.none, Value.ref 725, Value.ref 726, Value.ref 727, Value.int (1196) 0, Value.int (719) 0, Value.str (Str.ofString "/claim/cut.py") 1197].toArray) [].toArray
def o729 (P : Params) : Obj := Obj.mk (Value.type "function") (none) (Data.func (fnAt (subAt (stmAt 21) 10) (Str.ofString "shlex.__next__") (Value.none) (Value.none) (Value.none) (Value.str (Str.ofString "cpy313.shlex") 1086) (none) (Value.ref 728) (Value.none))) [].toArray
def o731 (P : Params) : Obj := Obj.mk (Value.type "dict") (none) (Data.dict [(DictEntry.mk (PyData.keyHash P (Str.ofString "__module__")) (Value.str (Str.ofString "__module__") 1095) (Value.str (Str.ofString "cpy313.shlex") 1086)), (DictEntry.mk (PyData.keyHash P (Str.ofString "__firstlineno__")) (Value.str (Str.ofString "__firstlineno__") 1099) (Value.int (472) 1098)), (DictEntry.mk (PyData.keyHash P (Str.ofString "__init__")) (Value.str (Str.ofString "__init__") 1111) (Value.ref 656)), (DictEntry.mk (PyData.keyHash P (Str.ofString "punctuation_chars")) (Value.str (Str.ofString "punctuation_chars") 1119) (Value.ref 664)), (DictEntry.mk (PyData.keyHash P (Str.ofString "push_token")) (Value.str (Str.ofString "push_token") 1127) (Value.ref 671)), (DictEntry.mk (PyData.keyHash P (Str.ofString "push_source")) (Value.str (Str.ofString "push_source") 1136) (Value.ref 679)), (DictEntry.mk (PyData.keyHash P (Str.ofString "pop_source")) (Value.str (Str.ofString "pop_source") 1143) (Value.ref 686)), (DictEntry.mk (PyData.keyHash P (Str.ofString "get_token")) (Value.str (Str.ofString "get_token") 1155) (Value.ref 693)), (DictEntry.mk (PyData.keyHash P (Str.ofString "read_token")) (Value.str (Str.ofString "read_token") 1166) (Value.ref 700)), (DictEntry.mk (PyData.keyHash P (Str.ofString "sourcehook")) (Value.str (Str.ofString "sourcehook") 1174) (Value.ref 707)), (DictEntry.mk (PyData.keyHash P (Str.ofString "error_leader")) (Value.str (Str.ofString "error_leader") 1183) (Value.ref 715)), (DictEntry.mk (PyData.keyHash P (Str.ofString "__iter__")) (Value.str (Str.ofString "__iter__") 1190) (Value.ref 722)), (DictEntry.mk (PyData.keyHash P (Str.ofString "__next__")) (Value.str (Str.ofString "__next__") 1198) (Value.ref 729)), (DictEntry.mk (PyData.keyHash P (Str.ofString "__static_attributes__")) (Value.str (Str.ofString "__static_attributes__") 1219) (Value.ref 730)), (DictEntry.mk (PyData.keyHash P (Str.ofString "__dict__")) (Value.str (Str.ofString "__dict__") 1221) (Value.ref 733)), (DictEntry.mk (PyData.keyHash P (Str.ofString "__weakref__")) (Value.str (Str.ofString "__weakref__") 1223) (Value.ref 734)), (DictEntry.mk (PyData.keyHash P (Str.ofString "__doc__")) (Value.str (Str.ofString "__doc__") 1224) (Value.none))].toArray 4) [].toArray
def o732 (P : Params) : Obj := Obj.mk (Value.type "type") (none) (Data.cls { name := Str.ofString "shlex", bases := [Value.type "object"], mro := [Value.ref 732, Value.type "object"], ns := 731, qualname := Str.ofString "shlex", hasDict := true, slotNames := [], subclasses := [], abstract := false, collection := none, hasDel := false }) [none, none, some (Value.str (Str.ofString "shlex") 1088), some (Value.str (Str.ofString "shlex") 1096), some (Value.builtin "object.__new__"), some (Value.bool true)].toArray
def o737 (P : Params) : Obj := Obj.mk (Value.type "tuple") (none) (Data.seq [Value.bool false, Value.bool true].toArray 0) [].toArray
def o743 (P : Params) : Obj := Obj.mk (Value.type "code") (none) (Data.fields [Value.str (Str.ofString "split") 1227, Value.str (Str.ofString "split") 1228, Value.str (Str.ofString "/claim/cut.py") 1229, Value.int (724) 0, Value.int (3) 0, Value.int (0) 0, Value.int (0) 0, Value.int (3) 0, Value.ref 738, Value.bool true, Value.int (318) 0, Value.ref 739, Value.none, Value.ref 740, Value.ref 741, Value.ref 742, Value.int (1234) 0, Value.int (724) 0, Value.str (Str.ofString "/claim/cut.py") 1235].toArray) [].toArray
def o744 (P : Params) : Obj := Obj.mk (Value.type "function") (none) (Data.func (fnAt (stmAt 22) (Str.ofString "split") (Value.ref 737) (Value.none) (Value.none) (Value.str (Str.ofString "cpy313.shlex") 1086) (none) (Value.ref 743) (Value.none))) [].toArray
def o745 (P : Params) : Obj := Obj.mk (Value.type "builtin_function_or_method") (none) (Data.fields [Value.builtin "re.Pattern.search", Value.ref 49].toArray) [].toArray
def o751 (P : Params) : Obj := Obj.mk (Value.type "code") (none) (Data.fields [Value.str (Str.ofString "quote") 1239, Value.str (Str.ofString "quote") 1240, Value.str (Str.ofString "/claim/cut.py") 1241, Value.int (733) 0, Value.int (1) 0, Value.int (0) 0, Value.int (0) 0, Value.int (3) 0, Value.ref 746, Value.bool true, Value.int (318) 0, Value.ref 747, Value.none, Value.ref 748, Value.ref 749, Value.ref 750, Value.int (1243) 0, Value.int (733) 0, Value.str (Str.ofString "/claim/cut.py") 1244].toArray) [].toArray
def o752 (P : Params) : Obj := Obj.mk (Value.type "function") (none) (Data.func (fnAt (stmAt 24) (Str.ofString "quote") (Value.none) (Value.none) (Value.none) (Value.str (Str.ofString "cpy313.shlex") 1086) (none) (Value.ref 751) (Value.none))) [].toArray
def o760 (P : Params) : Obj := Obj.mk (Value.type "tuple") (none) (Data.seq [Value.str (Str.ofString "_it") 1260, Value.str (Str.ofString "_func") 1261].toArray 0) [].toArray
def o766 (P : Params) : Obj := Obj.mk (Value.type "code") (none) (Data.fields [Value.str (Str.ofString "__init__") 1263, Value.str (Str.ofString "filterfalse.__init__") 1264, Value.str (Str.ofString "/claim/cut.py") 1265, Value.int (743) 0, Value.int (3) 0, Value.int (3) 0, Value.int (0) 0, Value.int (3) 0, Value.ref 761, Value.bool true, Value.int (318) 0, Value.ref 762, Value.none, Value.ref 763, Value.ref 764, Value.ref 765, Value.int (1269) 0, Value.int (743) 0, Value.str (Str.ofString "/claim/cut.py") 1270].toArray) [].toArray
def o767 (P : Params) : Obj := Obj.mk (Value.type "function") (none) (Data.func (fnAt (subAt (stmAt 26) 1) (Str.ofString "filterfalse.__init__") (Value.none) (Value.none) (Value.none) (Value.str (Str.ofString "itertools") 1246) (none) (Value.ref 766) (Value.none))) [].toArray
def o773 (P : Params) : Obj := Obj.mk (Value.type "code") (none) (Data.fields [Value.str (Str.ofString "__iter__") 1272, Value.str (Str.ofString "filterfalse.__iter__") 1273, Value.str (Str.ofString "/claim/cut.py") 1274, Value.int (747) 0, Value.int (1) 0, Value.int (0) 0, Value.int (0) 0, Value.int (3) 0, Value.ref 768, Value.bool true, Value.int (318) 0, Value.ref 769, Value.none, Value.ref 770, Value.ref 771, Value.ref 772, Value.int (1276) 0, Value.int (747) 0, Value.str (Str.ofString "/claim/cut.py") 1277].toArray) [].toArray
def o774 (P : Params) : Obj := Obj.mk (Value.type "function") (none) (Data.func (fnAt (subAt (stmAt 26) 2) (Str.ofString "filterfalse.__iter__") (Value.none) (Value.none) (Value.none) (Value.str (Str.ofString "itertools") 1246) (none) (Value.ref 773) (Value.none))) [].toArray
def o780 (P : Params) : Obj := Obj.mk (Value.type "code") (none) (Data.fields [Value.str (Str.ofString "__next__") 1279, Value.str (Str.ofString "filterfalse.__next__") 1280, Value.str (Str.ofString "/claim/cut.py") 1281, Value.int (750) 0, Value.int (1) 0, Value.int (0) 0, Value.int (0) 0, Value.int (3) 0, Value.ref 775, Value.bool true, Value.int (318) 0, Value.ref 776, Value.none, Value.ref 777, Value.ref 778, Value.ref 779, Value.int (1285) 0, Value.int (750) 0, Value.str (Str.ofString "/claim/cut.py") 1286].toArray) [].toArray
def o781 (P : Params) : Obj := Obj.mk (Value.type "function") (none) (Data.func (fnAt (subAt (stmAt 26) 3) (Str.ofString "filterfalse.__next__") (Value.none) (Value.none) (Value.none) (Value.str (Str.ofString "itertools") 1246) (none) (Value.ref 780) (Value.none))) [].toArray
def o782 (P : Params) : Obj := Obj.mk (Value.type "tuple") (none) (Data.seq [Value.str (Str.ofString "_func") 1288, Value.str (Str.ofString "_it") 1289].toArray 0) [].toArray
def o784 (P : Params) : Obj := Obj.mk (Value.type "dict") (none) (Data.dict [(DictEntry.mk (PyData.keyHash P (Str.ofString "__module__")) (Value.str (Str.ofString "__module__") 1255) (Value.str (Str.ofString "itertools") 1246)), (DictEntry.mk (PyData.keyHash P (Str.ofString "__firstlineno__")) (Value.str (Str.ofString "__firstlineno__") 1259) (Value.int (740) 1258)), (DictEntry.mk (PyData.keyHash P (Str.ofString "__slots__")) (Value.str (Str.ofString "__slots__") 1262) (Value.ref 760)), (DictEntry.mk (PyData.keyHash P (Str.ofString "__init__")) (Value.str (Str.ofString "__init__") 1271) (Value.ref 767)), (DictEntry.mk (PyData.keyHash P (Str.ofString "__iter__")) (Value.str (Str.ofString "__iter__") 1278) (Value.ref 774)), (DictEntry.mk (PyData.keyHash P (Str.ofString "__next__")) (Value.str (Str.ofString "__next__") 1287) (Value.ref 781)), (DictEntry.mk (PyData.keyHash P (Str.ofString "__static_attributes__")) (Value.str (Str.ofString "__static_attributes__") 1290) (Value.ref 782)), (DictEntry.mk (PyData.keyHash P (Str.ofString "_func")) (Value.str (Str.ofString "_func") 1292) (Value.ref 786)), (DictEntry.mk (PyData.keyHash P (Str.ofString "_it")) (Value.str (Str.ofString "_it") 1294) (Value.ref 787)), (DictEntry.mk (PyData.keyHash P (Str.ofString "__doc__")) (Value.str (Str.ofString "__doc__") 1295) (Value.none))].toArray 4) [].toArray
def o785 (P : Params) : Obj := Obj.mk (Value.type "type") (none) (Data.cls { name := Str.ofString "filterfalse", bases := [Value.type "object"], mro := [Value.ref 785, Value.type "object"], ns := 784, qualname := Str.ofString "filterfalse", hasDict := false, slotNames := [Str.ofString "_func", Str.ofString "_it"], subclasses := [], abstract := false, collection := none, hasDel := false }) [none, none, some (Value.str (Str.ofString "filterfalse") 1248), some (Value.str (Str.ofString "filterfalse") 1256), some (Value.builtin "object.__new__"), some (Value.bool false)].toArray
def o786 (P : Params) : Obj := Obj.mk (Value.type "member_descriptor") (none) (Data.fields [Value.str (Str.ofString "_func") 1291, Value.ref 785, Value.builtin "proto.slot", Value.builtin "proto.slot#set", Value.int (1) 0].toArray) [].toArray
def o787 (P : Params) : Obj := Obj.mk (Value.type "member_descriptor") (none) (Data.fields [Value.str (Str.ofString "_it") 1293, Value.ref 785, Value.builtin "proto.slot", Value.builtin "proto.slot#set", Value.int (0) 0].toArray) [].toArray
def o795 (P : Params) : Obj := Obj.mk (Value.type "code") (none) (Data.fields [Value.str (Str.ofString "_difference") 1300, Value.str (Str.ofString "_difference") 1301, Value.str (Str.ofString "/claim/cut.py") 1302, Value.int (760) 0, Value.int (2) 0, Value.int (0) 0, Value.int (0) 0, Value.int (3) 0, Value.ref 790, Value.bool true, Value.int (318) 0, Value.ref 791, Value.none, Value.ref 792, Value.ref 793, Value.ref 794, Value.int (1305) 0, Value.int (760) 0, Value.str (Str.ofString "/claim/cut.py") 1306].toArray) [].toArray
def o796 (P : Params) : Obj := Obj.mk (Value.type "function") (none) (Data.func (fnAt (stmAt 28) (Str.ofString "_difference") (Value.none) (Value.none) (Value.none) (Value.str (Str.ofString "cpy313.zipfile._path") 1298) (none) (Value.ref 795) (Value.none))) [].toArray
def o802 (P : Params) : Obj := Obj.mk (Value.type "code") (none) (Data.fields [Value.str (Str.ofString "_law_bare") 1310, Value.str (Str.ofString "_law_bare") 1311, Value.str (Str.ofString "/claim/cut.py") 1312, Value.int (763) 0, Value.int (1) 0, Value.int (0) 0, Value.int (0) 0, Value.int (3) 0, Value.ref 797, Value.bool true, Value.int (318) 0, Value.ref 798, Value.none, Value.ref 799, Value.ref 800, Value.ref 801, Value.int (1315) 0, Value.int (763) 0, Value.str (Str.ofString "/claim/cut.py") 1316].toArray) [].toArray
def o803 (P : Params) : Obj := Obj.mk (Value.type "function") (none) (Data.func (fnAt (stmAt 30) (Str.ofString "_law_bare") (Value.none) (Value.none) (Value.none) (Value.str (Str.ofString "law_ij0131_01") 1308) (none) (Value.ref 802) (Value.none))) [].toArray
def o807 (P : Params) : Obj := Obj.mk (Value.type "code") (none) (Data.fields [Value.str (Str.ofString "_law_inner") 1318, Value.str (Str.ofString "_law_inner") 1319, Value.str (Str.ofString "/claim/cut.py") 1320, Value.int (768) 0, Value.int (1) 0, Value.int (0) 0, Value.int (0) 0, Value.int (3) 0, Value.ref 804, Value.bool true, Value.int (318) 0, Value.ref 805, Value.none, Value.none, Value.none, Value.ref 806, Value.int (1321) 0, Value.int (768) 0, Value.str (Str.ofString "/claim/cut.py") 1322].toArray) [].toArray
def o808 (P : Params) : Obj := Obj.mk (Value.type "function") (none) (Data.func (fnAt (stmAt 31) (Str.ofString "_law_inner") (Value.none) (Value.none) (Value.none) (Value.str (Str.ofString "law_ij0131_01") 1308) (none) (Value.ref 807) (Value.none))) [].toArray
def o814 (P : Params) : Obj := Obj.mk (Value.type "code") (none) (Data.fields [Value.str (Str.ofString "_law_link") 1324, Value.str (Str.ofString "_law_link") 1325, Value.str (Str.ofString "/claim/cut.py") 1326, Value.int (776) 0, Value.int (1) 0, Value.int (0) 0, Value.int (0) 0, Value.int (3) 0, Value.ref 809, Value.bool true, Value.int (318) 0, Value.ref 810, Value.none, Value.ref 811, Value.ref 812, Value.ref 813, Value.int (1330) 0, Value.int (776) 0, Value.str (Str.ofString "/claim/cut.py") 1331].toArray) [].toArray
def o815 (P : Params) : Obj := Obj.mk (Value.type "function") (none) (Data.func (fnAt (stmAt 32) (Str.ofString "_law_link") (Value.none) (Value.none) (Value.none) (Value.str (Str.ofString "law_ij0131_01") 1308) (none) (Value.ref 814) (Value.none))) [].toArray
def o821 (P : Params) : Obj := Obj.mk (Value.type "code") (none) (Data.fields [Value.str (Str.ofString "_law_next") 1333, Value.str (Str.ofString "_law_next") 1334, Value.str (Str.ofString "/claim/cut.py") 1335, Value.int (782) 0, Value.int (1) 0, Value.int (0) 0, Value.int (0) 0, Value.int (3) 0, Value.ref 816, Value.bool true, Value.int (318) 0, Value.ref 817, Value.none, Value.ref 818, Value.ref 819, Value.ref 820, Value.int (1339) 0, Value.int (782) 0, Value.str (Str.ofString "/claim/cut.py") 1340].toArray) [].toArray
def o822 (P : Params) : Obj := Obj.mk (Value.type "function") (none) (Data.func (fnAt (stmAt 33) (Str.ofString "_law_next") (Value.none) (Value.none) (Value.none) (Value.str (Str.ofString "law_ij0131_01") 1308) (none) (Value.ref 821) (Value.none))) [].toArray
def o826 (P : Params) : Obj := Obj.mk (Value.type "code") (none) (Data.fields [Value.str (Str.ofString "_law_row") 1342, Value.str (Str.ofString "_law_row") 1343, Value.str (Str.ofString "/claim/cut.py") 1344, Value.int (785) 0, Value.int (1) 0, Value.int (0) 0, Value.int (0) 0, Value.int (3) 0, Value.ref 823, Value.bool true, Value.int (318) 0, Value.ref 824, Value.none, Value.none, Value.none, Value.ref 825, Value.int (1345) 0, Value.int (785) 0, Value.str (Str.ofString "/claim/cut.py") 1346].toArray) [].toArray
def o827 (P : Params) : Obj := Obj.mk (Value.type "function") (none) (Data.func (fnAt (stmAt 34) (Str.ofString "_law_row") (Value.none) (Value.none) (Value.none) (Value.str (Str.ofString "law_ij0131_01") 1308) (none) (Value.ref 826) (Value.none))) [].toArray
def o831 (P : Params) : Obj := Obj.mk (Value.type "code") (none) (Data.fields [Value.str (Str.ofString "law") 1348, Value.str (Str.ofString "law") 1349, Value.str (Str.ofString "/claim/cut.py") 1350, Value.int (793) 0, Value.int (1) 0, Value.int (0) 0, Value.int (0) 0, Value.int (3) 0, Value.ref 828, Value.bool true, Value.int (318) 0, Value.ref 829, Value.none, Value.none, Value.none, Value.ref 830, Value.int (1351) 0, Value.int (793) 0, Value.str (Str.ofString "/claim/cut.py") 1352].toArray) [].toArray
def o832 (P : Params) : Obj := Obj.mk (Value.type "function") (none) (Data.func (fnAt (stmAt 35) (Str.ofString "law") (Value.none) (Value.none) (Value.none) (Value.str (Str.ofString "law_ij0131_01") 1308) (none) (Value.ref 831) (Value.none))) [].toArray
def KF (P : Params) : Frag := (nat_lit 2, o2 P) :: (nat_lit 3, o3 P) :: (nat_lit 48, o48 P) :: (nat_lit 49, o49 P) :: (nat_lit 62, o62 P) :: (nat_lit 63, o63 P) :: (nat_lit 89, o89 P) :: (nat_lit 90, o90 P) :: (nat_lit 92, o92 P) :: (nat_lit 93, o93 P) :: (nat_lit 94, o94 P) :: (nat_lit 107, o107 P) :: (nat_lit 108, o108 P) :: (nat_lit 119, o119 P) :: (nat_lit 120, o120 P) :: (nat_lit 349, o349 P) :: (nat_lit 350, o350 P) :: (nat_lit 360, o360 P) :: (nat_lit 366, o366 P) :: (nat_lit 367, o367 P) :: (nat_lit 373, o373 P) :: (nat_lit 374, o374 P) :: (nat_lit 380, o380 P) :: (nat_lit 381, o381 P) :: (nat_lit 536, o536 P) :: (nat_lit 542, o542 P) :: (nat_lit 543, o543 P) :: (nat_lit 596, o596 P) :: (nat_lit 597, o597 P) :: (nat_lit 649, o649 P) :: (nat_lit 655, o655 P) :: (nat_lit 656, o656 P) :: (nat_lit 662, o662 P) :: (nat_lit 663, o663 P) :: (nat_lit 664, o664 P) :: (nat_lit 692, o692 P) :: (nat_lit 693, o693 P) :: (nat_lit 699, o699 P) :: (nat_lit 700, o700 P) :: (nat_lit 721, o721 P) :: (nat_lit 722, o722 P) :: (nat_lit 728, o728 P) :: (nat_lit 729, o729 P) :: (nat_lit 731, o731 P) :: (nat_lit 732, o732 P) :: (nat_lit 737, o737 P) :: (nat_lit 743, o743 P) :: (nat_lit 744, o744 P) :: (nat_lit 745, o745 P) :: (nat_lit 751, o751 P) :: (nat_lit 752, o752 P) :: (nat_lit 760, o760 P) :: (nat_lit 766, o766 P) :: (nat_lit 767, o767 P) :: (nat_lit 773, o773 P) :: (nat_lit 774, o774 P) :: (nat_lit 780, o780 P) :: (nat_lit 781, o781 P) :: (nat_lit 782, o782 P) :: (nat_lit 784, o784 P) :: (nat_lit 785, o785 P) :: (nat_lit 786, o786 P) :: (nat_lit 787, o787 P) :: (nat_lit 795, o795 P) :: (nat_lit 796, o796 P) :: (nat_lit 802, o802 P) :: (nat_lit 803, o803 P) :: (nat_lit 807, o807 P) :: (nat_lit 808, o808 P) :: (nat_lit 814, o814 P) :: (nat_lit 815, o815 P) :: (nat_lit 821, o821 P) :: (nat_lit 822, o822 P) :: (nat_lit 826, o826 P) :: (nat_lit 827, o827 P) :: (nat_lit 831, o831 P) :: (nat_lit 832, o832 P) :: []
def asF : List Nat := nat_lit 2 :: nat_lit 3 :: nat_lit 48 :: nat_lit 49 :: nat_lit 62 :: nat_lit 63 :: nat_lit 89 :: nat_lit 90 :: nat_lit 92 :: nat_lit 93 :: nat_lit 94 :: nat_lit 107 :: nat_lit 108 :: nat_lit 119 :: nat_lit 120 :: nat_lit 349 :: nat_lit 350 :: nat_lit 360 :: nat_lit 366 :: nat_lit 367 :: nat_lit 373 :: nat_lit 374 :: nat_lit 380 :: nat_lit 381 :: nat_lit 536 :: nat_lit 542 :: nat_lit 543 :: nat_lit 596 :: nat_lit 597 :: nat_lit 649 :: nat_lit 655 :: nat_lit 656 :: nat_lit 662 :: nat_lit 663 :: nat_lit 664 :: nat_lit 692 :: nat_lit 693 :: nat_lit 699 :: nat_lit 700 :: nat_lit 721 :: nat_lit 722 :: nat_lit 728 :: nat_lit 729 :: nat_lit 731 :: nat_lit 732 :: nat_lit 737 :: nat_lit 743 :: nat_lit 744 :: nat_lit 745 :: nat_lit 751 :: nat_lit 752 :: nat_lit 760 :: nat_lit 766 :: nat_lit 767 :: nat_lit 773 :: nat_lit 774 :: nat_lit 780 :: nat_lit 781 :: nat_lit 782 :: nat_lit 784 :: nat_lit 785 :: nat_lit 786 :: nat_lit 787 :: nat_lit 795 :: nat_lit 796 :: nat_lit 802 :: nat_lit 803 :: nat_lit 807 :: nat_lit 808 :: nat_lit 814 :: nat_lit 815 :: nat_lit 821 :: nat_lit 822 :: nat_lit 826 :: nat_lit 827 :: nat_lit 831 :: nat_lit 832 :: []

def qv : Program := PySem.W.view PySem.Challenge.pw_ij0131_01 [0, 1, 2, 3, 5, 6, 7, 8, 9, 10, 11, 12, 14, 15, 16, 17, 18, 19, 21, 23, 24, 26, 28, 30, 31, 32, 33, 34, 35]
abbrev lo : List Str := [Str.ofString "_twin_re_1", Str.ofString "UnsupportedOperation", Str.ofString "IOBase", Str.ofString "BufferedIOBase", Str.ofString "TextIOBase", Str.ofString "BytesIO", Str.ofString "StringIO", Str.ofString "shlex", Str.ofString "split", Str.ofString "_find_unsafe", Str.ofString "filterfalse"]
abbrev HK : Hook := kHook KF asF (fun _ => rfl)

end
section
open PySem PySem.W PyProof.Rows
set_option maxRecDepth 100000
set_option maxHeartbeats 8000000
open PySem.W.Fast

/-- one step of the run on a tree, by the library's quick twins -/
noncomputable def stQ (p : Program) (w : World) : SharedT → Thread → Option (SharedT × Thread) := tw10156331382660048174 (tw11892475500146522536 tw14364793385576792824) p w
theorem stQ_eq (p : Program) (w : World) : stQ p w = stepT (denote treeTable) p w := by
  unfold stQ
  rw [← te10156331382660048174, ← te11892475500146522536, ← te14364793385576792824]
noncomputable def aeQ : Thread → Option (List Value) := tw3805553451399329143
theorem aeQ_eq (t : Thread) : aeQ t = t.atExitBegin := (congrFun te3805553451399329143 t).symm
noncomputable def okQ : Nat → Option Value → Thread → Bool := tw6613529449190102663
theorem okQ_eq (n : Nat) (a : Option Value) (t : Thread) : okQ n a t = stepOk n a t := (congrFun (congrFun (congrFun te6613529449190102663 n) a) t).symm
def ofListC : List Obj → Nat → BT → Option BT
  | [], _, t => some t
  | o :: r, n, t => match ((t.ins n o).get n).isSome with
    | true => ofListC r (n + 1) (t.ins n o)
    | false => none
def toT (s : Shared) : Option SharedT := match ofListC s.heap.objs.toList 0 .nil with
  | some t => some ⟨t, s.heap.objs.size, s.heap.life, s.gens, s.drawn, s.toks, s.os⟩
  | none => none
theorem ofListC_abs : ∀ (l : List Obj) (n : Nat) (t t' : BT) (life : Life), ofListC l n t = some t' → (absHeap t' (n + l.length) life) = ⟨((absHeap t n life).objs.toList ++ l).toArray, life⟩
  | [], n, t, t', life, h => by
    cases h
    rw [List.append_nil]
    rfl
  | o :: r, n, t, t', life, h => by
    unfold ofListC at h
    cases q : ((t.ins n o).get n).isSome with
    | false => rw [q] at h; cases h
    | true =>
      rw [q] at h
      have ih := ofListC_abs r (n + 1) _ _ life h
      rw [absHeap_ins q] at ih
      rw [List.length_cons, show n + (r.length + 1) = n + 1 + r.length by omega, ih]
      show Heap.mk _ _ = Heap.mk _ _
      congr 1
      show ((Array.push (absHeap t n life).objs o).toList ++ r).toArray = _
      rw [Array.toList_push, List.append_assoc]
      rfl
theorem toT_abs {s : Shared} {x : SharedT} (h : toT s = some x) : x.abs = s := by
  unfold toT at h
  cases q : ofListC s.heap.objs.toList 0 .nil with
  | none => rw [q] at h; cases h
  | some t =>
    rw [q] at h
    cases h
    have := ofListC_abs _ 0 _ _ s.heap.life q
    rw [Nat.zero_add] at this
    obtain ⟨heap, gens, drawn, toks, os⟩ := s
    obtain ⟨objs, life⟩ := heap
    show Shared.mk (absHeap t objs.size life) _ _ _ _ = _
    rw [show objs.size = objs.toList.length from (Array.length_toList).symm, this]
    simp [absHeap, BT.list]
noncomputable def impEndT (p : Program) (w : World) : Nat → SharedT → Thread → Option SharedT
  | 0, _, _ => none
  | n + 1, s, t => match aeQ t with
    | some [] => some s
    | some (_ :: _) => none
    | none => match stQ p w s t with
      | some (s', t') => impEndT p w n s' t'
      | none => none
theorem impEndT_of {p : Program} {w : World} : ∀ {n : Nat} {s s' : SharedT} {t : Thread}, impEndT p w n s t = some s' → importEnds treeTable p w n s.abs t = some s'.abs
  | 0, _, _, _, h => by cases h
  | n + 1, s, s', t, h => by
    unfold impEndT at h
    rw [aeQ_eq, stQ_eq] at h
    unfold importEnds
    cases he : t.atExitBegin with
    | some x =>
      rw [he] at h
      cases x with
      | nil => cases h; rfl
      | cons => cases h
    | none =>
      rw [he] at h
      cases hs : stepT (denote treeTable) p w s t with
      | none => rw [hs] at h; cases h
      | some r => obtain ⟨s₂, t₂⟩ := r; rw [hs] at h; dsimp only; rw [stepT_spec hs]; exact impEndT_of h
noncomputable def topT (p : Program) (w : World) (n₀ : Nat) (ann : Option Value) : Nat → SharedT → Thread → Option SharedT
  | 0, _, _ => none
  | n + 1, s, t => match through t with
    | true => some s
    | false => match okQ n₀ ann t with
      | false => none
      | true => match stQ p w s t with
        | some (s', t') => topT p w n₀ ann n s' t'
        | none => none
theorem topT_of {p : Program} {w : World} {n₀ : Nat} {ann : Option Value} : ∀ {n : Nat} {s s' : SharedT} {t : Thread}, topT p w n₀ ann n s t = some s' → topRun treeTable p w n₀ ann n s.abs t = some s'.abs
  | 0, _, _, _, h => by cases h
  | n + 1, s, s', t, h => by
    unfold topT at h
    rw [okQ_eq, stQ_eq] at h
    unfold topRun
    cases he : through t with
    | true => rw [he] at h; cases h; rfl
    | false =>
      rw [he] at h
      cases hk : stepOk n₀ ann t with
      | false => rw [hk] at h; cases h
      | true =>
        rw [hk] at h
        cases hs : stepT (denote treeTable) p w s t with
        | none => rw [hs] at h; cases h
        | some r => obtain ⟨s₂, t₂⟩ := r; rw [hs] at h; dsimp only; rw [stepT_spec hs]; exact topT_of h
def s0T (p : Program) : SharedT := ⟨.nil, 0, {}, #[], {}, 1, { stdin := p.given.stdin.toArray }⟩
theorem s0T_abs (p : Program) : (s0T p).abs = (start p).1 := rfl
noncomputable def stQ0 (p : Program) : Shared × Thread := tw1435165496053646825 p
theorem stQ0_eq (p : Program) : stQ0 p = start p := (congrFun te1435165496053646825 p).symm
noncomputable def feQ : Program → Shared → Option Shared := tw14289696077712309145
theorem feQ_eq (p : Program) (s : Shared) : feQ p s = fenceModules? p s := (congrFun (congrFun te14289696077712309145 p) s).symm
noncomputable def fencedT (p : Program) (w : World) (N : Nat) : Option SharedT :=
  match impEndT (opening p) w N (s0T (opening p)) (stQ0 (opening p)).2 with
  | some s => match feQ p s.abs with
    | some s' => toT s'
    | none => none
  | none => none
theorem fencedT_of {p : Program} {w : World} {N : Nat} {s : SharedT} (h : fencedT p w N = some s) : fencedOpening treeTable p w N = some s.abs := by
  unfold fencedT at h
  rw [stQ0_eq] at h
  unfold fencedOpening
  cases q : impEndT (opening p) w N (s0T (opening p)) (start (opening p)).2 with
  | none => rw [q] at h; cases h
  | some s1 =>
    rw [q] at h
    dsimp only at h
    rw [feQ_eq] at h
    have := impEndT_of q
    rw [s0T_abs] at this
    rw [this]
    cases q2 : fenceModules? p s1.abs with
    | none => rw [q2] at h; cases h
    | some s2 =>
      rw [q2] at h
      dsimp only at h
      show fenceModules? p s1.abs = _
      rw [q2, toT_abs h]
noncomputable def nsQ : Heap → Addr → Str → Option Value := tw8920871248978507458
theorem nsQ_eq (h : Heap) (a : Addr) (x : Str) : nsQ h a x = h.nsMap a x := (congrFun (congrFun (congrFun te8920871248978507458 h) a) x).symm
noncomputable def imQ : List Stmt → List Str := tw5923862056798008813
theorem imQ_eq (p : List Stmt) : imQ p = importedModules p := (congrFun te5923862056798008813 p).symm
theorem te_open : @openSeen = @tw4187177175401517315 := te4187177175401517315
noncomputable def wholeT (p q : Program) (loose : List Str) (Xt : Shared → Bool) {α : Type} (Yf : Shared → α) (N : Nat) (w : World) :=
  match fencedT p w N with
  | none => none
  | some s₀ => match s₀.abs.heap.isNs mainGlobals && s₀.abs.gens.size == 0 with
    | false => none
    | true => match topT p w s₀.abs.heap.objs.size (nsQ s₀.abs.heap mainGlobals "__annotations__") N s₀ (topStub p) with
      | none => none
      | some s₁ => match staticsOk (imQ p.main.body) s₀.abs.heap s₁.abs.heap && namesBound p s₁.abs.heap && gensDone s₁.abs && laidKept s₀.abs.heap s₁.abs.heap with
        | true => some (tw4187177175401517315 q loose (imQ p.main.body) Xt true s₁.abs, Yf s₁.abs)
        | false => none
theorem leftO_of_T {p q : Program} {loose : List Str} {Xt : Shared → Bool} {α : Type} {Yf : Shared → α} {Ya : World → α} {N : Nat} (h : ∀ w, wholeT p q loose Xt Yf N w = some (openGood q loose, Ya w)) : LeftO p q loose Xt Yf Ya N := by
  intro w
  have h := h w
  unfold wholeT at h
  simp only [nsQ_eq, imQ_eq] at h
  rw [← te_open] at h
  unfold openEnds
  cases q1 : fencedT p w N with
  | none => rw [q1] at h; cases h
  | some s₀ =>
    rw [q1] at h
    dsimp only at h
    rw [fencedT_of q1]
    show Option.map _ (topFrom treeTable p w N s₀.abs) = _
    unfold topFrom
    cases q2 : (s₀.abs.heap.isNs mainGlobals && s₀.abs.gens.size == 0) with
    | false => rw [q2] at h; cases h
    | true =>
      rw [q2] at h
      dsimp only at h ⊢
      cases q3 : topT p w s₀.abs.heap.objs.size (s₀.abs.heap.nsMap mainGlobals "__annotations__") N s₀ (topStub p) with
      | none => rw [q3] at h; cases h
      | some s₁ =>
        rw [q3] at h
        dsimp only at h
        rw [topT_of q3]
        show Option.map _ (match _ with | true => some s₁.abs | false => none) = _
        cases q4 : (staticsOk (importedModules p.main.body) s₀.abs.heap s₁.abs.heap && namesBound p s₁.abs.heap && gensDone s₁.abs && laidKept s₀.abs.heap s₁.abs.heap) with
        | false => rw [q4] at h; cases h
        | true =>
          rw [q4] at h
          exact h
/-- what the run's two states answer -/
noncomputable def runT (p : Program) (N : Nat) (w : World) {β : Type} (f : SharedT → SharedT → β) : Option β :=
  match fencedT p w N with
  | none => none
  | some s₀ => match topT p w s₀.abs.heap.objs.size (nsQ s₀.abs.heap mainGlobals "__annotations__") N s₀ (topStub p) with
    | none => none
    | some s₁ => some (f s₀ s₁)
noncomputable def looksT (p : Program) (s₀ s₁ : SharedT) : Bool :=
  (s₀.abs.heap.isNs mainGlobals && s₀.abs.gens.size == 0) && (staticsOk (imQ p.main.body) s₀.abs.heap s₁.abs.heap && namesBound p s₁.abs.heap && gensDone s₁.abs && laidKept s₀.abs.heap s₁.abs.heap)
theorem whole_of {p q : Program} {loose : List Str} {Xt : Shared → Bool} {α : Type} {Yf : Shared → α} {N : Nat} {w : World} {A} {Y : α}
    (h1 : runT p N w (fun _ s₁ => tw4187177175401517315 q loose (imQ p.main.body) Xt true s₁.abs) = some A)
    (h2 : runT p N w (fun s₀ s₁ => (looksT p s₀ s₁, Yf s₁.abs)) = some (true, Y)) : wholeT p q loose Xt Yf N w = some (A, Y) := by
  unfold runT at h1 h2
  unfold wholeT
  cases e0 : fencedT p w N with
  | none => rw [e0] at h1; cases h1
  | some s₀ =>
    rw [e0] at h1 h2
    dsimp only at h1 h2 ⊢
    cases e1 : topT p w s₀.abs.heap.objs.size (nsQ s₀.abs.heap mainGlobals "__annotations__") N s₀ (topStub p) with
    | none => rw [e1] at h1; cases h1
    | some s₁ =>
      rw [e1] at h1 h2
      have h1 := Option.some.inj h1
      have h2 := Option.some.inj h2
      have hl : looksT p s₀ s₁ = true := congrArg Prod.fst h2
      have hy : Yf s₁.abs = Y := congrArg Prod.snd h2
      unfold looksT at hl
      obtain ⟨l1, l2⟩ := Bool.and_eq_true_iff.mp hl
      rw [l1]
      dsimp only
      rw [l2]
      dsimp only
      rw [h1, hy]

end
section
open PySem PySem.W PyProof.Rows
set_option maxRecDepth 100000
set_option maxHeartbeats 80000000
theorem hl1 (w : World) : runT PySem.Challenge.pw_ij0131_01 10924 w (fun _ s₁ => PySem.W.Fast.tw4187177175401517315 qv lo (imQ PySem.Challenge.pw_ij0131_01.main.body) (fun s => xlAt qv [] s && recOk (OpenRow.toRowW (OpenLaw.row PySem.Challenge.rw_ij0131_01)).records s) true s₁.abs) = some (openGood qv lo) := by
  kernel_rfl
theorem hl2 (w : World) : runT PySem.Challenge.pw_ij0131_01 10924 w (fun s₀ s₁ => (looksT PySem.Challenge.pw_ij0131_01 s₀ s₁, Hook.obs HK s₁.abs)) = some (true, Hook.val HK w) := by
  kernel_rfl
theorem hl (w : World) : wholeT PySem.Challenge.pw_ij0131_01 qv lo (fun s => xlAt qv [] s && recOk (OpenRow.toRowW (OpenLaw.row PySem.Challenge.rw_ij0131_01)).records s) (Hook.obs HK) 10924 w = some (openGood qv lo, Hook.val HK w) :=
  whole_of (hl1 w) (hl2 w)

end
section
open PySem PySem.W PyProof.Rows
set_option maxRecDepth 100000
set_option maxHeartbeats 80000000
/-- the law is well said, look by look (each look a check of its own) -/
theorem ws : PySem.Challenge.rw_ij0131_01.wellSaid = true := by
  rw [PySem.W.Fast.te9446332074065402090]
  unfold PySem.W.Fast.tw9446332074065402090
  repeat' with_reducible refine look_both ?_ ?_
  · unfold Fast.tw17960256430627541270
    repeat' with_reducible refine look_both ?_ ?_
    · unfold Fast.tw2436336058641802641
      repeat' with_reducible refine look_both ?_ ?_
      · unfold Fast.tw12908688711261696721
        repeat' with_reducible refine look_both ?_ ?_
        all_goals first
          | (with_reducible show Fast.tw8326940854005059898 _ _ = true
             refine Eq.trans (congrArg (fun lk => Fast.tw8326940854005059898 lk (Fast.tw2368527892694137696 Challenge.rw_ij0131_01).prog.main.body) (show _ = ({ strict := false, foot := none, bare := [] } : Look) from by kernel_rfl)) ?_
             (decide +kernel))
          | (decide +kernel)
      all_goals (decide +kernel)
    all_goals (decide +kernel)
  all_goals (decide +kernel)
theorem whole_tables : (OpenRow.toRowW (OpenLaw.row PySem.Challenge.rw_ij0131_01)).prog.tablesWhole = true := by
  unfold Program.tablesWhole TablesWhole.wProgram
  rw [PySem.W.Fast.te6116379765354995101]
  decide +kernel

end
section
section
open PySem PySem.W PyProof.Rows PySem.Calls
set_option maxRecDepth 100000
set_option maxHeartbeats 8000000
abbrev PR : Program := PySem.Challenge.rw_ij0131_01.row.prog
/-- what a def of the text gives back, for every caller -/
def Con (w : World) (f : Addr) (d u : Nat) (vs : List Value) (Out : Value → List (Addr × Obj) → Prop) : Prop :=
  ∀ (dp un : Nat) (gd : Option (List Code)) (cn : Str) (cs : Scope) (a : Addr) (ccd : Value) (cl : List (Str × Addr)) (outer : List Env) (A₀ : Around) (base h₀ : Heap) (L : Addr) (m : Str → Option Value) (news : List (Addr × Obj)) (s : Shared)
    (mean : ExcName → Option Value) (mg mb : Str → Option Value) (Q E : Value → Shared → Prop),
    Below A₀ base outer h₀ → Fr h₀ L s.heap m → (KF w.params).In h₀ → News h₀ L s.heap news → Top qv (looseW qv lo) mean mg mb h₀ → cs.kind = .function → dp + d < recursionLimit → un + u < cLine →
    (∀ v h' tk' tl, Fr h₀ L h' m → News h₀ L h' (tl ++ news) → (∀ q ∈ news, ∀ p ∈ tl, q.1 < p.1) → Out v tl → Q v { s with heap := h', toks := tk' }) →
    wpAny (model PySem.Challenge.rw_ij0131_01.row.prog w) (ktrTop dp un gd cn cs L a ccd cl outer) (call (.ref f) vs) Q E s
theorem gen_toks {α : Type} {M : Model} {A : Around} {t : Sem α} {Q : α → Shared → Prop} {E : Value → Shared → Prop} {h : Heap} {g : Array GenState} {d : Drawn} {k : Nat} {o : OsState}
    (H : ∀ k, wpAny M A t Q E ⟨h, g, d, k, o⟩) : wpAny M A t Q E ⟨h, g, d, k, o⟩ := H k
theorem truthy_any {prog : Program} {w : World} {A : Around} {E : Value → Shared → Prop} {s : Shared} {x : Str} {t : Tok} {Q : Bool → Shared → Prop} (hl : x.length ≤ 16777216) (h1 : x = ⟨#[]⟩ → ∀ k, Q false { s with toks := k }) (h2 : x ≠ ⟨#[]⟩ → ∀ k, Q true { s with toks := k }) :
    wpAny (model prog w) A (PySem.truthy (.str x t)) Q E s := by
  by_cases e : x = ⟨#[]⟩
  · exact KXt.truthy (b := false) (by subst e; rfl) hl (h1 e)
  · refine KXt.truthy (b := true) ?_ hl (h2 e)
    have : x.length ≠ 0 := fun q => e (by
      obtain ⟨c⟩ := x
      have : c.size = 0 := q
      rw [Array.size_eq_zero_iff.mp this])
    simp only [bne_iff_ne, ne_eq]
    omega

end
open PySem PySem.W PyProof.Rows PySem.Calls
set_option maxRecDepth 100000
set_option maxHeartbeats 8000000
local macro_rules | `(tactic| walk_at "execs cons") => `(tactic| (k_here; refine' gen_toks ?_; intro tk; (with_reducible refine wpAny_execs_cons ?_); try dsimp only))
local macro_rules | `(tactic| walk_at "execs nil") => `(tactic| (k_here; refine' gen_toks ?_; intro tk; (with_reducible refine wpAny_execs_nil ?_); try dsimp only))
section
open PySem PySem.W PyProof.Rows PySem.Calls
set_option maxRecDepth 100000
set_option maxHeartbeats 8000000
abbrev SAFE : Str := Str.ofString "ABCDEFGHIJKLMNOPQRSTUVWXYZabcdefghijklmnopqrstuvwxyz0123456789_@%+=:,./-"
def offS (a : Str) : Bool := !!(Builtin.Str.occurrences SAFE a 0 SAFE.length 1).isEmpty
/-- _law_bare -/
def bareF (x : Str) : Bool := ((signs x).all fun a => !offS a) && (x != Str.ofString "")
theorem bareF_off {x a : Str} (ha : a ∈ signs x) (h : offS a = true) : bareF x = false := by
  unfold bareF
  rw [Bool.and_eq_false_iff]
  refine .inl ?_
  rw [List.all_eq_false]
  exact ⟨a, ha, by simp [h]⟩
theorem bareF_on {x : Str} (h : ∀ a, a ∈ signs x → offS a = false) : bareF x = (x != Str.ofString "") := by
  unfold bareF
  rw [List.all_eq_true.mpr (fun a ha => by simp [h a ha]), Bool.true_and]

theorem c_bare {w : World} (x : Str) (t : Tok) : Con w 803 1 8 [.str x t] (fun v tl => v = .bool (bareF x) ∧ tl = []) := by
  unfold Con
  k_fill
  intro dp un gd cn cs a ccd cl outer A₀ base h₀ L m news s mean mg mb Q E B F X N T hk hd hu hret
  refine wpAny_call ?_
  refine' code_def (binds := [(Str.ofString "told", Value.str x t)]) ?k1 ?k2 ?k3 ?k4 ?k5 ?kA ?kF ?kK ?k6 ?k7 ?k8 ?k9 ?kB ?_ ?c2 ?c3 ?c4 ?c5
  case kA => exact rfl
  case kF => exact rfl
  case kK => assumption
  case k1 => k_asm
  case k2 => k_asm
  case k3 => k_asm
  case k4 => k_asm
  case k5 => k_asm
  case k6 => k_is
  case k7 => k_is
  case k8 => ktr_room
  case k9 => exact BindsTo.of_eq rfl
  case c5 => decide
  case kB => exact locs rfl
  case c2 => exact rfl
  case c3 => exact rfl
  case c4 => exact rfl
  k_whole
  intro g' L' h' FG' F' N' B' X' T'
  try dsimp only
  try k_lift B'
  try k_fold

  k_steps
  · refine hret _ _ _ [] (by assumption) (cb_drop (by assumption) (fun p hp => List.mem_append_right _ hp)) (fun _ _ _ h => nomatch h) ⟨?_, rfl⟩
    rw [bareF_off (by assumption) (by assumption)]
  · refine hret _ _ _ [] (by assumption) (by assumption) (fun _ _ _ h => nomatch h) ⟨?_, rfl⟩
    rw [bareF_on (by assumption)]
theorem use_bare {w : World} {x : Str} {t : Tok} {dp un : Nat} {gd : Option (List Code)} {cn : Str} {cs : Scope} {a : Addr} {ccd : Value} {cl : List (Str × Addr)} {outer : List Env} {A₀ : Around} {base h₀ : Heap} {L : Addr} {m : Str → Option Value} {news : List (Addr × Obj)} {s : Shared}
    {mean : ExcName → Option Value} {mg mb : Str → Option Value} {Q E : Value → Shared → Prop}
    (B : Below A₀ base outer h₀) (F : Fr h₀ L s.heap m) (X : (KF w.params).In h₀) (N : News h₀ L s.heap news) (T : Top qv (looseW qv lo) mean mg mb h₀) (hk : cs.kind = .function) (hd : dp + 1 < recursionLimit) (hu : un + 8 < cLine)
    (h : ∀ h' tk', Fr h₀ L h' m → News h₀ L h' news → Q (.bool (bareF x)) { s with heap := h', toks := tk' }) :
    wpAny (model PySem.Challenge.rw_ij0131_01.row.prog w) (ktrTop dp un gd cn cs L a ccd cl outer) (call (.ref 803) [.str x t]) Q E s := by
  refine c_bare x t dp un gd cn cs a ccd cl outer A₀ base h₀ L m news s mean mg mb Q E B F X N T hk hd hu ?_
  rintro v h' tk' tl F' N' _ ⟨rfl, rfl⟩
  exact h h' tk' F' N'

end
section
open PySem PySem.W PyProof.Rows PySem.Calls
set_option maxRecDepth 100000
set_option maxHeartbeats 8000000
theorem split_weight (x y : Str) (hy : 1 ≤ y.length) : ((Txt.split x y).map (·.length)).sum + (Txt.split x y).length ≤ x.length + 1 := by
  have h := StrLaws.join_split x y
  cases e : Txt.split x y with
  | nil => simp
  | cons a l =>
    rw [e] at h
    have hl := len_join_cons y a l
    rw [h] at hl
    rw [hl]
    have : l.length ≤ l.length * y.length := Nat.le_mul_of_pos_right _ hy
    simp only [List.length_cons]
    omega
theorem join_split {prog : Program} {w : World} {A : Around} {E : Value → Shared → Prop} {s : Shared} {h₀ : Heap} {L D : Addr} {news : List (Addr × Obj)} {l : List (Str × Tok)} {x y sep : Str} {t : Tok} {Q : Value → Shared → Prop}
    (N : News h₀ L s.heap news) (hm : (D, ({ cls := .type "list", data := .seq (strValues l).toArray } : Obj)) ∈ news) (hs : List.map (fun x => x.fst) l = Txt.split y sep) (hsep : 1 ≤ sep.length) (hx : x.length ≤ 16) (hy : y.length ≤ 100000)
    (h : ∀ t' k, Q (.str (Txt.join x (Txt.split y sep)) t') { s with toks := k }) : wpAny (model prog w) A (call (.builtin "str.join") [.str x t, .ref D]) Q E s := by
  have hw := split_weight y sep hsep
  have hi : StrsAre (strValues l) (Txt.split y sep) := by
    rw [← hs]
    clear hm hs
    induction l with
    | nil => exact .nil
    | cons p r ih => exact .cons _ _ ih
  exact join_listW (items := (strValues l).toArray) ⟨_, (N _ hm).1, rfl, _, rfl⟩ hi hx (by omega) h
theorem truthy_carried {prog : Program} {w : World} {A : Around} {E : Value → Shared → Prop} {s : Shared} {D : Addr} {ys : List Value} {ds : List PyData} {Q : Bool → Shared → Prop} (hl : s.heap.IsList D ys.toArray) (hc : CarriedAll ys ds) (hn : ds.length ≤ 1000000)
    (h1 : ds = [] → ∀ k, Q false { s with toks := k }) (h2 : ds ≠ [] → ∀ k, Q true { s with toks := k }) : wpAny (model prog w) A (truthy (.ref D)) Q E s := by
  have e : ys.length = ds.length := hc.length_eq
  refine wpAny_truthy_list hl (by rw [List.size_toArray]; omega) ?_
  cases ds with
  | nil =>
    have : ys = [] := List.length_eq_zero_iff.mp e
    subst this
    exact h1 rfl _
  | cons d r =>
    cases ys with
    | nil => simp at e
    | cons y q => exact h2 (by simp) _
abbrev SEP : Str := Str.ofString "'\"'\"'"
abbrev midF (x : Str) : Str := Txt.slice x (some 1) (some (-1))
abbrev hasQ (a : Str) : Bool := !(Builtin.Str.occurrences a (Str.ofString "'") 0 a.length 1).isEmpty
abbrev plainF (x : Str) : Str := Txt.join (Str.ofString "'") (Txt.split (midF x) SEP)
/-- _law_inner -/
def innerF (x : Str) : Option Str :=
  if (x.length : Int) < 2 then none else
  if (Txt.item x 0 != Str.ofString "'") = true then none else
  if (Txt.item x (-1) != Str.ofString "'") = true then none else
  if ((Txt.split (midF x) SEP).filter hasQ) ≠ [] then none else
  if bareF (plainF x) = true then none else some (plainF x)
def OptV (r : Option Str) (v : Value) : Prop := match r with
  | none => v = .none
  | some p => ∃ t, v = .str p t
theorem fit_filter {l : List (Str × Tok)} {y sep : Str} {p : Str → Bool} (hs : List.map (fun x => x.fst) l = Txt.split y sep) (hsep : 1 ≤ sep.length) (hy : y.length ≤ 100000) :
    (List.map PyData.str (List.filter p (List.map (fun x => x.fst) l))).length ≤ 1000000 := by
  rw [List.length_map, hs]
  have h1 := List.length_filter_le p (Txt.split y sep)
  have h2 := split_weight y sep hsep
  omega
section
variable {x : Str} {l : List (Str × Tok)}
theorem inner1 (h : (x.length : Int) < 2) : OptV (innerF x) .none := by
  have e : innerF x = none := by unfold innerF; rw [if_pos h]
  rw [e]; rfl
theorem inner2 (h : ¬ (x.length : Int) < 2) (h0 : (Txt.item x 0 != Str.ofString "'") = true) : OptV (innerF x) .none := by
  have e : innerF x = none := by unfold innerF; rw [if_neg h, if_pos h0]
  rw [e]; rfl
theorem inner3 (h : ¬ (x.length : Int) < 2) (h0 : (Txt.item x 0 != Str.ofString "'") = false) (h1 : (Txt.item x (-1) != Str.ofString "'") = true) : OptV (innerF x) .none := by
  have e : innerF x = none := by unfold innerF; rw [if_neg h, if_neg (by rw [h0]; decide), if_pos h1]
  rw [e]; rfl
theorem inner4 (h : ¬ (x.length : Int) < 2) (h0 : (Txt.item x 0 != Str.ofString "'") = false) (h1 : (Txt.item x (-1) != Str.ofString "'") = false) (hs : List.map (fun x => x.fst) l = Txt.split (midF x) SEP)
    (hn : List.map PyData.str (List.filter (fun a => hasQ a) (List.map (fun x => x.fst) l)) ≠ []) : OptV (innerF x) .none := by
  have e : innerF x = none := by
    unfold innerF
    rw [if_neg h, if_neg (by rw [h0]; decide), if_neg (by rw [h1]; decide), if_pos]
    intro q
    rw [hs] at hn
    exact hn (by rw [q]; rfl)
  rw [e]; rfl
theorem inner5 (h : ¬ (x.length : Int) < 2) (h0 : (Txt.item x 0 != Str.ofString "'") = false) (h1 : (Txt.item x (-1) != Str.ofString "'") = false) (hs : List.map (fun x => x.fst) l = Txt.split (midF x) SEP)
    (hn : List.map PyData.str (List.filter (fun a => hasQ a) (List.map (fun x => x.fst) l)) = []) (hb : bareF (plainF x) = true) : OptV (innerF x) .none := by
  have e : innerF x = none := by
    unfold innerF
    rw [if_neg h, if_neg (by rw [h0]; decide), if_neg (by rw [h1]; decide), if_neg, if_pos hb]
    intro q
    rw [hs] at hn
    exact q (List.map_eq_nil_iff.mp hn)
  rw [e]; rfl
theorem inner6 {t : Tok} (h : ¬ (x.length : Int) < 2) (h0 : (Txt.item x 0 != Str.ofString "'") = false) (h1 : (Txt.item x (-1) != Str.ofString "'") = false) (hs : List.map (fun x => x.fst) l = Txt.split (midF x) SEP)
    (hn : List.map PyData.str (List.filter (fun a => hasQ a) (List.map (fun x => x.fst) l)) = []) (hb : bareF (plainF x) = false) : OptV (innerF x) (.str (plainF x) t) := by
  have e : innerF x = some (plainF x) := by
    unfold innerF
    rw [if_neg h, if_neg (by rw [h0]; decide), if_neg (by rw [h1]; decide), if_neg, if_neg (by rw [hb]; decide)]
    intro q
    rw [hs] at hn
    exact q (List.map_eq_nil_iff.mp hn)
  rw [e]; exact ⟨t, rfl⟩
end
local macro_rules | `(tactic| walk_at "call builtin:str.join") => `(tactic| (k_here; (with_reducible show wpAny _ _ (call (Value.builtin "str.join") [Value.str _ _, Value.ref _]) _ _ _); k_dflt (refine' join_split ?k1 ?k2 ?k3 ?k4 ?k5 ?k6 ?_; (case k1 => k_asm); (case k2 => k_mem); (case k3 => assumption); (case k4 => decide); (case k5 => decide); (case k6 => omega); k_whole); intro t9 k9))
local macro_rules | `(tactic| walk_at "truthy ref") => `(tactic| (k_here; k_dflt (refine' truthy_carried ?k1 ?k2 ?k3 ?_ ?_; (case k1 => assumption); (case k2 => assumption); (case k3 => exact fit_filter (by assumption) (by decide) (by omega))); all_goals (intro _ _; (try dsimp only))))
local macro_rules | `(tactic| walk_at "call ref") => `(tactic| (k_here; (with_reducible show wpAny _ _ (call (Value.ref 803) [Value.str _ _]) _ _ _); k_dflt (refine' use_bare ?k1 ?k2 ?k3 ?k4 ?k5 ?k6 ?k7 ?k8 ?_; (case k1 => k_asm); (case k2 => k_asm); (case k3 => k_asm); (case k4 => k_asm); (case k5 => k_asm); (case k6 => first | exact rfl | assumption); (case k7 => ktr_room); (case k8 => ktr_units); k_whole); intro h9 tk9 F9 N9; (try dsimp only); (try k_fold)))

theorem c_inner {w : World} (x : Str) (t : Tok) (hx : x.length ≤ 1000) : Con w 808 2 16 [.str x t] (fun v tl => OptV (innerF x) v ∧ tl = []) := by
  unfold Con
  k_fill
  intro dp un gd cn cs a ccd cl outer A₀ base h₀ L m news s mean mg mb Q E B F X N T hk hd hu hret
  refine wpAny_call ?_
  refine' code_def (binds := [(Str.ofString "told", Value.str x t)]) ?k1 ?k2 ?k3 ?k4 ?k5 ?kA ?kF ?kK ?k6 ?k7 ?k8 ?k9 ?kB ?_ ?c2 ?c3 ?c4 ?c5
  case kA => exact rfl
  case kF => exact rfl
  case kK => assumption
  case k1 => k_asm
  case k2 => k_asm
  case k3 => k_asm
  case k4 => k_asm
  case k5 => k_asm
  case k6 => k_is
  case k7 => k_is
  case k8 => ktr_room
  case k9 => exact BindsTo.of_eq rfl
  case c5 => decide
  case kB => exact locs rfl
  case c2 => exact rfl
  case c3 => exact rfl
  case c4 => exact rfl
  k_whole
  intro g' L' h' FG' F' N' B' X' T'
  try dsimp only
  try k_lift B'
  try k_fold

  k_steps
  · refine hret _ _ _ [] (by assumption) (cb_drop (by assumption) (fun p hp => by have hp : p ∈ news := hp; simp [hp])) (fun _ _ _ h => nomatch h) ⟨?_, rfl⟩
    exact inner1 (by assumption)
  · refine hret _ _ _ [] (by assumption) (cb_drop (by assumption) (fun p hp => by have hp : p ∈ news := hp; simp [hp])) (fun _ _ _ h => nomatch h) ⟨?_, rfl⟩
    exact inner2 (by assumption) (by assumption)
  · refine hret _ _ _ [] (by assumption) (cb_drop (by assumption) (fun p hp => by have hp : p ∈ news := hp; simp [hp])) (fun _ _ _ h => nomatch h) ⟨?_, rfl⟩
    exact inner3 (by assumption) (by assumption) (by assumption)
  · refine hret _ _ _ [] (by assumption) (cb_drop (by assumption) (fun p hp => by have hp : p ∈ news := hp; simp [hp])) (fun _ _ _ h => nomatch h) ⟨?_, rfl⟩
    exact inner5 (by assumption) (by assumption) (by assumption) (by assumption) (by assumption) (by assumption)
  · refine hret _ _ _ [] (by assumption) (cb_drop (by assumption) (fun p hp => by have hp : p ∈ news := hp; simp [hp])) (fun _ _ _ h => nomatch h) ⟨?_, rfl⟩
    exact inner6 (by assumption) (by assumption) (by assumption) (by assumption) (by assumption) (by assumption)
  · refine hret _ _ _ [] (by assumption) (cb_drop (by assumption) (fun p hp => by have hp : p ∈ news := hp; simp [hp])) (fun _ _ _ h => nomatch h) ⟨?_, rfl⟩
    exact inner4 (by assumption) (by assumption) (by assumption) (by assumption) (by assumption)
theorem use_inner {w : World} {x : Str} {t : Tok} {dp un : Nat} {gd : Option (List Code)} {cn : Str} {cs : Scope} {a : Addr} {ccd : Value} {cl : List (Str × Addr)} {outer : List Env} {A₀ : Around} {base h₀ : Heap} {L : Addr} {m : Str → Option Value} {news : List (Addr × Obj)} {s : Shared}
    {mean : ExcName → Option Value} {mg mb : Str → Option Value} {Q E : Value → Shared → Prop} (hx : x.length ≤ 1000)
    (B : Below A₀ base outer h₀) (F : Fr h₀ L s.heap m) (X : (KF w.params).In h₀) (N : News h₀ L s.heap news) (T : Top qv (looseW qv lo) mean mg mb h₀) (hk : cs.kind = .function) (hd : dp + 2 < recursionLimit) (hu : un + 16 < cLine)
    (h : ∀ h' tk' v, Fr h₀ L h' m → News h₀ L h' news → OptV (innerF x) v → Q v { s with heap := h', toks := tk' }) :
    wpAny (model PySem.Challenge.rw_ij0131_01.row.prog w) (ktrTop dp un gd cn cs L a ccd cl outer) (call (.ref 808) [.str x t]) Q E s := by
  refine c_inner x t hx dp un gd cn cs a ccd cl outer A₀ base h₀ L m news s mean mg mb Q E B F X N T hk hd hu ?_
  rintro v h' tk' tl F' N' _ ⟨hv, rfl⟩
  exact h h' tk' v F' N' hv

end
section
open PySem PySem.W PyProof.Rows PySem.Calls
set_option maxRecDepth 100000
set_option maxHeartbeats 8000000
abbrev CODE : Array Nat := #[14, 17, 4, 1, 1, 21, 9, 0, 604043296, 1, 0, 0, 0, 0, 0, 8, 4, 0, 13, 14, 21, 9, 0, 604043296, 1, 0, 0, 0, 0, 0, 8, 4, 0, 1]
def bitC (c : Nat) : Bool := decide (c < 256) && (CODE.getD (6 + (1 + c / 32)) 0).testBit (c % 32)
def okC (c : Nat) : Bool := bitC c || Sre.isWord c
open Sre in
theorem inSet1 (c : Nat) (seen : Sre.Seen) : ∃ s', inSet CODE c 34 5 true seen = .ok (!okC c, s') := by
  have e : inSet CODE c 34 5 true seen = (if bitC c = true then .ok (false, (seen.add 21).add 9) else
      (category 4 c).bind fun b => if b = true then .ok (false, (((seen.add 21).add 9).add 8).add (55 + 4)) else .ok (true, ((((seen.add 21).add 9).add 8).add (55 + 4)).add 0)) := by rfl
  rw [e]
  have ec : category 4 c = .ok (Sre.isWord c) := by
    unfold category
    simp [Except.map]
  rw [ec]
  unfold okC
  cases h1 : bitC c <;> cases h2 : Sre.isWord c <;> simp [Except.bind]
open Sre in
theorem inSet2 (c : Nat) (seen : Sre.Seen) : ∃ s', inSet CODE c 34 20 true seen = .ok (!okC c, s') := by
  have eb : bitC c = (decide (c < 256) && (CODE.getD (21 + (1 + c / 32)) 0).testBit (c % 32)) := by
    unfold bitC
    by_cases h : c < 256
    · have : c / 32 < 8 := by omega
      have : c / 32 = 0 ∨ c / 32 = 1 ∨ c / 32 = 2 ∨ c / 32 = 3 ∨ c / 32 = 4 ∨ c / 32 = 5 ∨ c / 32 = 6 ∨ c / 32 = 7 := by omega
      rcases this with q | q | q | q | q | q | q | q <;> rw [q] <;> rfl
    · simp [h]
  have e : inSet CODE c 34 20 true seen = (if (decide (c < 256) && (CODE.getD (21 + (1 + c / 32)) 0).testBit (c % 32)) = true then .ok (false, (seen.add 21).add 9) else
      (category 4 c).bind fun b => if b = true then .ok (false, (((seen.add 21).add 9).add 8).add (55 + 4)) else .ok (true, ((((seen.add 21).add 9).add 8).add (55 + 4)).add 0)) := by rfl
  rw [e, ← eb]
  have ec : category 4 c = .ok (Sre.isWord c) := by
    unfold category
    simp [Except.map]
  rw [ec]
  unfold okC
  cases h1 : bitC c <;> cases h2 : Sre.isWord c <;> simp [Except.bind]

open Sre in
theorem admitted_spec (m : Sre.M) (hc : m.code = CODE) : ∀ (fuel p : Nat) (seen : Sre.Seen), m.lim < fuel + p + 1 →
    (∃ s', Sre.M.admitted m fuel p seen = .ok (none, s') ∧ ∀ i, p ≤ i → i < m.lim → okC (m.text.getD i 0) = true) ∨
    (∃ k s', Sre.M.admitted m fuel p seen = .ok (some k, s') ∧ p ≤ k ∧ k < m.lim ∧ okC (m.text.getD k 0) = false)
  | 0, p, seen, h => .inl ⟨seen, rfl, fun i h1 h2 => by omega⟩
  | fuel + 1, p, seen, h => by
    unfold Sre.M.admitted
    by_cases hp : p ≥ m.lim
    · rw [if_pos hp]
      exact .inl ⟨_, rfl, fun i h1 h2 => by omega⟩
    · rw [if_neg hp]
      obtain ⟨s', e⟩ := inSet1 (m.text.getD p 0) seen
      have hs : m.code.size = 34 := by rw [hc]; rfl
      have e' : Sre.inSet m.code (m.text.getD p 0) m.code.size 5 true seen = .ok (!okC (m.text.getD p 0), s') := by rw [hs, hc]; exact e
      rw [e']
      cases hk : okC (m.text.getD p 0) with
      | false => exact .inr ⟨p, s', rfl, Nat.le_refl _, by omega, hk⟩
      | true =>
        show (∃ s'', Sre.M.admitted m fuel (p + 1) s' = _ ∧ _) ∨ _
        rcases admitted_spec m hc fuel (p + 1) s' (by omega) with ⟨s2, e2, q⟩ | ⟨k, s2, e2, q1, q2, q3⟩
        · refine .inl ⟨s2, e2, fun i h1 h2 => ?_⟩
          by_cases hi : i = p
          · rw [hi]; exact hk
          · exact q i (by omega) h2
        · exact .inr ⟨k, s2, e2, by omega, q2, q3⟩
def m0 (text : Array Nat) : Sre.M := { code := CODE, text := text, lim := text.size, start := 0, lastStart := text.size, pc := 18, pos := 0, handed := 0, marks := #[], mustAdvance := false, seen := Sre.Seen.add {} 14 }
theorem forSearch_eq (text : Array Nat) (hn : text.size ≠ 0) : Sre.forSearch CODE text 0 0 text.size false = Sre.M.attemptFrom (m0 text) 0 true := by
  have e : Sre.forSearch CODE text 0 0 text.size false = if (decide (0 > text.size) ∨ decide (text.size - 0 < 1)) then Sre.M.say { m0 text with lastStart := 0 } false else Sre.M.attemptFrom (m0 text) 0 true := by
    unfold Sre.forSearch
    by_cases h : (0 > text.size ∨ text.size - 0 < 1)
    · exfalso; omega
    · have h' : ¬ (decide (0 > text.size) = true ∨ decide (text.size - 0 < 1) = true) := by simpa using h
      rw [if_neg h']
      have hh : (Sre.header CODE).1 = 1 := rfl
      exact if_neg (by rw [hh]; simpa using h)
  rw [e, if_neg]
  simp only [decide_eq_true_eq]
  omega
theorem search_spec (text : Array Nat) (hn : text.size ≠ 0) :
    ((∀ i, i < text.size → okC (text.getD i 0) = true) ∧ ((Sre.forSearch CODE text 0 0 text.size false).runFor 4).outcome = some .failed) ∨
    ((∃ k, k < text.size ∧ okC (text.getD k 0) = false) ∧ ∃ (k : Nat) (s' : Sre.Seen), (Sre.forSearch CODE text 0 0 text.size false).runFor 4 =
      { m0 text with start := k, pos := k, handed := k + 1, pc := 18, seen := s', outcome := some .matched, answer := some true, frames := [], weight := 0, outermost := true }) := by
  rw [forSearch_eq text hn]
  have hf : (m0 text).hasFirstSet = true := rfl
  unfold Sre.M.attemptFrom
  rw [hf]
  simp only [Bool.not_true, Bool.false_eq_true, if_false]
  rcases admitted_spec (m0 text) rfl ((m0 text).lim + 1 - 0) 0 (m0 text).seen (by omega) with ⟨s', e, q⟩ | ⟨k, s', e, q1, q2, q3⟩
  · rw [e]
    exact .inl ⟨fun i hi => q i (Nat.zero_le _) hi, rfl⟩
  · rw [e]
    refine .inr ⟨⟨k, q2, q3⟩, k, ?_⟩
    have q2' : k < text.size := q2
    have q3' : okC (text.getD k 0) = false := q3
    obtain ⟨s2, e2⟩ := inSet2 (text.getD k 0) (s'.add 13)
    rw [q3'] at e2
    let M1 : Sre.M := { m0 text with mustAdvance := false, seen := s', start := k, pos := k, lastmark := -1, lastindex := -1, frames := [{ wait := .nextStart, pc := 18, pos := k, outermost := true }], weight := 1, handed := k, outermost := true, pc := 18 }
    have f1 : Sre.M.attemptAt { m0 text with mustAdvance := false, seen := s' } k true = M1 := rfl
    have f2 : Sre.M.step M1 = if k ≥ text.size then Sre.M.say { M1 with seen := s'.add 13 } false else
        match Sre.inSet CODE (text.getD k 0) 34 20 true (s'.add 13) with
        | .error why => Sre.M.stick { M1 with seen := s'.add 13 } why
        | .ok (false, seen) => Sre.M.say { M1 with seen } false
        | .ok (true, seen) => { M1 with seen, pc := 33, pos := k + 1 } := rfl
    rw [if_neg (by omega), e2] at f2
    refine ⟨s2.add 1, ?_⟩
    show Sre.M.runFor 4 (Sre.M.attemptAt { m0 text with mustAdvance := false, seen := s' } k true) = _
    rw [f1]
    show Sre.M.runFor 3 (Sre.M.step M1) = _
    rw [f2]
    rfl

end
section
open PySem PySem.W PyProof.Rows PySem.Calls
set_option maxRecDepth 100000
set_option maxHeartbeats 8000000
open PySem.Builtin.Re in
theorem entry_search : entryFor table "re.Pattern.search" = some Builtin.«re.Pattern.search» := entryFor_of_tree (by kernel_rfl)
open PySem.Builtin.Re in
theorem target_peek (P : Params) (prog : Program) (x : Str) (t : Tok) : peek (KF P) ⟨prog, P⟩ (reTarget "re.Pattern.search" "search" ⟨[.ref 49, .str x t], []⟩) =
    some { pattern := .ref 49, string := .str x t, code := CODE, text := x.cps, kind := 0, groups := 0, pos := min 0 x.cps.size, lim := min (2 ^ 63 - 1) x.cps.size } := by
  kernel_rfl
theorem bound_peek (P : Params) (prog : Program) (x : Str) (t : Tok) : peek (KF P) ⟨prog, P⟩ (checkBoundCall "re.Pattern.search" ⟨[.ref 49, .str x t], []⟩) = some () := by
  kernel_rfl
theorem keeper_peek (P : Params) (prog : Program) : peek (KF P) ⟨prog, P⟩ (keeperOf (.ref 745)) = some .machine := by
  kernel_rfl
theorem forIn_quiet {M : Model} {A : Around} {E : Value → Shared → Prop} {f : Nat → PUnit → Sem (ForInStep PUnit)} (hf : ∀ i (Q : ForInStep PUnit → Shared → Prop) (s : Shared), Q (.yield PUnit.unit) s → wpAny M A (f i PUnit.unit) Q E s) :
    ∀ (l : List Nat) (Q : PUnit → Shared → Prop) (s : Shared), Q PUnit.unit s → wpAny M A (forIn l PUnit.unit f) Q E s
  | [], Q, s, h => by rw [List.forIn_nil]; exact wpAny_pure h
  | i :: l, Q, s, h => by
    rw [List.forIn_cons]
    exact wpAny_bind (hf i _ s (forIn_quiet hf l Q s h))
section
open PySem.Builtin.Re
variable {w : World} {A : Around} {E : Value → Shared → Prop} {s : Shared} {h₀ : Heap} {L : Addr} {m : Str → Option Value} {news : List (Addr × Obj)}
theorem drive_succ (n : Nat) (x : Sre.M) : reDrive (n + 1) x = if (x.runFor 4).outcome.isSome = true then pure (x.runFor 4) else (do rule "sre.turn"; reDrive n (x.runFor 4)) := rfl
theorem two64 : (2 : Nat) ^ 64 = 18446744073709551615 + 1 := by decide
theorem drive_one {M : Model} {x : Sre.M} {o : Sre.Outcome} (h : (x.runFor 4).outcome = some o) {Q : Sre.M → Shared → Prop} (hq : Q (x.runFor 4) s) : wpAny M A (reDrive (2 ^ 64) x) Q E s := by
  rw [two64, drive_succ, if_pos (by rw [h]; rfl)]
  exact wpAny_pure hq
theorem run_end {M : Model} {x : Sre.M} {o : Sre.Outcome} (h : (x.runFor 4).outcome = some o) {Q : Option Sre.M → Shared → Prop}
    (h1 : o = .matched → Q (some (x.runFor 4)) s) (h2 : o = .failed → Q none s) (h3 : o = .matched ∨ o = .failed) : wpAny M A (reRunToEnd x) Q E s := by
  unfold reRunToEnd
  refine wpAny_bind (drive_one h ?_)
  refine wpAny_bind (forIn_quiet (fun i Q s hq => ?_) _ _ _ ?_)
  · split
    · exact wpAny_bind (wpAny_rule (wpAny_pure hq))
    · exact wpAny_pure hq
  · rw [h]
    rcases h3 with rfl | rfl
    · exact wpAny_pure (h1 rfl)
    · exact wpAny_pure (h2 rfl)
theorem newMatch0 (p str : Value) (pos lim : Nat) (m : Sre.M) : reNewMatch p str 0 pos lim m = (newTuple [rawInt m.start, rawInt m.handed] >>= fun t => newFields "re.Match" [str, p, rawInt pos, rawInt lim, rawInt m.lastindex, t]) := by
  rfl
theorem search_body {x : Str} {t : Tok} {Q : Fin → Shared → Prop} (F : Fr h₀ L s.heap m) (X : (KF w.params).In h₀) (N : News h₀ L s.heap news) (hx : x.cps.size ≠ 0) (hl : x.cps.size ≤ 2 ^ 62)
    (h1 : (∀ i, i < x.cps.size → okC (x.cps.getD i 0) = true) → Q (.done (.ret .none)) s)
    (h2 : (∃ i, i < x.cps.size ∧ okC (x.cps.getD i 0) = false) → ∀ a h', Fr h₀ L h' m → News h₀ L h' news → Q (.done (.ret (.ref a))) { s with heap := h' }) :
    wpAny (model PySem.Challenge.rw_ij0131_01.row.prog w) A (Builtin.«re.Pattern.search» ⟨[.ref 49, .str x t], []⟩) Q E s := by
  unfold Builtin.«re.Pattern.search»
  refine wpAny_bind ((Looks.of_peek (M := model PySem.Challenge.rw_ij0131_01.row.prog w) (X.keeps F.keep) (target_peek w.params _ x t)).here ?_)
  have hlim : min (2 ^ 63 - 1) x.cps.size = x.cps.size := by omega
  have hpos : min 0 x.cps.size = 0 := by omega
  rw [hlim, hpos]
  unfold reAnswer
  dsimp only
  rcases search_spec x.cps hx with ⟨q, e⟩ | ⟨q, k, s', e⟩
  · refine wpAny_bind (run_end e (fun z => by cases z) (fun _ => ?_) (.inr rfl))
    exact wpAny_pure (h1 q)
  · have e' : ((Sre.forSearch CODE x.cps 0 0 x.cps.size false).runFor 4).outcome = some .matched := by rw [e]
    refine wpAny_bind (run_end e' (fun _ => ?_) (fun z => by cases z) (.inl rfl))
    dsimp only
    rw [newMatch0]
    refine wpAny_bind (wpAny_bind ?_)
    refine wpAny_newTuple ?_
    unfold newFields
    refine wpAny_newObj_type ?_
    refine wpAny_pure ?_
    exact h2 q _ _ ((F.push _).push _) (cb_drop (News.push (F.push _) (News.push F N _ (by rfl)) _ (by rfl)) (fun p hp => .tail _ (.tail _ hp)))
end
theorem lookup745 (P : Params) : (KF P).lookup 745 = some (o745 P) := by kernel_rfl
theorem search_call {w : World} {A : Around} {E : Value → Shared → Prop} {s : Shared} {h₀ : Heap} {L : Addr} {m : Str → Option Value} {news : List (Addr × Obj)} {x : Str} {t : Tok} {Q : Value → Shared → Prop}
    (F : Fr h₀ L s.heap m) (X : (KF w.params).In h₀) (N : News h₀ L s.heap news) (hx : x ≠ ⟨#[]⟩) (hl : x.length ≤ 16777216)
    (h1 : (∀ i, i < x.cps.size → okC (x.cps.getD i 0) = true) → Q .none s)
    (h2 : (∃ i, i < x.cps.size ∧ okC (x.cps.getD i 0) = false) → ∀ a h', Fr h₀ L h' m → News h₀ L h' news → Q (.ref a) { s with heap := h' }) :
    wpAny (model PySem.Challenge.rw_ij0131_01.row.prog w) A (call (.ref 745) [.str x t]) Q E s := by
  have hx' : x.cps.size ≠ 0 := fun q => hx (by
    obtain ⟨c⟩ := x
    have : c.size = 0 := q
    rw [Array.size_eq_zero_iff.mp this])
  refine wpAny_call (codeAny_of_tree ?_)
  show wpAny _ _ (callAny (.ref 745) ⟨[.str x t], []⟩) _ _ _
  refine nd_load (X.keeps F.keep _ _ (lookup745 w.params)) ?_
  show wpAny _ _ (checkBoundCall "re.Pattern.search" ⟨[.ref 49, .str x t], []⟩ >>= fun _ => again (.builtin "re.Pattern.search" ⟨[.ref 49, .str x t], []⟩)) _ _ _
  refine wpAny_bind ((Looks.of_peek (M := model PySem.Challenge.rw_ij0131_01.row.prog w) (X.keeps F.keep) (bound_peek w.params _ x t)).here ?_)
  refine wpAny_pure ⟨Code.quiet_builtin _ (by decide +kernel), codeAny_builtin entry_search ?_⟩
  refine search_body F X N hx' (by show x.length ≤ _; omega) (fun q => ?_) (fun q a h' F' N' => ?_)
  · exact h1 q
  · exact h2 q a h' F' N'
/-- the keeper of the bound search: the machine -/
theorem search_with {w : World} {A : Around} {E : Value → Shared → Prop} {s : Shared} {h₀ : Heap} {env : Env} {pos : Pos} {first : List Value} {e : Expr} {rest : List Expr} {Q : Value → Shared → Prop} (_X : (KF w.params).In h₀)
    (h : wpAny (model PySem.Challenge.rw_ij0131_01.row.prog w) A (spliced (backTo pos (starEach (e :: rest) env))) (fun vs s₁ => (KF w.params).In s₁.heap ∧ wpAny (model PySem.Challenge.rw_ij0131_01.row.prog w) A (call (.ref 745) (first ++ vs)) Q E s₁) E s)
    (he : starEach (e :: rest) env = (false, eval e env) :: starEach rest env := by rfl) (hplain : (backTo pos (starEach rest env)).any (·.1) = false := by rfl) :
    wpAny (model PySem.Challenge.rw_ij0131_01.row.prog w) A (callWith pos (.ref 745) first (backTo pos (starEach (e :: rest) env)) []) Q E s := by
  rw [he] at h ⊢
  exact callWith_of (P := fun h => (KF w.params).In h) (by show ((false || (backTo pos (starEach rest env)).any (·.1)) || false) = false; rw [hplain]; rfl)
    (fun h X => ⟨.machine, .inr (.inl rfl), Looks.of_peek X (keeper_peek w.params _)⟩) (evalArgs_plain h)

end
section
open PySem PySem.W PyProof.Rows PySem.Calls
set_option maxRecDepth 100000
set_option maxHeartbeats 8000000
abbrev Q1 : Str := Str.ofString "'"
abbrev SEPq : Str := Str.ofString "'\"'\"'"
abbrev replF (x : Str) : Str := Txt.replace x Q1 SEPq
theorem replF_len (x : Str) : (replF x).length ≤ 6 * x.length + 5 := by
  show (Txt.replace x Q1 SEPq).length ≤ _
  unfold Txt.replace
  split
  · omega
  have hyz : (Q1 == SEPq) = false := by decide +kernel
  have h1 := StrLaws.occ_length_le x Q1 0 x.length (x.length + 1)
  have hy : (Builtin.Str.glued Q1 (Builtin.Str.partsBetween x (Builtin.Str.occurrences x Q1 0 x.length (x.length + 1)) Q1.length)).length = x.length := by rw [StrLaws.glued_between_self]
  rw [size_glued, length_partsBetween, Nat.add_sub_cancel] at hy
  rw [size_glued, length_partsBetween, Nat.add_sub_cancel]
  have hz : SEPq.length = 5 := by decide +kernel
  rw [hz]
  omega
/-- quote -/
def quoteF (x : Str) : Str :=
  if x = ⟨#[]⟩ then Str.ofString "''" else
  if (∀ i, i < x.cps.size → okC (x.cps.getD i 0) = true) then x else (Q1 ++ replF x) ++ Q1
def StrV (x : Str) (v : Value) : Prop := ∃ t, v = .str x t
theorem quote1 {x : Str} {t : Tok} (h : x = ⟨#[]⟩) : StrV (quoteF x) (.str (Str.ofString "''") t) := by
  refine ⟨t, ?_⟩
  unfold quoteF
  rw [if_pos h]
theorem quote2 {x : Str} {t : Tok} (h : x ≠ ⟨#[]⟩) (h1 : ∀ i, i < x.cps.size → okC (x.cps.getD i 0) = true) : StrV (quoteF x) (.str x t) := by
  refine ⟨t, ?_⟩
  unfold quoteF
  rw [if_neg h, if_pos h1]
theorem quote3 {x : Str} {t : Tok} (h : x ≠ ⟨#[]⟩) (h1 : ∃ i, i < x.cps.size ∧ okC (x.cps.getD i 0) = false) : StrV (quoteF x) (.str ((Q1 ++ replF x) ++ Q1) t) := by
  refine ⟨t, ?_⟩
  unfold quoteF
  rw [if_neg h, if_neg]
  obtain ⟨i, hi, he⟩ := h1
  intro q
  rw [q i hi] at he
  cases he
local macro_rules | `(tactic| walk_at "callWith ref") => `(tactic| (k_here; (with_reducible show wpAny _ _ (callWith _ (Value.ref 745) _ _ _) _ _ _); k_dflt (refine' search_with ?k1 ?_; (case k1 => assumption); k_whole)))
local macro_rules | `(tactic| walk_at "call ref") => `(tactic| (k_here; (with_reducible show wpAny _ _ (call (Value.ref 745) _) _ _ _); k_dflt (refine' search_call ?k1 ?k2 ?k3 ?k4 ?k5 ?_ ?_; (case k1 => k_asm); (case k2 => k_asm); (case k3 => k_asm); (case k4 => assumption); (case k5 => omega)); all_goals (intros; (try dsimp only); (try k_fold))))
local macro_rules | `(tactic| walk_at "truthy str") => `(tactic| (k_here; (with_reducible show wpAny _ _ (truthy (Value.str _ _)) _ _ _); k_dflt (refine' truthy_any ?k1 ?_ ?_; (case k1 => omega)); all_goals (intro _ _; (try dsimp only))))
local macro_rules | `(tactic| walk_at "binaryOp Add") => `(tactic| (k_here; (with_reducible show wpAny _ _ (binaryOp _ (Value.str _ _) (Value.str _ _)) _ _ _); refine' add_str ?_ ?hsz; (case hsz => ((try simp only [Str.length_append]); rw [sizeLine_eq]; (have hQ : (Str.ofString "'").length = 1 := by decide +kernel); omega)); intro _ _; (try dsimp only)))

theorem c_quote {w : World} (x : Str) (t : Tok) (hx : x.length ≤ 1000) : Con w 752 1 16 [.str x t] (fun v tl => StrV (quoteF x) v ∧ tl = []) := by
  have hR : (Txt.replace x (Str.ofString "'") (Str.ofString "'\"'\"'")).length ≤ 6 * x.length + 5 := replF_len x
  unfold Con
  k_fill
  intro dp un gd cn cs a ccd cl outer A₀ base h₀ L m news s mean mg mb Q E B F X N T hk hd hu hret
  refine wpAny_call ?_
  refine' code_def (binds := [(Str.ofString "s", Value.str x t)]) ?k1 ?k2 ?k3 ?k4 ?k5 ?kA ?kF ?kK ?k6 ?k7 ?k8 ?k9 ?kB ?_ ?c2 ?c3 ?c4 ?c5
  case kA => exact rfl
  case kF => exact rfl
  case kK => assumption
  case k1 => k_asm
  case k2 => k_asm
  case k3 => k_asm
  case k4 => k_asm
  case k5 => k_asm
  case k6 => k_is
  case k7 => k_is
  case k8 => ktr_room
  case k9 => exact BindsTo.of_eq rfl
  case c5 => decide
  case kB => exact locs rfl
  case c2 => exact rfl
  case c3 => exact rfl
  case c4 => exact rfl
  k_whole
  intro g' L' h' FG' F' N' B' X' T'
  try dsimp only
  try k_lift B'
  try k_fold

  k_steps
  · refine hret _ _ _ [] (by assumption) (cb_drop (by assumption) (fun p hp => by have hp : p ∈ news := hp; simp [hp])) (fun _ _ _ h => nomatch h) ⟨?_, rfl⟩
    exact quote1 (by assumption)
  · refine hret _ _ _ [] (by assumption) (cb_drop (by assumption) (fun p hp => by have hp : p ∈ news := hp; simp [hp])) (fun _ _ _ h => nomatch h) ⟨?_, rfl⟩
    exact quote2 (by assumption) (by assumption)
  · refine hret _ _ _ [] (by assumption) (cb_drop (by assumption) (fun p hp => by have hp : p ∈ news := hp; simp [hp])) (fun _ _ _ h => nomatch h) ⟨?_, rfl⟩
    exact quote3 (by assumption) (by assumption)
theorem use_quote {w : World} {x : Str} {t : Tok} {dp un : Nat} {gd : Option (List Code)} {cn : Str} {cs : Scope} {a : Addr} {ccd : Value} {cl : List (Str × Addr)} {outer : List Env} {A₀ : Around} {base h₀ : Heap} {L : Addr} {m : Str → Option Value} {news : List (Addr × Obj)} {s : Shared}
    {mean : ExcName → Option Value} {mg mb : Str → Option Value} {Q E : Value → Shared → Prop} (hx : x.length ≤ 1000)
    (B : Below A₀ base outer h₀) (F : Fr h₀ L s.heap m) (X : (KF w.params).In h₀) (N : News h₀ L s.heap news) (T : Top qv (looseW qv lo) mean mg mb h₀) (hk : cs.kind = .function) (hd : dp + 1 < recursionLimit) (hu : un + 16 < cLine)
    (h : ∀ h' tk' t', Fr h₀ L h' m → News h₀ L h' news → Q (.str (quoteF x) t') { s with heap := h', toks := tk' }) :
    wpAny (model PySem.Challenge.rw_ij0131_01.row.prog w) (ktrTop dp un gd cn cs L a ccd cl outer) (call (.ref 752) [.str x t]) Q E s := by
  refine c_quote x t hx dp un gd cn cs a ccd cl outer A₀ base h₀ L m news s mean mg mb Q E B F X N T hk hd hu ?_
  rintro v h' tk' tl F' N' _ ⟨⟨t', rfl⟩, rfl⟩
  exact h h' tk' t' F' N'

end
section
open PySem PySem.W PyProof.Rows PySem.Calls
open Builtin Builtin.Str StrLaws
set_option maxRecDepth 100000
set_option maxHeartbeats 8000000
/-- a text that holds no c -/
abbrev FreeOf (c : Nat) (p : Str) : Prop := c ∉ p.cps.toList
theorem toList_app (a b : Str) : (a ++ b).cps.toList = a.cps.toList ++ b.cps.toList := by
  rw [Str.cps_append, Array.toList_append]
theorem str_ext {a b : Str} (h : a.cps.toList = b.cps.toList) : a = b := by
  obtain ⟨⟨a⟩⟩ := a
  obtain ⟨⟨b⟩⟩ := b
  exact congrArg (fun l => Str.mk (Array.mk l)) h
theorem len_list (a : Str) : a.length = a.cps.toList.length := by
  rw [Array.length_toList]; rfl
/-- where y stands in x -/
theorem at_iff {x y : Str} {c : Nat} {tl : List Nat} (hy : y.cps.toList = c :: tl) {i : Nat} : At x y x.length i ↔ ∃ r, x.cps.toList.drop i = y.cps.toList ++ r := by
  unfold At
  rw [subAt_eq, beq_iff_eq, len_list x, len_list y]
  constructor
  · rintro ⟨_, h⟩
    exact ⟨(x.cps.toList.drop i).drop y.cps.toList.length, by
      have e := (List.take_append_drop y.cps.toList.length (x.cps.toList.drop i)).symm
      rw [h] at e
      exact e⟩
  · rintro ⟨r, h⟩
    refine ⟨?_, by rw [h, List.take_left']; rfl⟩
    have e := congrArg List.length h
    rw [List.length_drop, List.length_append] at e
    have : y.cps.toList.length = tl.length + 1 := by rw [hy]; rfl
    omega
theorem not_at {x y : Str} {c : Nat} {tl : List Nat} (hy : y.cps.toList = c :: tl) {i d : Nat} (h : x.cps.toList[i]? = some d) (hd : d ≠ c) : ¬ At x y x.length i := by
  rw [at_iff hy]
  rintro ⟨r, e⟩
  have e := congrArg (fun l => l[0]?) e
  rw [hy] at e
  simp only [List.getElem?_drop, Nat.add_zero, List.cons_append, List.getElem?_cons_zero, h, Option.some.injEq] at e
  exact hd e
theorem not_at_end {x y : Str} {c : Nat} {tl : List Nat} (hy : y.cps.toList = c :: tl) {i : Nat} (h : x.cps.toList.length ≤ i) : ¬ At x y x.length i := by
  rw [at_iff hy]
  rintro ⟨r, e⟩
  rw [List.drop_eq_nil_of_le h, hy] at e
  cases e
/-- no y in a stretch free of its first sign -/
theorem free_stretch {x y p : Str} {c : Nat} {tl : List Nat} (hy : y.cps.toList = c :: tl) {a : Nat} {r : List Nat} (h : x.cps.toList.drop a = p.cps.toList ++ r) (hp : FreeOf c p) {k : Nat} (h1 : a ≤ k) (h2 : k < a + p.length) : ¬ At x y x.length k := by
  rw [len_list] at h2
  have hk : k - a < p.cps.toList.length := by omega
  have e : x.cps.toList[k]? = some (p.cps.toList[k - a]) := by
    have e1 : (x.cps.toList.drop a)[k - a]? = x.cps.toList[k]? := by rw [List.getElem?_drop]; congr 1; omega
    rw [← e1, h, List.getElem?_append_left hk, List.getElem?_eq_getElem hk]
  exact not_at hy e (fun q => hp (q ▸ List.getElem_mem hk))
theorem sub_of_drop {x p : Str} {a : Nat} {r : List Nat} (h : x.cps.toList.drop a = p.cps.toList ++ r) : strSub x a (a + p.length) = p := by
  refine str_ext ?_
  rw [strSub_toList, h, len_list, Nat.add_sub_cancel_left, List.take_left']
  rfl
theorem sub_to_end {x p : Str} {a : Nat} (h : x.cps.toList.drop a = p.cps.toList) : strSub x a x.length = p := by
  refine str_ext ?_
  have e := congrArg List.length h
  rw [List.length_drop] at e
  rw [strSub_toList, h, len_list, e, List.take_length]
theorem parts_of_join {x y : Str} {c : Nat} {tl : List Nat} (hy : y.cps.toList = c :: tl) : ∀ (ss : List Str) (p : Str) (cuts : List Nat) (a f : Nat), (∀ q ∈ p :: ss, FreeOf c q) → ChainG x y x.length a cuts f → (∀ k, f ≤ k → ¬ At x y x.length k) → x.cps.toList.drop a = (Str.join y (p :: ss)).cps.toList → partsFrom x y.length a cuts = p :: ss
  | [], p, [], a, f, hf, hc, hn, h => by
    have h : x.cps.toList.drop a = p.cps.toList := h
    show [strSub x a x.length] = [p]
    rw [sub_to_end h]
  | [], p, d :: r, a, f, hf, hc, hn, h => by
    exfalso
    have h : x.cps.toList.drop a = p.cps.toList := h
    by_cases hd : d < a + p.length
    · exact free_stretch hy (r := []) (by rw [h, List.append_nil]) (hf p (.head _)) hc.1 hd hc.2.1
    · refine not_at_end hy ?_ hc.2.1
      have e := congrArg List.length h
      rw [List.length_drop] at e
      rw [len_list] at hd
      omega
  | q :: ss, p, cuts, a, f, hf, hc, hn, h => by
    have h : x.cps.toList.drop a = (p ++ y ++ Str.join y (q :: ss)).cps.toList := h
    rw [toList_app, toList_app, List.append_assoc] at h
    have hA : At x y x.length (a + p.length) := by
      rw [at_iff hy]
      refine ⟨(Str.join y (q :: ss)).cps.toList, ?_⟩
      rw [← List.drop_drop, h, len_list, List.drop_left']
      rfl
    have hs := fun k => free_stretch hy h (hf p (.head _)) (k := k)
    cases cuts with
    | nil =>
      have e : f = a := hc
      exact absurd hA (hn _ (by omega))
    | cons d r =>
      have h1 : ¬ d < a + p.length := fun q => hs d hc.1 q hc.2.1
      have h2 : ¬ a + p.length < d := fun q => hc.2.2.1 _ (by omega) q hA
      have e : d = a + p.length := by omega
      subst e
      show strSub x a (a + p.length) :: partsFrom x y.length (a + p.length + y.length) r = _
      rw [sub_of_drop h, parts_of_join hy ss q r (a + p.length + y.length) f (fun s hs => hf s (.tail _ hs)) hc.2.2.2 hn ?_]
      rw [← List.drop_drop, ← List.drop_drop, h, len_list p, List.drop_left' rfl, len_list y, List.drop_left' rfl]
theorem split_join {y : Str} {c : Nat} {tl : List Nat} (hy : y.cps.toList = c :: tl) (hk : Builtin.Str.strKind y = 1) {p : Str} {ss : List Str} (hf : ∀ q ∈ p :: ss, FreeOf c q) : Txt.split (Str.join y (p :: ss)) y = p :: ss := by
  have hl : 1 ≤ y.length := by rw [len_list, hy]; exact Nat.le_add_left _ _
  generalize hx : Str.join y (p :: ss) = x
  obtain ⟨f, hG, hn⟩ := occ_tight x y hl
  have key := parts_of_join hy ss p _ 0 f hf hG hn (by rw [← hx]; rfl)
  have one : occurrences x y 0 x.length (x.length + 1) = [] → [x] = p :: ss := by
    intro e
    rw [e] at key
    rw [← key]
    show [x] = [strSub x 0 x.length]
    rw [sub_whole]
  unfold Txt.split
  split
  · rename_i h
    have hK : 1 ≤ Builtin.Str.strKind x := by unfold Builtin.Str.strKind; split; omega; split <;> omega
    rw [Bool.or_eq_true, decide_eq_true_eq, decide_eq_true_eq] at h
    refine one ?_
    cases e : occurrences x y 0 x.length (x.length + 1) with
    | nil => rfl
    | cons d r =>
      rw [e] at hG
      have := hG.2.1.1
      omega
  split
  · rename_i h
    exact one (List.isEmpty_iff.mp h)
  · rw [partsBetween_eq]
    exact key

theorem sq1 : Str.ofString "'" = ⟨#[39]⟩ := by decide +kernel
theorem sq5 : Str.ofString "'\"'\"'" = ⟨#[39, 34, 39, 34, 39]⟩ := by decide +kernel
abbrev QT : Str := ⟨#[39]⟩
abbrev SP5 : Str := ⟨#[39, 34, 39, 34, 39]⟩
theorem split_join_q {p : Str} {ss : List Str} (hf : ∀ q ∈ p :: ss, FreeOf 39 q) : Txt.split (Str.join QT (p :: ss)) QT = p :: ss :=
  split_join (c := 39) (tl := []) rfl (by decide +kernel) hf
theorem split_join_s {p : Str} {ss : List Str} (hf : ∀ q ∈ p :: ss, FreeOf 39 q) : Txt.split (Str.join SP5 (p :: ss)) SP5 = p :: ss :=
  split_join (c := 39) (tl := [34, 39, 34, 39]) rfl (by decide +kernel) hf
theorem split_cons (x y : Str) : ∃ p ss, Txt.split x y = p :: ss := by
  unfold Txt.split
  split
  · exact ⟨_, _, rfl⟩
  split
  · exact ⟨_, _, rfl⟩
  · rw [partsBetween_eq]
    exact partsFrom_ne _ _ _ _
theorem hasQ_eq (a : Str) : hasQ a = decide (39 ∈ a.cps.toList) := by
  show (!(Builtin.Str.occurrences a (Str.ofString "'") 0 a.length 1).isEmpty) = _
  rw [sq1]
  exact found_one a 39
theorem offS_eq (c : Nat) : offS ⟨#[c]⟩ = !decide (c ∈ SAFE.cps.toList) := by
  have h := found_one SAFE c
  show (!!(Builtin.Str.occurrences SAFE ⟨#[c]⟩ 0 SAFE.length 1).isEmpty) = _
  rw [h]
theorem safe_lt : ∀ c ∈ SAFE.cps.toList, c < 256 := by decide +kernel
theorem ok_small : ∀ c, c < 256 → okC c = decide (c ∈ SAFE.cps.toList) := by decide +kernel
theorem okC_eq (c : Nat) : okC c = decide (c ∈ SAFE.cps.toList) := by
  by_cases h : c < 256
  · exact ok_small c h
  · rw [decide_eq_false (fun q => h (safe_lt c q))]
    unfold okC bitC
    rw [decide_eq_false h, Bool.false_and, Bool.false_or]
    unfold Sre.isWord Sre.isDigit
    simp only [Bool.or_eq_false_iff, Bool.and_eq_false_iff, decide_eq_false_iff_not, beq_eq_false_iff_ne]
    omega
theorem bare_iff (x : Str) : bareF x = true ↔ x ≠ ⟨#[]⟩ ∧ ∀ i, i < x.cps.size → okC (x.cps.getD i 0) = true := by
  have e0 : Str.ofString "" = ⟨#[]⟩ := by decide +kernel
  unfold bareF
  rw [Bool.and_eq_true, bne_iff_ne, e0, List.all_eq_true]
  constructor
  · rintro ⟨h1, h2⟩
    refine ⟨h2, fun i hi => ?_⟩
    have hm : (⟨#[x.cps.getD i 0]⟩ : Str) ∈ signs x := by
      unfold signs
      refine List.mem_map.mpr ⟨x.cps.getD i 0, ?_, rfl⟩
      simp [hi]
    have h := h1 _ hm
    rw [offS_eq, Bool.not_not] at h
    rw [okC_eq]
    exact h
  · rintro ⟨h1, h2⟩
    refine ⟨fun a ha => ?_, h1⟩
    obtain ⟨c, hc, rfl⟩ := List.mem_map.mp ha
    obtain ⟨i, hi, e⟩ := List.getElem_of_mem hc
    have hi' : i < x.cps.size := by rw [← Array.length_toList]; exact hi
    have h := h2 i hi'
    rw [offS_eq, Bool.not_not, ← okC_eq]
    have e2 : x.cps.getD i 0 = c := by rw [← e]; simp [hi']
    rw [← e2]
    exact h
theorem quote_bare {x : Str} (h : bareF x = true) : quoteF x = x := by
  obtain ⟨h1, h2⟩ := (bare_iff x).mp h
  unfold quoteF
  rw [if_neg h1, if_pos h2]
theorem quote_not {x : Str} (h : bareF x = false) : quoteF x = QT ++ Str.join SP5 (Txt.split x QT) ++ QT := by
  unfold quoteF
  split
  · rename_i e
    subst e
    decide +kernel
  · rename_i h1
    rw [if_neg (fun h2 => by rw [(bare_iff x).mpr ⟨h1, h2⟩] at h; cases h)]
    show Str.ofString "'" ++ Txt.replace x (Str.ofString "'") (Str.ofString "'\"'\"'") ++ Str.ofString "'" = _
    rw [sq1, sq5, replace_one]
theorem mid_eq {x m : Str} (h : x = QT ++ m ++ QT) : midF x = m := by
  have hl : x.cps.toList = 39 :: (m.cps.toList ++ [39]) := by rw [h, toList_app, toList_app]; rfl
  have hn : x.length = m.length + 2 := by rw [len_list, hl, len_list]; simp
  show sliceText x (some 1) (some (-1)) = m
  rw [sliceText_neg_hi x (some 1) (by decide) (by omega), sliceText_plain ⟨by decide, by omega, by rw [← len_list]; omega⟩]
  refine str_ext ?_
  show ((x.cps.toList.drop 1).take _) = _
  rw [hl, hn]
  have e : ((-1 : Int) + ((m.length + 2 : Nat) : Int) - 1).toNat = m.cps.toList.length := by rw [len_list]; omega
  rw [e]
  show (m.cps.toList ++ [39]).take _ = _
  rw [List.take_left' rfl]
theorem item0 {x : Str} {c : Nat} {r : List Nat} (h : x.cps.toList = c :: r) : Txt.item x 0 = ⟨#[c]⟩ := by
  have e : x.cps[(0 : Int).toNat]? = some c := by
    show x.cps[0]? = some c
    rw [← Array.getElem?_toList, h]
    rfl
  exact item_meets (by decide) e
theorem item_last {x : Str} {c : Nat} {r : List Nat} (h : x.cps.toList = r ++ [c]) : Txt.item x (-1) = ⟨#[c]⟩ := by
  have hn : x.length = r.length + 1 := by rw [len_list, h]; simp
  have e : Txt.charAt x (-1) = some c := by
    refine at_neg (by decide) (by omega) ?_
    have : ((-1 : Int) + (x.length : Int)).toNat = r.length := by omega
    rw [this, ← Array.getElem?_toList, h]
    simp
  unfold Txt.item
  rw [e]
  rfl
/-- the text is a quoting by its form -/
theorem ends_of {x : Str} (h : ¬ (x.length : Int) < 2) (h0 : (Txt.item x 0 != Str.ofString "'") = false) (h1 : (Txt.item x (-1) != Str.ofString "'") = false) : ∃ m, x = QT ++ m ++ QT := by
  rw [sq1, bne_eq_false_iff_eq] at h0 h1
  have hl := len_list x
  cases e : x.cps.toList with
  | nil => rw [e] at hl; simp at hl; omega
  | cons c r =>
    rw [item0 e] at h0
    have hc : c = 39 := by injection h0 with h0; simpa using h0
    subst hc
    rcases List.eq_nil_or_concat r with hr | ⟨s, d, hr⟩
    · subst hr
      rw [e] at hl; simp at hl; omega
    · subst hr
      rw [item_last (c := d) (r := 39 :: s) (by rw [e]; simp)] at h1
      have hd : d = 39 := by injection h1 with h1; simpa using h1
      subst hd
      exact ⟨⟨s.toArray⟩, str_ext (by rw [toList_app, toList_app, e]; simp)⟩
theorem glued_join (y : Str) (l : List Str) : Txt.join y l = Str.join y l := glued_eq_join y l
theorem inner_of {x m : Str} (h : x = QT ++ m ++ QT) (hf : ∀ q ∈ Txt.split m SP5, FreeOf 39 q) (hb : bareF (Str.join QT (Txt.split m SP5)) = false) : innerF x = some (Str.join QT (Txt.split m SP5)) := by
  have hl : x.cps.toList = 39 :: (m.cps.toList ++ [39]) := by rw [h, toList_app, toList_app]; rfl
  have hn : x.length = m.length + 2 := by rw [len_list, hl, len_list]; simp
  have hp : plainF x = Str.join QT (Txt.split m SP5) := by
    show Txt.join (Str.ofString "'") (Txt.split (midF x) (Str.ofString "'\"'\"'")) = _
    rw [mid_eq h, sq1, sq5, glued_join]
  have hq : (Txt.split (midF x) SEP).filter hasQ = [] := by
    show (Txt.split (midF x) (Str.ofString "'\"'\"'")).filter hasQ = []
    rw [mid_eq h, sq5, List.filter_eq_nil_iff]
    intro q hq
    rw [hasQ_eq, decide_eq_true_eq]
    exact hf q hq
  unfold innerF
  rw [if_neg (by omega), if_neg (by rw [item0 hl, sq1]; decide), if_neg (by rw [item_last (c := 39) (r := 39 :: m.cps.toList) (by rw [hl]; simp), sq1]; decide), if_neg (by rw [hq]; simp), if_neg (by rw [hp, hb]; decide), hp]
theorem inner_inv {x p : Str} (h : innerF x = some p) : ∃ m, x = QT ++ m ++ QT ∧ (∀ q ∈ Txt.split m SP5, FreeOf 39 q) ∧ p = Str.join QT (Txt.split m SP5) ∧ bareF p = false := by
  unfold innerF at h
  split at h
  · cases h
  rename_i h1
  split at h
  · cases h
  rename_i h2
  split at h
  · cases h
  rename_i h3
  split at h
  · cases h
  rename_i h4
  split at h
  · cases h
  rename_i h5
  obtain ⟨m, hm⟩ := ends_of h1 (by simpa using h2) (by simpa using h3)
  have hp : plainF x = Str.join QT (Txt.split m SP5) := by
    show Txt.join (Str.ofString "'") (Txt.split (midF x) (Str.ofString "'\"'\"'")) = _
    rw [mid_eq hm, sq1, sq5, glued_join]
  have h4 : (Txt.split (midF x) (Str.ofString "'\"'\"'")).filter hasQ = [] := Classical.not_not.mp h4
  rw [mid_eq hm, sq5, List.filter_eq_nil_iff] at h4
  have e : plainF x = p := by injection h
  refine ⟨m, hm, fun q hq => ?_, by rw [← e, hp], by rw [← e]; simpa using h5⟩
  have := h4 q hq
  rw [hasQ_eq, decide_eq_true_eq] at this
  exact this
theorem inner_quote {x : Str} (h : bareF x = false) : innerF (quoteF x) = some x := by
  obtain ⟨p, ss, e⟩ := split_cons x QT
  have hf : ∀ q ∈ p :: ss, FreeOf 39 q := e ▸ split_free x 39
  have hs := split_join_s hf
  have hj : Str.join QT (p :: ss) = x := by rw [← e]; exact StrLaws.join_split x QT
  have hm := quote_not h
  rw [e] at hm
  have := inner_of hm (by rw [hs]; exact hf) (by rw [hs, hj]; exact h)
  rw [this, hs, hj]
theorem quote_inner {x p : Str} (h : innerF x = some p) : quoteF p = x ∧ bareF p = false := by
  obtain ⟨m, hm, hf, hp, hb⟩ := inner_inv h
  refine ⟨?_, hb⟩
  obtain ⟨q, ss, e⟩ := split_cons m SP5
  rw [e] at hf hp
  have hj : Str.join SP5 (q :: ss) = m := by rw [← e]; exact StrLaws.join_split m SP5
  rw [quote_not hb, hp, split_join_q hf, hj, hm]
theorem join_len (y : Str) : ∀ (ss : List Str) (p : Str), (Str.join y (p :: ss)).length = p.length + (ss.map (·.length)).sum + ss.length * y.length
  | [], p => by show p.length = _; simp
  | q :: ss, p => by
    show (p ++ y ++ Str.join y (q :: ss)).length = _
    rw [Str.length_append, Str.length_append, join_len y ss q]
    simp only [List.map_cons, List.sum_cons, List.length_cons, Nat.succ_mul]
    omega
theorem inner_short {x p : Str} (h : innerF x = some p) : p.length < x.length := by
  obtain ⟨m, hm, hf, hp, hb⟩ := inner_inv h
  obtain ⟨q, ss, e⟩ := split_cons m SP5
  have hj : Str.join SP5 (q :: ss) = m := by rw [← e]; exact StrLaws.join_split m SP5
  rw [hp, hm, e, ← hj, Str.length_append, Str.length_append, join_len, join_len]
  have h1 : QT.length = 1 := rfl
  have h5 : SP5.length = 5 := rfl
  rw [h1, h5]
  omega
theorem bare_inner {x : Str} (h : bareF x = true) : innerF x = none := by
  cases e : innerF x with
  | none => rfl
  | some p =>
    exfalso
    obtain ⟨m, hm, _⟩ := inner_inv e
    obtain ⟨h1, h2⟩ := (bare_iff x).mp h
    have hl : x.cps.toList = 39 :: (m.cps.toList ++ [39]) := by rw [hm, toList_app, toList_app]; rfl
    have hs : 0 < x.cps.size := by rw [← Array.length_toList, hl]; simp
    have h3 := h2 0 hs
    have e0 : x.cps.getD 0 0 = 39 := by
      have : x.cps[0]? = some 39 := by rw [← Array.getElem?_toList, hl]; rfl
      rw [Array.getD_eq_getD_getElem?, this]
      rfl
    rw [e0] at h3
    revert h3
    decide +kernel
/-- strands -/
theorem ok_app {a b : Str} : PyData.strOk (a ++ b) = true ↔ PyData.strOk a = true ∧ PyData.strOk b = true := by
  unfold PyData.strOk
  rw [Str.cps_append, Array.all_append, Bool.and_eq_true]
theorem ok_join {y : Str} : ∀ (ss : List Str) (p : Str), PyData.strOk (Str.join y (p :: ss)) = true → ∀ q ∈ p :: ss, PyData.strOk q = true
  | [], p, h, q, hq => by rw [List.mem_singleton.mp hq]; exact h
  | r :: ss, p, h, q, hq => by
    have h : PyData.strOk (p ++ y ++ Str.join y (r :: ss)) = true := h
    rw [ok_app, ok_app] at h
    rcases List.mem_cons.mp hq with rfl | hq
    · exact h.1.1
    · exact ok_join ss r h.2 q hq
theorem join_ok {y : Str} (hy : PyData.strOk y = true) : ∀ (ss : List Str) (p : Str), (∀ q ∈ p :: ss, PyData.strOk q = true) → PyData.strOk (Str.join y (p :: ss)) = true
  | [], p, h => h p (.head _)
  | r :: ss, p, h => by
    show PyData.strOk (p ++ y ++ Str.join y (r :: ss)) = true
    rw [ok_app, ok_app]
    exact ⟨⟨h p (.head _), hy⟩, join_ok hy ss r fun q hq => h q (.tail _ hq)⟩
theorem ok_inner {x p : Str} (h : innerF x = some p) (hx : PyData.strOk x = true) : PyData.strOk p = true := by
  obtain ⟨m, hm, hf, hp, hb⟩ := inner_inv h
  obtain ⟨q, ss, e⟩ := split_cons m SP5
  have hj : Str.join SP5 (q :: ss) = m := by rw [← e]; exact StrLaws.join_split m SP5
  rw [hm, ok_app, ok_app, ← hj] at hx
  rw [hp, e]
  exact join_ok (by decide +kernel) ss q (ok_join ss q hx.1.2)

end
section
open PySem PySem.W PyProof.Rows PySem.Calls
set_option maxRecDepth 100000
set_option maxHeartbeats 8000000
def Stop (P : Prop) : Prop := P
theorem stop_intro {P : Prop} (h : Stop P) : P := h
theorem allLt_all {d : Addr} : ∀ (l : List (Addr × Obj)), AllLt d l → ∀ p, p ∈ l → p.1 < d
  | [], _, _, hp => nomatch hp
  | q :: r, h, p, hp => by
    rcases List.mem_cons.mp hp with e | hp
    · rw [e]; exact h.1
    · exact allLt_all r h.2 p hp
theorem whl_data {prog : Program} {w : World} {A : Around} {E : Value → Shared → Prop} {env : Env} {test : PySem.Expr} {body orelse : List Stmt} {Q : Flow → Shared → Prop} {D : Type} {size : D → Nat} (I : D → Shared → Prop) (hE : PassesOwn (model prog w) A env E)
    (turn : ∀ d s, I d s → (∀ d' s', size d' < size d → I d' s' → WhlRest prog w A E env test body orelse Q 0 s') →
      wpAny (model prog w) A (isTrue test env (eval test env)) (fun b s₂ => WhlIf b (wpAny (model prog w) A (execs body env) (WhlPost prog w A E env test body orelse Q 0) E s₂) (wpAny (model prog w) A (execs orelse env) Q E s₂)) E s) :
    ∀ (n : Nat) (d : D) (s : Shared), size d ≤ n → I d s → WhlRest prog w A E env test body orelse Q 0 s := by
  intro n
  induction n with
  | zero => intro d s hn h; exact whl_turn (k := 0) hE (turn d s h fun d' s' lt _ => absurd lt (by omega))
  | succ n ih => intro d s hn h; exact whl_turn (k := 0) hE (turn d s h fun d' s' lt h' => ih d' s' (by omega) h')
/-- _law_link, by what is left to spend -/
def linkF : Nat → Str → Int → Str × Int
  | 0, x, h => (x, h)
  | n + 1, x, h => match innerF x with
    | none => (x, h)
    | some p => linkF n p (h + 1)
theorem inner_lt {x p : Str} (h : innerF x = some p) : p.length < x.length := inner_short h
theorem linkF_more : ∀ (n m : Nat) (x : Str) (h : Int), x.length ≤ n → x.length ≤ m → linkF n x h = linkF m x h
  | 0, 0, _, _, _, _ => rfl
  | 0, m + 1, x, h, hn, _ => by
    unfold linkF
    cases e : innerF x with
    | none => rfl
    | some p => have := inner_lt e; omega
  | n + 1, 0, x, h, _, hm => by
    unfold linkF
    cases e : innerF x with
    | none => rfl
    | some p => have := inner_lt e; omega
  | n + 1, m + 1, x, h, hn, hm => by
    unfold linkF
    cases e : innerF x with
    | none => rfl
    | some p => have := inner_lt e; exact linkF_more n m p (h + 1) (by omega) (by omega)
def linkAt (x : Str) (h : Int) : Str × Int := linkF x.length x h
theorem linkAt_none {x : Str} {h : Int} (e : innerF x = none) : linkAt x h = (x, h) := by
  unfold linkAt
  cases q : x.length with
  | zero => rfl
  | succ n => unfold linkF; rw [e]
theorem linkAt_some {x p : Str} {h : Int} (e : innerF x = some p) : linkAt x h = linkAt p (h + 1) := by
  have := inner_lt e
  unfold linkAt
  cases q : x.length with
  | zero => omega
  | succ n =>
    conv => lhs; unfold linkF
    rw [e]
    exact linkF_more _ _ _ _ (by omega) (Nat.le_refl _)
/-- a link as data -/
def linkD (r : Str × Int) : Dat := .tuple [.str r.1, .int r.2]
theorem fr_same {g h : Heap} {L : Addr} {m m' : Str → Option Value} (F : Fr g L h m) (e : ∀ y, m y = m' y) : Fr g L h m' := (funext e : m = m') ▸ F
abbrev mLink (a b c : Value) : Str → Option Value := fun y => if y = Str.ofString "plain" then some c else if y = Str.ofString "height" then some b else if y = Str.ofString "told" then some a else none
local macro_rules | `(tactic| walk_at "exec While Compare cons nil") => `(tactic| (k_here; refine whl_start 0 ?_; unfold WhlRest))
local macro_rules | `(tactic| walk_at "WhlPost") => `(tactic| (dsimp only [WhlPost]; unfold WhlRest))
local macro_rules | `(tactic| walk_at "call ref") => `(tactic| (k_here; (with_reducible show wpAny _ _ (call (Value.ref 808) [Value.str _ _]) _ _ _); k_dflt (refine' use_inner ?kx ?k1 ?k2 ?k3 ?k4 ?k5 ?k6 ?k7 ?k8 ?_; (case kx => omega); (case k1 => k_asm); (case k2 => k_asm); (case k3 => k_asm); (case k4 => k_asm); (case k5 => k_asm); (case k6 => first | exact rfl | assumption); (case k7 => ktr_room); (case k8 => ktr_units); k_whole); intro h9 tk9 v9 F9 N9 hv9; (try dsimp only); (try k_fold)))

theorem c_link {w : World} (x : Str) (t : Tok) (hx : x.length ≤ 1000) : Con w 815 3 32 [.str x t] (fun v tl => DatIn tl v (linkD (linkAt x 0))) := by
  unfold Con
  k_fill
  intro dp un gd cn cs a ccd cl outer A₀ base h₀ L m news s mean mg mb Q E B F X N T hk hd hu hret
  refine wpAny_call ?_
  refine' code_def (binds := [(Str.ofString "told", Value.str x t)]) ?k1 ?k2 ?k3 ?k4 ?k5 ?kA ?kF ?kK ?k6 ?k7 ?k8 ?k9 ?kB ?_ ?c2 ?c3 ?c4 ?c5
  case kA => exact rfl
  case kF => exact rfl
  case kK => assumption
  case k1 => k_asm
  case k2 => k_asm
  case k3 => k_asm
  case k4 => k_asm
  case k5 => k_asm
  case k6 => k_is
  case k7 => k_is
  case k8 => ktr_room
  case k9 => exact BindsTo.of_eq rfl
  case c5 => decide
  case kB => exact locs rfl
  case c2 => exact rfl
  case c3 => exact rfl
  case c4 => exact rfl
  k_whole
  intro g' L' h' FG' F' N' B' X' T'
  try dsimp only
  try k_lift B'
  try k_fold

  k_steps
  rename Fr g' L' _ _ => FF
  rename News g' L' _ (_ :: news) => NN
  rename OptV _ _ => hv
  rename_i v9 h9 _ _ _ _ _ _
  refine whl_data (D := Str × Int) (size := fun d => d.1.length) (I := fun d s' => ∃ (hh : Heap) (tk : Nat) (tt u : Tok) (pv : Value), s' = { s with heap := hh, toks := tk } ∧ Fr g' L' hh (mLink (.str d.1 tt) (.int d.2 u) pv) ∧ OptV (innerF d.1) pv ∧ News g' L' hh news ∧ d.1.length ≤ 1000 ∧ linkAt d.1 d.2 = linkAt x 0) ?hE ?turn x.length (x, 0) _ (Nat.le_refl _) ?init
  case hE => first | passes_own | with_unfolding_all passes_own
  case init =>
    refine' ⟨_, _, t, ?u, _, rfl, fr_same FF ?e, hv, cb_drop NN (fun p hp => .tail _ hp), hx, rfl⟩
    case e =>
      intro y
      by_cases h2 : y = Str.ofString "height"
      · subst h2; exact rfl
      by_cases h1 : y = Str.ofString "plain"
      · subst h1; rfl
      by_cases h3 : y = Str.ofString "told"
      · subst h3; rfl
      simp [mLink, h1, h2, h3, List.lookup, beq_eq_false_iff_ne.mpr h3]
  case turn =>
    clear NN FF hv
    rintro ⟨y, ht⟩ s' ⟨hh, tk, tt, u, pv, rfl, F1, hv1, N1, hy, he⟩ IH
    dsimp only at F1 hv1 hy he
    cases e : innerF y with
    | none =>
      rw [e] at hv1
      have hv1 : pv = Value.none := hv1
      subst hv1
      rw [linkAt_none e] at he
      k_steps
      refine hret _ _ _ [_] (by assumption) (by assumption) (fun q hq p hp => by rw [List.mem_singleton.mp hp]; exact (by assumption : ∀ p, p ∈ news → p.1 < _) q hq) ?_
      rw [← he]
      exact DatIn.tuple (vs := [_, _]) (n := 0) (.head _) (.cons (.str _ _) (.cons (.int _ _) .nil))
    | some p =>
      rw [e] at hv1
      obtain ⟨t2, hv1⟩ := hv1
      subst hv1
      have hp := inner_lt e
      k_steps
      refine' IH (p, ht + 1) _ hp ⟨_, _, t2, ?u2, _, rfl, fr_same (by assumption) ?e2, (by assumption), cb_drop (by assumption) (fun p hp => .tail _ hp), (by dsimp only; omega), (by rw [← linkAt_some e]; exact he)⟩
      case e2 =>
        intro y
        by_cases h2 : y = Str.ofString "height"
        · subst h2; exact rfl
        by_cases h1 : y = Str.ofString "plain"
        · subst h1; rfl
        by_cases h3 : y = Str.ofString "told"
        · subst h3; rfl
        simp [mLink, h1, h2, h3]
theorem use_link {w : World} {x : Str} {t : Tok} {dp un : Nat} {gd : Option (List Code)} {cn : Str} {cs : Scope} {a : Addr} {ccd : Value} {cl : List (Str × Addr)} {outer : List Env} {A₀ : Around} {base h₀ : Heap} {L : Addr} {m : Str → Option Value} {news : List (Addr × Obj)} {s : Shared}
    {mean : ExcName → Option Value} {mg mb : Str → Option Value} {Q E : Value → Shared → Prop} (hx : x.length ≤ 1000)
    (B : Below A₀ base outer h₀) (F : Fr h₀ L s.heap m) (X : (KF w.params).In h₀) (N : News h₀ L s.heap news) (T : Top qv (looseW qv lo) mean mg mb h₀) (hk : cs.kind = .function) (hd : dp + 3 < recursionLimit) (hu : un + 32 < cLine)
    (h : ∀ h' tk' v tl, Fr h₀ L h' m → News h₀ L h' (tl ++ news) → (∀ q ∈ news, ∀ p ∈ tl, q.1 < p.1) → DatIn tl v (linkD (linkAt x 0)) → Q v { s with heap := h', toks := tk' }) :
    wpAny (model PySem.Challenge.rw_ij0131_01.row.prog w) (ktrTop dp un gd cn cs L a ccd cl outer) (call (.ref 815) [.str x t]) Q E s := by
  refine c_link x t hx dp un gd cn cs a ccd cl outer A₀ base h₀ L m news s mean mg mb Q E B F X N T hk hd hu ?_
  rintro v h' tk' tl F' N' l hv
  exact h h' tk' v tl F' N' l hv

end
section
open PySem PySem.W PyProof.Rows PySem.Calls
set_option maxRecDepth 100000
set_option maxHeartbeats 8000000
def nextF (r : Str × Int) : Str × Int := if r.2 = 0 ∧ bareF r.1 = true then r else (r.1, r.2 + 1)
local macro_rules | `(tactic| walk_at "call ref") => `(tactic| (k_here; (with_reducible show wpAny _ _ (call (Value.ref 803) [Value.str _ _]) _ _ _); k_dflt (refine' use_bare ?k1 ?k2 ?k3 ?k4 ?k5 ?k6 ?k7 ?k8 ?_; (case k1 => k_asm); (case k2 => k_asm); (case k3 => k_asm); (case k4 => k_asm); (case k5 => k_asm); (case k6 => first | exact rfl | assumption); (case k7 => ktr_room); (case k8 => ktr_units); k_whole); intro h9 tk9 F9 N9; (try dsimp only); (try k_fold)))

theorem c_next {w : World} {b : Addr} {n : Nat} (c : Str) (t : Tok) (k : Int) (u : Tok) (dp un : Nat) (gd : Option (List Code)) (cn : Str) (cs : Scope) (a : Addr) (ccd : Value) (cl : List (Str × Addr)) (outer : List Env) (A₀ : Around) (base h₀ : Heap) (L : Addr) (m : Str → Option Value) (news : List (Addr × Obj)) (s : Shared)
    (mean : ExcName → Option Value) (mg mb : Str → Option Value) (Q E : Value → Shared → Prop) (hm : (b, ({ cls := .type "tuple", data := .seq [Value.str c t, Value.int k u].toArray n } : Obj)) ∈ news)
    (B : Below A₀ base outer h₀) (F : Fr h₀ L s.heap m) (X : (KF w.params).In h₀) (N : News h₀ L s.heap news) (T : Top qv (looseW qv lo) mean mg mb h₀) (hk : cs.kind = .function) (hd : dp + 2 < recursionLimit) (hu : un + 16 < cLine)
    (hret : ∀ v h' tk' tl, Fr h₀ L h' m → News h₀ L h' (tl ++ news) → (∀ q ∈ news, ∀ p ∈ tl, q.1 < p.1) → DatIn (tl ++ [(b, ({ cls := .type "tuple", data := .seq [Value.str c t, Value.int k u].toArray n } : Obj))]) v (linkD (nextF (c, k))) → Q v { s with heap := h', toks := tk' }) :
    wpAny (model PySem.Challenge.rw_ij0131_01.row.prog w) (ktrTop dp un gd cn cs L a ccd cl outer) (call (.ref 822) [.ref b]) Q E s := by
  revert X
  k_fill
  intro X
  refine wpAny_call ?_
  refine' code_def (binds := [(Str.ofString "link", Value.ref b)]) ?k1 ?k2 ?k3 ?k4 ?k5 ?kA ?kF ?kK ?k6 ?k7 ?k8 ?k9 ?kB ?_ ?c2 ?c3 ?c4 ?c5
  case kA => exact rfl
  case kF => exact rfl
  case kK => assumption
  case k1 => k_asm
  case k2 => k_asm
  case k3 => k_asm
  case k4 => k_asm
  case k5 => k_asm
  case k6 => k_is
  case k7 => k_is
  case k8 => ktr_room
  case k9 => exact BindsTo.of_eq rfl
  case c5 => decide
  case kB => exact locs rfl
  case c2 => exact rfl
  case c3 => exact rfl
  case c4 => exact rfl
  k_whole
  intro g' L' h' FG' F' N' B' X' T'
  try dsimp only
  try k_lift B'
  try k_fold
  k_steps
  · refine hret _ _ _ [] (by assumption) (by assumption) (fun _ _ _ h => nomatch h) ?_
    rw [show nextF (c, k) = (c, k) from if_pos ⟨by first | assumption | omega | simp_all, by assumption⟩]
    exact DatIn.tuple (vs := [_, _]) (n := n) (.head _) (.cons (.str _ _) (.cons (.int _ _) .nil))
  · refine hret _ _ _ [_] (by assumption) (by assumption) (fun q hq p hp => by rw [List.mem_singleton.mp hp]; exact (by assumption : ∀ p, p ∈ news → p.1 < _) q hq) ?_
    rw [show nextF (c, k) = (c, k + 1) from if_neg (fun q => absurd (q.2.symm.trans (by assumption : bareF c = false)) (by decide))]
    exact DatIn.tuple (vs := [_, _]) (n := 0) (.head _) (.cons (.str _ _) (.cons (.int _ _) .nil))
  · refine hret _ _ _ [_] (by assumption) (by assumption) (fun q hq p hp => by rw [List.mem_singleton.mp hp]; exact (by assumption : ∀ p, p ∈ news → p.1 < _) q hq) ?_
    rw [show nextF (c, k) = (c, k + 1) from if_neg (fun q => by have q1 := q.1; first | omega | simp_all)]
    exact DatIn.tuple (vs := [_, _]) (n := 0) (.head _) (.cons (.str _ _) (.cons (.int _ _) .nil))
theorem use_next {w : World} {b : Addr} {n : Nat} {c : Str} {t : Tok} {k : Int} {u : Tok} {dp un : Nat} {gd : Option (List Code)} {cn : Str} {cs : Scope} {a : Addr} {ccd : Value} {cl : List (Str × Addr)} {outer : List Env} {A₀ : Around} {base h₀ : Heap} {L : Addr} {m : Str → Option Value} {news : List (Addr × Obj)} {s : Shared}
    {mean : ExcName → Option Value} {mg mb : Str → Option Value} {Q E : Value → Shared → Prop} (hm : (b, ({ cls := .type "tuple", data := .seq [Value.str c t, Value.int k u].toArray n } : Obj)) ∈ news)
    (B : Below A₀ base outer h₀) (F : Fr h₀ L s.heap m) (X : (KF w.params).In h₀) (N : News h₀ L s.heap news) (T : Top qv (looseW qv lo) mean mg mb h₀) (hk : cs.kind = .function) (hd : dp + 2 < recursionLimit) (hu : un + 16 < cLine)
    (hret : ∀ h' tk' v tl, Fr h₀ L h' m → News h₀ L h' (tl ++ news) → (∀ q ∈ news, ∀ p ∈ tl, q.1 < p.1) → DatIn (tl ++ [(b, ({ cls := .type "tuple", data := .seq [Value.str c t, Value.int k u].toArray n } : Obj))]) v (linkD (nextF (c, k))) → Q v { s with heap := h', toks := tk' }) :
    wpAny (model PySem.Challenge.rw_ij0131_01.row.prog w) (ktrTop dp un gd cn cs L a ccd cl outer) (call (.ref 822) [.ref b]) Q E s :=
  c_next c t k u dp un gd cn cs a ccd cl outer A₀ base h₀ L m news s mean mg mb Q E hm B F X N T hk hd hu (fun v h' tk' tl F' N' l hv => hret h' tk' v tl F' N' l hv)
theorem linkD_inv {n : List (Addr × Obj)} {v : Value} {r : Str × Int} (h : DatIn n v (linkD r)) : ∃ b nn t u, v = Value.ref b ∧ (b, ({ cls := .type "tuple", data := .seq [Value.str r.1 t, Value.int r.2 u].toArray nn } : Obj)) ∈ n := by
  unfold linkD at h
  cases h with
  | tuple hm hd =>
    cases hd with
    | cons h1 h2 =>
      cases h1 with
      | str x t =>
        cases h2 with
        | cons h3 h4 =>
          cases h3 with
          | int i u =>
            cases h4 with
            | nil => exact ⟨_, _, t, u, rfl, hm⟩

end
section
open PySem PySem.W PyProof.Rows PySem.Calls
set_option maxRecDepth 100000
set_option maxHeartbeats 8000000
theorem linkF_shift (k : Int) : ∀ (n : Nat) (x : Str) (h : Int), linkF n x (h + k) = ((linkF n x h).1, (linkF n x h).2 + k)
  | 0, x, h => rfl
  | n + 1, x, h => by
    unfold linkF
    cases innerF x with
    | none => rfl
    | some p =>
      dsimp only
      rw [← linkF_shift k n p (h + 1), Int.add_right_comm]
theorem linkF_ge : ∀ (n : Nat) (x : Str) (h : Int), h ≤ (linkF n x h).2
  | 0, x, h => Int.le_refl _
  | n + 1, x, h => by
    unfold linkF
    cases innerF x with
    | none => exact Int.le_refl _
    | some p =>
      have := linkF_ge n p (h + 1)
      dsimp only
      omega
theorem linkAt_shift (x : Str) (k : Int) : linkAt x k = ((linkAt x 0).1, (linkAt x 0).2 + k) := by
  have h := linkF_shift k x.length x 0
  rw [Int.zero_add] at h
  exact h
theorem linkAt_ge (x : Str) (h : Int) : h ≤ (linkAt x h).2 := linkF_ge _ _ _
/-- a quoting's link is the next link -/
theorem quote_link (x : Str) : linkAt (quoteF x) 0 = nextF (linkAt x 0) := by
  cases hb : bareF x with
  | true =>
    rw [quote_bare hb, linkAt_none (bare_inner hb)]
    unfold nextF
    rw [if_pos ⟨rfl, hb⟩]
  | false =>
    rw [linkAt_some (inner_quote hb), Int.zero_add, linkAt_shift x 1]
    unfold nextF
    rw [if_neg]
    rintro ⟨h1, h2⟩
    cases e : innerF x with
    | none =>
      rw [linkAt_none e, hb] at h2
      cases h2
    | some p =>
      rw [linkAt_some e] at h1
      have := linkAt_ge p (0 + 1)
      omega
/-- a text is known by its link -/
theorem link_inj : ∀ (n : Nat) (x y : Str) (h : Int), x.length ≤ n → linkAt x h = linkAt y h → x = y := by
  intro n
  induction n with
  | zero =>
    intro x y h hx e
    cases ex : innerF x with
    | some p => have := inner_lt ex; omega
    | none =>
      rw [linkAt_none ex] at e
      cases ey : innerF y with
      | none =>
        rw [linkAt_none ey] at e
        exact congrArg Prod.fst e
      | some q =>
        rw [linkAt_some ey] at e
        have := linkAt_ge q (h + 1)
        rw [← e] at this
        dsimp only at this
        omega
  | succ n ih =>
    intro x y h hx e
    cases ex : innerF x with
    | none =>
      rw [linkAt_none ex] at e
      cases ey : innerF y with
      | none =>
        rw [linkAt_none ey] at e
        exact congrArg Prod.fst e
      | some q =>
        rw [linkAt_some ey] at e
        have := linkAt_ge q (h + 1)
        rw [← e] at this
        dsimp only at this
        omega
    | some p =>
      have hp := inner_lt ex
      rw [linkAt_some ex] at e
      cases ey : innerF y with
      | none =>
        rw [linkAt_none ey] at e
        have := linkAt_ge p (h + 1)
        rw [e] at this
        dsimp only at this
        omega
      | some q =>
        rw [linkAt_some ey] at e
        have := ih p q (h + 1) (by omega) e
        rw [← (quote_inner ex).1, ← (quote_inner ey).1, this]
theorem link_inj0 {x y : Str} (h : linkAt x 0 = linkAt y 0) : x = y := link_inj _ x y 0 (Nat.le_refl _) h
theorem mem_link {x : Str} {l : List Str} : linkAt x 0 ∈ (l.map fun x => linkAt x 0) ↔ x ∈ l := by
  rw [List.mem_map]
  exact ⟨fun ⟨a, ha, e⟩ => link_inj0 e ▸ ha, fun h => ⟨x, h, rfl⟩⟩
theorem map_next (l : List Str) : (l.map fun x => nextF (linkAt x 0)) = (l.map quoteF).map fun x => linkAt x 0 := by
  rw [List.map_map]
  exact List.map_congr_left fun x _ => (quote_link x).symm
open Classical in
theorem filt_link (l k : List Str) : ((l.filter fun x => !decide (x ∈ k)).map fun x => linkAt x 0) = (l.map fun x => linkAt x 0).filter (fun r => !decide (r ∈ (k.map fun x => linkAt x 0))) := by
  rw [List.filter_map]
  congr 1
  refine List.filter_congr fun x _ => ?_
  show _ = !decide (linkAt x 0 ∈ _)
  congr 1
  rw [decide_eq_decide]
  exact mem_link.symm
theorem ok_linkF : ∀ (n : Nat) (x : Str) (h : Int), PyData.strOk x = true → PyData.strOk (linkF n x h).1 = true
  | 0, x, h, hx => hx
  | n + 1, x, h, hx => by
    unfold linkF
    cases e : innerF x with
    | none => exact hx
    | some p => exact ok_linkF n p (h + 1) (ok_inner e hx)
theorem ok_linkAt {x : Str} (hx : PyData.strOk x = true) : PyData.strOk (linkAt x 0).1 = true := ok_linkF _ _ _ hx
theorem ok_nextF {r : Str × Int} (h : PyData.strOk r.1 = true) : PyData.strOk (nextF r).1 = true := by
  unfold nextF
  split <;> exact h
theorem kqd_link {r : Str × Int} (h : PyData.strOk r.1 = true) : kqdOk 8 (linkD r) = true := by
  simp [linkD, kqdOk, h]

end
section
open PySem PySem.W PyProof.Rows PySem.Calls
set_option maxRecDepth 100000
set_option maxHeartbeats 8000000
local macro_rules | `(tactic| k_room) => `(tactic| ktr_room)
local macro_rules | `(tactic| k_units) => `(tactic| ktr_units)
local macro_rules | `(tactic| walk_at "WhlPost") => `(tactic| (dsimp only [WhlPost]; unfold WhlRest))
section
open PySem PySem.W PyProof.Rows PySem.Calls
set_option maxRecDepth 100000
set_option maxHeartbeats 4000000
theorem lookup597 (P : Params) : (KF P).lookup 597 = some (o597 P) := by kernel_rfl
theorem madeBy597 (P : Params) (prog : Program) : peek (KF P) ⟨prog, P⟩ (Bind.madeBy (.ref 597)) = some none := by kernel_rfl
theorem here597 (P : Params) (prog : Program) : peek (KF P) ⟨prog, P⟩ (Bind.madeHere "object.__new__" (.ref 597)) = some () := by kernel_rfl
theorem check597 (P : Params) (prog : Program) : peek (KF P) ⟨prog, P⟩ (checkBuiltinCall "object.__new__" ⟨[.ref 597], []⟩) = some () := by kernel_rfl
theorem isType597 (P : Params) (prog : Program) : peek (KF P) ⟨prog, P⟩ (isType (.ref 597)) = some true := by kernel_rfl
theorem mro597 (P : Params) (prog : Program) : peek (KF P) ⟨prog, P⟩ (mroOf (.ref 597)) = some [.ref 597, .ref 120, .ref 93, .type "object"] := by kernel_rfl
theorem call597 (P : Params) (prog : Program) : peek (KF P) ⟨prog, P⟩ (specialOf (.ref 597) "__call__") = some (some (.builtin "type.__call__")) := by kernel_rfl
theorem init597 (P : Params) (prog : Program) : peek (KF P) ⟨prog, P⟩ (typeLookup (.ref 597) "__init__") = some (some (.ref 367)) := by kernel_rfl
theorem sub597 (P : Params) (prog : Program) : peek (KF P) ⟨prog, P⟩ (isSubtype (.ref 597) (.ref 597)) = some true := by kernel_rfl
theorem inst597 (P : Params) (prog : Program) : peek (KF P) ⟨prog, P⟩ (isInstance (.ref 597) (.type "type")) = some true := by kernel_rfl
theorem bind367 (P : Params) (prog : Program) (self : Value) : peek (KF P) ⟨prog, P⟩ (bindSpecial (.ref 367) self) = some (.ref 367, [self]) := by kernel_rfl
def clsOf (o : Obj) : ClassData := match o.data with
  | .cls c => c
  | _ => default
theorem cls597p (P : Params) (prog : Program) : peek (KF P) ⟨prog, P⟩ (classData 597) = some (clsOf (o597 P)) := by kernel_rfl
theorem cls597 (P : Params) (prog : Program) : ∃ c, peek (KF P) ⟨prog, P⟩ (classData 597) = some c ∧ c.abstract = false ∧ c.hasDel = false := ⟨_, cls597p P prog, rfl, rfl⟩
section
variable {w : World} {A : Around} {R : Result → Shared → Prop} {h : Heap} {g : Array GenState} {d : Drawn} {t : Nat} {os : OsState}
theorem new597 (X : (KF w.params).In h) (hq : R (.ok (.ret (.ref (h.objs.size + 1)))) ⟨(h.push emptyDict).push (instObj 597 h.objs.size), g, d, t, os⟩) :
    codeAny (model PySem.Challenge.rw_ij0131_01.row.prog w) A (.call (.builtin "object.__new__") ⟨[.ref 597], []⟩) R ⟨h, g, d, t, os⟩ := by
  have F := PySem.F.objNew
  have hC := X _ _ (lookup597 w.params)
  refine codeAny_call_builtin_code (Code.quiet_builtin _ F.quiet) ?_
  refine (Looks.of_peek (M := model PySem.Challenge.rw_ij0131_01.row.prog w) X (check597 w.params _)).here ?_
  refine codeAny_builtin F.entry ?_
  unfold Builtin.«object.__new__»
  have fin : ∀ A', wpAny (model PySem.Challenge.rw_ij0131_01.row.prog w) A' (do
      let d ← if typeHasDict (.ref 597) then some <$> alloc { cls := .type "dict", data := .dict #[] } else pure none
      ret (← newObj (.ref 597) .plain d)) (fun fin s' => match fin with | .done f => R (.ok f) s' | .again c' => c'.quiet = true ∧ codeAny (model PySem.Challenge.rw_ij0131_01.row.prog w) A c' R s') (fun e s' => R (.error e) s') ⟨h, g, d, t, os⟩ := by
    intro A'
    show wpAny _ _ ((alloc emptyDict >>= fun x => pure (some x)) >>= _) _ _ _
    refine wpAny_bind (wpAny_bind (wpAny_alloc (wpAny_pure (wpAny_bind ?_))))
    show wpAny _ _ (newObjAsIs _ _ _) _ _ _
    unfold newObjAsIs classHasDel
    refine wpAny_bind (wpAny_alloc (wpAny_bind (wpAny_bind (wpAny_load (Heap.get?_push_of_some _ (Heap.get?_push_of_some _ hC)) (wpAny_pure ?_)))))
    refine wpAny_pure (wpAny_pure ?_)
    show R _ _
    rw [Heap.size_push]
    exact hq
  have here := Looks.of_peek (M := model PySem.Challenge.rw_ij0131_01.row.prog w) X (here597 w.params _)
  have ist := Looks.of_peek (M := model PySem.Challenge.rw_ij0131_01.row.prog w) X (isType597 w.params _)
  obtain ⟨cd, hcd, e1, e2⟩ := cls597 w.params PySem.Challenge.rw_ij0131_01.row.prog
  have lcd := Looks.of_peek (M := model PySem.Challenge.rw_ij0131_01.row.prog w) X hcd
  repeat (first | simp only [e1, bne_self_eq_false, Bool.false_eq_true, if_false, Bool.not_true, List.isEmpty_nil, Bool.or_self] | exact fin _ | lk)
end
theorem read597 (P : Params) : readsIn (KF P) 597 (.type "type") = true := by kernel_rfl
theorem find597 (P : Params) : findCls (KF P) (.ref 597) (.type "type") "__new__" = some (.get (.builtin "staticmethod.__get__") (.ref 94) .none (.ref 597)) := by kernel_rfl
theorem rec94 (P : Params) : recIn (KF P) 94 "staticmethod" = some [.ref 90] := by kernel_rfl
theorem type597 (P : Params) : typeIn (KF P) (.ref 597) = some (.type "type") := by kernel_rfl
section
variable {w : World} {A : Around} {E : Value → Shared → Prop} {s : Shared} {h₀ : Heap} {L : Addr} {m : Str → Option Value} {news : List (Addr × Obj)} {Q : Value → Shared → Prop} {x : Str} {t : Tok}
abbrev sioA (A : Around) (x : Str) (t : Tok) : Around := A.under (.builtin "type.__call__" ⟨[.ref 597, .str x t], []⟩)
def SioBack (w : World) (A : Around) (x : Str) (t : Tok) (Q E : Value → Shared → Prop) (v : Value) (s' : Shared) : Prop :=
  ∃ a dx, v = .ref a ∧ s'.heap.get? a = some (instObj 597 dx) ∧ (KF w.params).In s'.heap ∧
    codeAny (model PySem.Challenge.rw_ij0131_01.row.prog w) (sioA A x t) (.call (.ref 367) ⟨[.ref a, .str x t], []⟩) (InitBack a fun r s' => match r with | .ok (.ret v) => Q v s' | .ok _ => False | .error e => E e s') s'
theorem sio_back {a dx : Addr} (F : Fr h₀ L s.heap m) (X : (KF w.params).In h₀) (N : News h₀ L s.heap news) (hm : (a, instObj 597 dx) ∈ news)
    (h : codeAny (model PySem.Challenge.rw_ij0131_01.row.prog w) (sioA A x t) (.call (.ref 367) ⟨[.ref a, .str x t], []⟩) (InitBack a fun r s' => match r with | .ok (.ret v) => Q v s' | .ok _ => False | .error e => E e s') s) :
    SioBack w A x t Q E (.ref a) s := ⟨a, dx, rfl, (N _ hm).1, X.keeps F.keep, h⟩
theorem sio_make (F : Fr h₀ L s.heap m) (X₀ : (KF w.params).In h₀)
    (h : wpAny (model PySem.Challenge.rw_ij0131_01.row.prog w) (sioA A x t) (call (.ref 90) [.ref 597, .str x t]) (SioBack w A x t Q E) E { s with toks := s.toks + 1 }) :
    wpAny (model PySem.Challenge.rw_ij0131_01.row.prog w) A (call (.ref 597) [.str x t]) Q E s := by
  have X := X₀.keeps F.keep
  have hC := X _ _ (lookup597 w.params)
  refine wpAny_call (codeAny_of_tree ?_)
  show wpAny _ _ (callAny (.ref 597) _) _ _ _
  refine nd_load hC ?_
  show wpAny _ _ (callAny.viaDunder (.ref 597) _) _ _ _
  unfold callAny.viaDunder
  refine wpAny_bind ((Looks.of_peek (M := model PySem.Challenge.rw_ij0131_01.row.prog w) X (call597 w.params _)).here ?_)
  dsimp only
  rw [tc_bind]
  refine wpAny_bind (wpAny_pure (wpAny_bind (wpAny_pure ?_)))
  refine wpAny_pure (a := Fin.again (.call (.builtin "type.__call__") ⟨[.ref 597, .str x t], []⟩)) (And.intro rfl ?_)
  have typ := Looks.of_peek (M := model PySem.Challenge.rw_ij0131_01.row.prog w) X (inst597 w.params _)
  refine codeAny_call_builtin_at (Code.quiet_builtin _ (by decide +kernel)) entry_typeCall (check_slot tc_kind tc_split typ (tc_args _ _ _) ?_)
  unfold Builtin.«type.__call__»
  have hm := Looks.of_peek (M := model PySem.Challenge.rw_ij0131_01.row.prog w) X (mro597 w.params _)
  have hb := Looks.of_peek (M := model PySem.Challenge.rw_ij0131_01.row.prog w) X (madeBy597 w.params _)
  dsimp only
  generalize hga : getAttr (Value.ref 597) (Str.ofString "__new__") false = T
  repeat (first | simp only [List.isEmpty_cons, Bool.false_eq_true, if_false] | lk)
  rw [← hga]
  refine cls_sm F X₀ (type597 w.params) (read597 w.params) (find597 w.params) (rec94 w.params) rfl ?_
  refine wpAny_bind (wpAny_holding (wpAny_mono h (fun v s' hv => ?_) fun _ _ e => e))
  obtain ⟨a, dx, rfl, ha, X', hc⟩ := hv
  have t1 : Looks (model PySem.Challenge.rw_ij0131_01.row.prog w) s'.heap (typeOf (.ref a)) (.ref 597) := (Looks.ld ha).andThen .now
  have s1 := Looks.of_peek (M := model PySem.Challenge.rw_ij0131_01.row.prog w) X' (sub597 w.params _)
  have i1 := Looks.of_peek (M := model PySem.Challenge.rw_ij0131_01.row.prog w) X' (init597 w.params _)
  have b1 := Looks.of_peek (M := model PySem.Challenge.rw_ij0131_01.row.prog w) X' (bind367 w.params _ (.ref a))
  obtain ⟨hh, g, d, tk, os⟩ := s'
  dsimp only at t1 s1 i1 b1
  unfold isInstance callSpecial? specialOf
  repeat (first | simp only [Bool.not_true, Bool.false_eq_true, if_false] | with_reducible refine wpAny_call ?_ | lk)
  refine codeAny_mono hc fun r s' z => ?_
  rcases r with e | (v | _ | _ | _) <;> first | exact z | exact z.elim | skip
  obtain ⟨rfl, z⟩ := z
  exact wpAny_pure (wpAny_pure z)
end
theorem objNew_call {w : World} {A : Around} {E : Value → Shared → Prop} {s : Shared} {h₀ : Heap} {L : Addr} {m : Str → Option Value} {news : List (Addr × Obj)} {Q : Value → Shared → Prop} (F : Fr h₀ L s.heap m) (X : (KF w.params).In h₀) (N : News h₀ L s.heap news)
    (h : ∀ x dx h', Fr h₀ L h' m → News h₀ L h' ((x, instObj 597 dx) :: (dx, dictOf [] 0) :: news) → (∀ p ∈ news, p.1 < dx) → dx < x → Q (.ref x) { s with heap := h' }) :
    wpAny (model PySem.Challenge.rw_ij0131_01.row.prog w) A (call (.builtin "object.__new__") [.ref 597]) Q E s := by
  obtain ⟨hh, g, d, tk, os⟩ := s
  refine wpAny_call (new597 (X.keeps F.keep) ?_)
  refine h _ hh.objs.size _ ((F.push _).push _) ?_ (fun p hp => Heap.lt_size (N p hp).1) (Nat.lt_succ_self _)
  have := News.push (F.push emptyDict) (News.push F N emptyDict (by rfl)) (instObj 597 hh.objs.size) (by rfl)
  rw [Heap.size_push] at this
  exact this

end
section
open PySem PySem.W PyProof.Rows PySem.Calls
set_option maxRecDepth 100000
set_option maxHeartbeats 4000000
abbrev dqObj : Obj := { cls := .type "collections.deque", data := .fields #[.none, .int 0 0] }
theorem dq_mro : mroOf (.type "collections.deque") = pure [.type "collections.deque", .type "object"] := by rw [mroOf_type]; kernel_rfl
theorem dq_lookup_new : typeLookup (.type "collections.deque") "__new__" = pure (some (.builtin "collections.deque.__new__")) := by rw [typeLookup_type, builtinLookup_eq_fast]; kernel_rfl
theorem dq_slot_init : Slot "collections.deque" "__init__" "collections.deque.__init__" :=
  .of (owner := "collections.deque") (n := "__init__") (by rw [typeLookup_type, builtinLookup_eq_fast]; kernel_rfl) (by decide +kernel) (by decide +kernel) (by decide +kernel)
    (by first | exact .inl (by decide +kernel) | exact .inr (by decide +kernel)) (by rw [isSubtype_type]; kernel_rfl)
theorem dq_slot_len : Slot "collections.deque" "__len__" "collections.deque.__len__" :=
  .of (owner := "collections.deque") (n := "__len__") (by rw [typeLookup_type, builtinLookup_eq_fast]; kernel_rfl) (by decide +kernel) (by decide +kernel) (by decide +kernel)
    (by first | exact .inl (by decide +kernel) | exact .inr (by decide +kernel)) (by rw [isSubtype_type]; kernel_rfl)
theorem dq_called : TypeCalled "collections.deque" "collections.deque.__new__" "collections.deque.__init__" :=
  ⟨by decide +kernel, by decide +kernel, ⟨_, _, dq_mro⟩, madeBy_type dq_mro dq_lookup_new (by decide +kernel), by decide +kernel, by rw [isSubtype_type]; kernel_rfl, dq_slot_init⟩
theorem dq_typeCall : checkTypeCall "collections.deque" ⟨[], []⟩ = pure () := by kernel_rfl
theorem dq_newCall : checkBuiltinCall "collections.deque.__new__" ⟨[.type "collections.deque"], []⟩ = pure () := by kernel_rfl
theorem dq_entry_new : entryFor table "collections.deque.__new__" = some Builtin.«collections.deque.__new__» := entryFor_of_tree (by kernel_rfl)
theorem dq_entry_init : entryFor table "collections.deque.__init__" = some Builtin.«collections.deque.__init__» := entryFor_of_tree (by kernel_rfl)
theorem dq_entry_len : entryFor table "collections.deque.__len__" = some Builtin.«collections.deque.__len__» := entryFor_of_tree (by kernel_rfl)
theorem dq_plain_new : plainId "collections.deque.__new__" = true := by decide +kernel
theorem dq_args_init (a : Value) : argsOk "collections.deque.__init__" ⟨[a], []⟩ := by unfold argsOk; kernel_rfl
theorem dq_args_len (a : Value) : argsOk "collections.deque.__len__" ⟨[a], []⟩ := by unfold argsOk; kernel_rfl
theorem dq_newArgs : Builtin.Deque.newArgs Builtin.Deque.ty ⟨[.type "collections.deque"], []⟩ = pure (.type "collections.deque", []) := by kernel_rfl
theorem dq_noBool : typeLookup (.type "collections.deque") "__bool__" = pure none := by rw [typeLookup_type, builtinLookup_eq_fast]; kernel_rfl
section
variable {prog : Program} {w : World} {A : Around} {E : Value → Shared → Prop} {s : Shared} {h₀ : Heap} {L : Addr} {m : Str → Option Value} {news : List (Addr × Obj)}
theorem dq_code_new {Q₁ : Value → Shared → Prop} (h : Q₁ (.ref s.heap.objs.size) { s with heap := s.heap.push dqObj }) :
    codeAny (model prog w) A (.call (.builtin "collections.deque.__new__") ⟨[.type "collections.deque"], []⟩) (wants Q₁ E) s := by
  refine codeAny_call_builtin dq_plain_new dq_entry_new (wpAny_of_eq dq_newCall ?_)
  unfold Builtin.«collections.deque.__new__»
  rw [dq_newArgs]
  refine wpAny_bind (wpAny_pure ?_)
  dsimp only
  refine wpAny_bind ?_
  unfold Builtin.Deque.new
  rw [if_neg (by decide)]
  refine wpAny_bind (wpAny_pure ?_)
  refine wpAny_bind ?_
  refine wpAny_alloc ?_
  first | exact h | exact wpAny_pure h | exact wpAny_pure (wpAny_pure h) | exact wpAny_pure (wpAny_pure (wpAny_pure h))
theorem dq_call {Q : Value → Shared → Prop} (F : Fr h₀ L s.heap m) (N : News h₀ L s.heap news)
    (h : ∀ a h', Fr h₀ L h' m → News h₀ L h' ((a, dqObj) :: news) → (∀ p ∈ news, p.1 < a) → Q (.ref a) { s with heap := h' }) :
    wpAny (model prog w) A (call (.type "collections.deque") []) Q E s := by
  refine callType_codes (Q₁ := fun obj s₁ => obj = .ref s.heap.objs.size ∧ s₁ = { s with heap := s.heap.push dqObj }) dq_called dq_typeCall dq_entry_init (dq_code_new ⟨rfl, rfl⟩) ?_
  rintro obj s₁ ⟨rfl, rfl⟩
  have ho : (s.heap.push dqObj).get? s.heap.objs.size = some dqObj := Heap.get?_push_size _ rfl
  have N1 : News h₀ L (s.heap.push dqObj) ((s.heap.objs.size, dqObj) :: news) := News.push F N dqObj (by rfl)
  have lt : ∀ p ∈ news, p.1 < s.heap.objs.size := fun p hp => Heap.lt_size (N p hp).1
  refine ⟨⟨_, ho, rfl⟩, dq_args_init _, ?_⟩
  show wpAny _ _ (setField (.ref s.heap.objs.size) 0 .none >>= fun _ => Builtin.Deque.clear (.ref s.heap.objs.size) >>= fun _ => ret .none) _ _ _
  refine wpAny_bind (wpAny_setField ho rfl (by decide) ?_)
  obtain ⟨F2, N2⟩ := news_upd (pre := []) (post := news) (o := dqObj) (o' := dqObj) (f := Obj.mapFields (·.setIfInBounds 0 .none)) (F.push dqObj) N1 (fun _ hp => nomatch hp) (fun p hp => Nat.ne_of_lt (lt p hp)) rfl rfl
  refine wpAny_bind ?_
  unfold Builtin.Deque.clear
  refine wpAny_bind ?_
  unfold Builtin.Deque.items
  refine wpAny_bind (wpAny_fieldsOf (N2 _ (.head _)).1 rfl (wpAny_pure ?_))
  rw [if_neg (by decide)]
  refine wpAny_pure (wpAny_pure ?_)
  exact ⟨rfl, h _ _ F2 N2 lt⟩
theorem dq_truthy {a : Addr} {Q : Bool → Shared → Prop} (N : News h₀ L s.heap news) (hm : (a, dqObj) ∈ news) (h : ∀ k, Q false { s with toks := k }) : wpAny (model prog w) A (truthy (.ref a)) Q E s := by
  have ho := (N _ hm).1
  have hT : s.TypeIs (.ref a) "collections.deque" := ⟨_, ho, rfl⟩
  have body : ∀ Q' : Value → Shared → Prop, Q' (.int 0 (s.toks + 1)) { s with toks := s.toks + 1 + 1 } → wpAny (model prog w) A.in1 (Builtin.«len» ⟨[.ref a], []⟩) (fun fin s' => ∃ r, fin = .done (.ret r) ∧ Q' r s') E s := by
    intro Q' hq
    unfold Builtin.«len»
    refine wpAny_bind (m := oneArg "len" _) (wpAny_pure ?_)
    refine wpAny_bind (m := callSpecial? (.ref a) (Str.ofString "__len__")) (wpAny_callSpecial?_slot (name := Str.ofString "__len__") hT dq_slot_len
      (wpAny_call_entry dq_slot_len hT dq_entry_len ?_ (dq_args_len _)))
    show wpAny _ _ (Builtin.Deque.size (.ref a) >>= fun n => retInt n) _ _ s
    unfold Builtin.Deque.size
    refine wpAny_bind (wpAny_bind (wpAny_fieldsOf ho rfl (wpAny_pure ?_)))
    refine wpAny_bind (wpAny_mkInt (wpAny_pure ⟨_, rfl, ?_⟩))
    refine wpAny_bind (wpAny_holding (wpAny_pure ?_))
    refine wpAny_bind (wpAny_letGo ?_)
    show wpAny _ _ (if (0 : Int) < 0 then _ else _) _ _ _
    rw [if_neg (by omega)]
    show wpAny _ _ (if (0 : Int) ≥ 2 ^ 63 then _ else _) _ _ _
    rw [if_neg (by omega)]
    exact wpAny_bind (wpAny_mkInt (wpAny_pure ⟨_, rfl, hq⟩))
  have key : wpAny (model prog w) A (runValue (.builtin "len" ⟨[.ref a], []⟩)) (fun r s' => r = .int 0 (s.toks + 1) ∧ Q false s') E s := by
    refine wpAny_runValue (codeAny_builtin entry_len ?_)
    rw [Around.under_plainId plain_len _]
    exact wpAny_mono (body (fun r s' => r = .int 0 (s.toks + 1) ∧ Q false s') ⟨rfl, h _⟩)
      (fun fin s' h' => by obtain ⟨r, rfl, hq⟩ := h'; exact hq) fun _ _ e => e
  unfold truthy
  first
    | refine wpAny_bind (wpAny_callSpecial?_none (name := Str.ofString "__bool__") hT dq_noBool ?_)
    | refine wpAny_bind (wpAny_pure (wpAny_bind (wpAny_callSpecial?_none (name := Str.ofString "__bool__") hT dq_noBool ?_)))
  first
    | refine wpAny_bind (wpAny_specialOf (name := Str.ofString "__len__") hT dq_slot_len.lookup ?_)
    | refine wpAny_bind (wpAny_pure (wpAny_bind (wpAny_specialOf (name := Str.ofString "__len__") hT dq_slot_len.lookup ?_)))
  exact wpAny_bind (wpAny_mono key (fun r s' h' => by obtain ⟨rfl, hq⟩ := h'; exact wpAny_pure hq) fun _ _ e => e)
end

end
section
open PySem PySem.W PyProof.Rows PySem.Calls PyProof
set_option maxRecDepth 100000
set_option maxHeartbeats 8000000
local macro_rules | `(tactic| k_all) => `(tactic| with_reducible assumption)
abbrev sioEs (P : Params) (K V : Nat → Tok) (x : Str) (pv : Value) : List DictEntry :=
  [{ hash := PyData.keyHash P (Str.ofString "_StringIO__newline"), key := .str (Str.ofString "_StringIO__newline") (K 0), val := .str (Str.ofString "\n") (V 0) },
   { hash := PyData.keyHash P (Str.ofString "_StringIO__buf"), key := .str (Str.ofString "_StringIO__buf") (K 1), val := .str x (V 1) },
   { hash := PyData.keyHash P (Str.ofString "_StringIO__pos"), key := .str (Str.ofString "_StringIO__pos") (K 2), val := pv }]
def readF (x : Str) (p : Nat) : Str := if h : p < x.cps.size then ⟨#[x.cps[p]]⟩ else ⟨#[]⟩
def stepF (x : Str) (p : Nat) : Nat := if p < x.cps.size then p + 1 else p
theorem str_len (x : Str) : x.length = x.cps.size := rfl
theorem read_slice {x : Str} {p : Nat} {q : Int} (h : p < x.cps.size) (hq : q = (p : Int) + 1) :
    Txt.slice (Txt.slice x (some p) (some q) ++ Str.ofString " ") none (some (-1)) = readF x p := by
  subst hq
  have h1 : Txt.slice x (some (p : Int)) (some ((p : Int) + 1)) = ⟨#[x.cps[p]]⟩ := by
    have e := eq_of_beq (slice_closes (x := x) (i := p) (j := p + 1) ⟨by omega, by omega, by simp; omega⟩)
    rw [e]
    congr 1
    have : ((p : Int) + 1 - p).toNat = 1 := by omega
    rw [this]
    apply Array.ext'
    simp [List.take_one, List.head?_drop, h]
  rw [h1]
  have h2 : (⟨#[x.cps[p]]⟩ ++ Str.ofString " " : Str) = ⟨#[x.cps[p], 32]⟩ := by rfl
  rw [h2]
  have e := eq_of_beq (slice_closes_to_neg (x := ⟨#[x.cps[p], 32]⟩) (j := -1) (k := 1) (by decide) (by show (-2 : Int) ≤ -1; decide) (by rfl))
  rw [e]
  unfold readF
  rw [dif_pos h]
  rfl

local macro_rules | `(tactic| walk_at "idle 0") => `(tactic| skip)
theorem c_read {w : World} {sio ds : Addr} (K V : Nat → Tok) (x : Str) (p : Nat) (tp u : Tok) (hx : x.length ≤ 10000) (dp un : Nat) (gd : Option (List Code)) (cn : Str) (cs : Scope) (a : Addr) (ccd : Value) (cl : List (Str × Addr)) (outer : List Env) (A₀ : Around) (base h₀ : Heap) (L : Addr) (m : Str → Option Value) (rest : List (Addr × Obj)) (s : Shared)
    (mean : ExcName → Option Value) (mg mb : Str → Option Value) (Q E : Value → Shared → Prop) (hsd : @LT.lt Nat _ ds sio) (hr : ∀ q ∈ rest, q.1 ≠ ds)
    (B : Below A₀ base outer h₀) (F : Fr h₀ L s.heap m) (X : (KF w.params).In h₀) (N : News h₀ L s.heap ((sio, instObj 597 ds) :: (ds, dictOf (sioEs w.params K V x (.int p tp)) 3) :: rest)) (T : Top qv (looseW qv lo) mean mg mb h₀) (hk : cs.kind = .function) (hd : dp + 2 < recursionLimit) (hu : un + 32 < cLine)
    (hret : ∀ h' tk' t' tp', Fr h₀ L h' m → News h₀ L h' ((sio, instObj 597 ds) :: (ds, dictOf (sioEs w.params K V x (.int (stepF x p : Nat) tp')) 3) :: rest) → Q (.str (readF x p) t') { s with heap := h', toks := tk' }) :
    wpAny (model PySem.Challenge.rw_ij0131_01.row.prog w) (ktrTop dp un gd cn cs L a ccd cl outer) (call (.ref 543) [.ref sio, .int 1 u]) Q E s := by
  revert X
  k_fill
  intro X
  refine wpAny_call ?_
  refine' code_def (binds := [(Str.ofString "self", Value.ref sio), (Str.ofString "size", Value.int 1 u)]) ?k1 ?k2 ?k3 ?k4 ?k5 ?kA ?kF ?kK ?k6 ?k7 ?k8 ?k9 ?kB ?_ ?c2 ?c3 ?c4 ?c5
  case kA => exact rfl
  case kF => exact rfl
  case kK => assumption
  case k1 => k_asm
  case k2 => k_asm
  case k3 => k_asm
  case k4 => k_asm
  case k5 => k_asm
  case k6 => k_is
  case k7 => k_is
  case k8 => ktr_room
  case k9 => first | exact BindsTo.of_eq rfl | exact binds_K (by k_in) rfl (by k_is) rfl rfl rfl
  case c5 => decide
  case kB => exact locs rfl
  case c2 => exact rfl
  case c3 => exact rfl
  case c4 => exact rfl
  k_whole
  intro g' L' h' FG' F' N' B' X' T'
  try dsimp only
  try k_lift B'
  try k_fold
  k_steps
  · have hl := str_len x
    rw [show readF x p = Str.ofString "" from by unfold readF; rw [dif_neg (by omega)]; rfl, show stepF x p = p from if_neg (by omega)] at hret
    exact hret _ _ _ _ (by assumption) (by assumption)
  · have hl := str_len x
    rw [read_slice (x := x) (p := p) (by omega) rfl]
    rw [show stepF x p = p + 1 from if_pos (by omega)] at hret
    exact hret _ _ _ _ (by assumption) (by assumption)
  · have hl := str_len x
    have he : (x.length : Int) = (p : Int) + 1 := by omega
    rw [read_slice (x := x) (p := p) (by omega) he]
    rw [show stepF x p = p + 1 from if_pos (by omega), show ((p + 1 : Nat) : Int) = (x.length : Int) from by omega] at hret
    exact hret _ _ _ _ (by assumption) (by assumption)

open PySem PySem.W PyProof.Rows PySem.Calls
set_option maxRecDepth 100000
set_option maxHeartbeats 8000000
abbrev lexEs (P : Params) (K V : Nat → Tok) (sio q1 q2 : Addr) (sv lv tv : Value) : List DictEntry :=
  [{ hash := PyData.keyHash P (Str.ofString "instream"), key := .str (Str.ofString "instream") (K 0), val := (.ref sio) },
   { hash := PyData.keyHash P (Str.ofString "infile"), key := .str (Str.ofString "infile") (K 1), val := .none },
   { hash := PyData.keyHash P (Str.ofString "posix"), key := .str (Str.ofString "posix") (K 2), val := (.bool true) },
   { hash := PyData.keyHash P (Str.ofString "eof"), key := .str (Str.ofString "eof") (K 3), val := .none },
   { hash := PyData.keyHash P (Str.ofString "commenters"), key := .str (Str.ofString "commenters") (K 4), val := (.str (Str.ofString "") (V 4)) },
   { hash := PyData.keyHash P (Str.ofString "wordchars"), key := .str (Str.ofString "wordchars") (K 5), val := (.str (Str.ofString "abcdfeghijklmnopqrstuvwxyzABCDEFGHIJKLMNOPQRSTUVWXYZ0123456789_ßàáâãäåæçèéêëìíîïðñòóôõöøùúûüýþÿÀÁÂÃÄÅÆÇÈÉÊËÌÍÎÏÐÑÒÓÔÕÖØÙÚÛÜÝÞ") (V 5)) },
   { hash := PyData.keyHash P (Str.ofString "whitespace"), key := .str (Str.ofString "whitespace") (K 6), val := (.str (Str.ofString " \t\r\n") (V 6)) },
   { hash := PyData.keyHash P (Str.ofString "whitespace_split"), key := .str (Str.ofString "whitespace_split") (K 7), val := (.bool true) },
   { hash := PyData.keyHash P (Str.ofString "quotes"), key := .str (Str.ofString "quotes") (K 8), val := (.str (Str.ofString "'\"") (V 8)) },
   { hash := PyData.keyHash P (Str.ofString "escape"), key := .str (Str.ofString "escape") (K 9), val := (.str (Str.ofString "\\") (V 9)) },
   { hash := PyData.keyHash P (Str.ofString "escapedquotes"), key := .str (Str.ofString "escapedquotes") (K 10), val := (.str (Str.ofString "\"") (V 10)) },
   { hash := PyData.keyHash P (Str.ofString "state"), key := .str (Str.ofString "state") (K 11), val := sv },
   { hash := PyData.keyHash P (Str.ofString "pushback"), key := .str (Str.ofString "pushback") (K 12), val := (.ref q1) },
   { hash := PyData.keyHash P (Str.ofString "lineno"), key := .str (Str.ofString "lineno") (K 13), val := lv },
   { hash := PyData.keyHash P (Str.ofString "debug"), key := .str (Str.ofString "debug") (K 14), val := (.int 0 (V 14)) },
   { hash := PyData.keyHash P (Str.ofString "token"), key := .str (Str.ofString "token") (K 15), val := tv },
   { hash := PyData.keyHash P (Str.ofString "filestack"), key := .str (Str.ofString "filestack") (K 16), val := (.ref q2) },
   { hash := PyData.keyHash P (Str.ofString "source"), key := .str (Str.ofString "source") (K 17), val := .none },
   { hash := PyData.keyHash P (Str.ofString "_punctuation_chars"), key := .str (Str.ofString "_punctuation_chars") (K 18), val := (.str (Str.ofString "") (V 18)) }]
/-- the states of the reader that a quoting meets -/
inductive St | sp | q | a | d
def lexRun : St → List Nat → Str → Option Str
  | .sp, 39 :: r, t => lexRun .q r t
  | .q, c :: r, t => if c = 39 then lexRun .a r t else lexRun .q r (t ++ ⟨#[c]⟩)
  | .a, [], t => some t
  | .a, c :: r, t => if c = 39 then lexRun .q r t else if c = 34 then lexRun .d r t else none
  | .d, c :: r, t => if c = 34 then lexRun .a r t else if c = 39 then lexRun .d r (t ++ ⟨#[39]⟩) else none
  | _, _, _ => none
def St.txt : St → Str
  | .sp => Str.ofString " "
  | .q => Str.ofString "'"
  | .a => Str.ofString "a"
  | .d => Str.ofString "\""
local macro_rules | `(tactic| walk_at "exec While") => `(tactic| (k_here; refine whl_start 0 ?_; unfold WhlRest))
local macro_rules | `(tactic| walk_at "call type:collections.deque") => `(tactic| (k_here; (with_reducible show wpAny _ _ (call (Value.type _) []) _ _ _); k_dflt (refine' dq_call ?k1 ?k2 ?_; (case k1 => k_asm); (case k2 => k_asm); k_whole); intro a' h' F' N' l1; (try k_lt l1); (try k_sweep)))
local macro_rules | `(tactic| walk_at "truthy ref") => `(tactic| (k_here; (with_reducible show wpAny _ _ (truthy (Value.ref _)) _ _ _); k_dflt (refine' dq_truthy ?k1 ?k2 ?_; (case k1 => k_asm); (case k2 => k_mem); k_whole); intro _))
local macro_rules | `(tactic| walk_at "exec If") => `(tactic| (k_here; k_fold; walk1))
local macro_rules | `(tactic| walk_at "ite") => `(tactic| (k_closed; first | refine ite_pos (by decide +kernel) ?_ | refine ite_neg (by decide +kernel) ?_))
theorem truthy_one {prog : Program} {w : World} {A : Around} {E : Value → Shared → Prop} {s : Shared} {c : Nat} {t : Tok} {Q : Bool → Shared → Prop} (h : ∀ k, Q true { s with toks := k }) :
    wpAny (model prog w) A (PySem.truthy (.str ⟨#[c]⟩ t)) Q E s := KXt.truthy (b := true) rfl (show 1 ≤ 16777216 by decide) h
local macro_rules | `(tactic| walk_at "truthy str") => `(tactic| (k_here; (with_reducible show wpAny _ _ (truthy (Value.str (Str.mk (List.toArray [_])) _)) _ _ _); k_dflt (refine' truthy_one ?_); intro _; (try dsimp only)))

abbrev mTok (lex : Addr) (qb : Bool) (te : Tok) (nc : Option Value) : Str → Option Value := fun y => if y = Str.ofString "nextchar" then nc else if y = Str.ofString "escapedstate" then some (.str (Str.ofString " ") te) else if y = Str.ofString "quoted" then some (.bool qb) else if y = Str.ofString "self" then some (.ref lex) else none
def headS : List Nat → Str
  | [] => ⟨#[]⟩
  | c :: _ => ⟨#[c]⟩
theorem read_at {x : Str} {p c : Nat} {r : List Nat} (h : x.cps.toList.drop p = c :: r) : readF x p = ⟨#[c]⟩ := by
  have hp : p < x.cps.size := by
    have := congrArg List.length h
    simp at this
    omega
  unfold readF
  rw [dif_pos hp]
  have := List.drop_eq_getElem_cons (l := x.cps.toList) (i := p) (by simpa using hp)
  rw [this] at h
  simp at h
  rw [h.1]
theorem read_end {x : Str} {p : Nat} (h : x.cps.toList.drop p = []) : readF x p = ⟨#[]⟩ := by
  unfold readF
  rw [dif_neg]
  have := congrArg List.length h
  simp at this
  omega
theorem step_at {x : Str} {p c : Nat} {r : List Nat} (h : x.cps.toList.drop p = c :: r) : x.cps.toList.drop (stepF x p) = r := by
  have hp : p < x.cps.size := by
    have := congrArg List.length h
    simp at this
    omega
  unfold stepF
  rw [if_pos hp, ← List.drop_drop, h]
  rfl
theorem step_end {x : Str} {p : Nat} (h : x.cps.toList.drop p = []) : x.cps.toList.drop (stepF x p) = [] := by
  unfold stepF
  rw [if_neg, h]
  have := congrArg List.length h
  simp at this
  omega
theorem use_read {w : World} {sio ds : Addr} {K V : Nat → Tok} {x c : Str} {p : Nat} {rm : List Nat} {tp u : Tok} {dp un : Nat} {gd : Option (List Code)} {cn : Str} {cs : Scope} {a : Addr} {ccd : Value} {cl : List (Str × Addr)} {outer : List Env} {A₀ : Around} {base h₀ : Heap} {L : Addr} {m : Str → Option Value} {rest : List (Addr × Obj)} {s : Shared}
    {mean : ExcName → Option Value} {mg mb : Str → Option Value} {Q E : Value → Shared → Prop} (hx : x.length ≤ 10000) (hrm : x.cps.toList.drop p = rm) (hc : headS rm = c) (hsd : @LT.lt Nat _ ds sio) (hr : ∀ q ∈ rest, q.1 ≠ ds)
    (B : Below A₀ base outer h₀) (F : Fr h₀ L s.heap m) (X : (KF w.params).In h₀) (N : News h₀ L s.heap ((sio, instObj 597 ds) :: (ds, dictOf (sioEs w.params K V x (.int p tp)) 3) :: rest)) (T : Top qv (looseW qv lo) mean mg mb h₀) (hk : cs.kind = .function) (hd : dp + 2 < recursionLimit) (hu : un + 32 < cLine)
    (hret : ∀ h' tk' t' p' tp', Fr h₀ L h' m → News h₀ L h' ((sio, instObj 597 ds) :: (ds, dictOf (sioEs w.params K V x (.int (p' : Nat) tp')) 3) :: rest) → x.cps.toList.drop p' = rm.tail → Q (.str c t') { s with heap := h', toks := tk' }) :
    wpAny (model PySem.Challenge.rw_ij0131_01.row.prog w) (ktrTop dp un gd cn cs L a ccd cl outer) (call (.ref 543) [.ref sio, .int 1 u]) Q E s := by
  refine c_read K V x p tp u hx dp un gd cn cs a ccd cl outer A₀ base h₀ L m rest s mean mg mb Q E hsd hr B F X N T hk hd hu ?_
  intro h' tk' t' tp' F' N'
  cases rm with
  | nil =>
    rw [read_end hrm]
    rw [← hc] at hret
    exact hret _ _ _ _ _ F' N' (step_end hrm)
  | cons q r =>
    rw [read_at hrm]
    rw [← hc] at hret
    exact hret _ _ _ _ _ F' N' (step_at hrm)
theorem one_len (c : Nat) : (⟨#[c]⟩ : Str).length = 1 := rfl
theorem eq_quote {c : Nat} (h : ((⟨#[c]⟩ : Str) == Str.ofString "'") = true) : c = 39 := by
  have h := eq_of_beq h
  have e : Str.ofString "'" = ⟨#[39]⟩ := by rfl
  rw [e] at h
  simpa using h
theorem one_ne (c : Nat) : (⟨#[c]⟩ : Str) ≠ ⟨#[]⟩ := by simp
local macro_rules | `(tactic| walk_at "call ref") => `(tactic| (k_here; (with_reducible show wpAny _ _ (call (Value.ref 543) [Value.ref _, Value.int 1 _]) _ _ _); k_dflt (refine' use_read ?kx ?kr ?kc ?ka ?kb ?k1 ?k2 ?k3 ?k4 ?k5 ?k6 ?k7 ?k8 ?_; (case k1 => k_asm); (case k2 => k_asm); (case k3 => k_asm); (case k4 => k_asm); (case k5 => k_asm); (case kx => assumption); (case kr => assumption); (case kc => assumption); (case ka => assumption); (case kb => k_all); (case k6 => first | exact rfl | assumption); (case k7 => ktr_room); (case k8 => ktr_units); k_whole); intro h9 tk9 t9 p9 tp9 F9 N9 D9; (try dsimp only); (try k_fold)))

theorem c_rt {w : World} {sio ds lex dl q1 q2 : Addr} (Ks Vs K V : Nat → Tok) (x plain : Str) (rem : List Nat) (ts tv tl : Tok) (ln : Int) (p : Nat) (tp : Tok) (hrem : x.cps.toList.drop p = rem) (hrun : lexRun .sp rem ⟨#[]⟩ = some plain) (hlen : (⟨#[]⟩ : Str).length + rem.length ≤ 10000) (hl0 : 0 ≤ ln) (hl1 : ln + rem.length ≤ 20000) (hx : x.length ≤ 10000) (dp un : Nat) (gd : Option (List Code)) (cn : Str) (cs : Scope) (a : Addr) (ccd : Value) (cl : List (Str × Addr)) (outer : List Env) (A₀ : Around) (base h₀ : Heap) (L : Addr) (m : Str → Option Value) (rest : List (Addr × Obj)) (s : Shared)
    (mean : ExcName → Option Value) (mg mb : Str → Option Value) (Q E : Value → Shared → Prop) (o1 : @LT.lt Nat _ dl lex) (o2 : @LT.lt Nat _ lex ds) (o3 : @LT.lt Nat _ ds sio) (o4 : @LT.lt Nat _ sio q1) (o5 : @LT.lt Nat _ q1 q2) (hr1 : ∀ q ∈ rest, q.1 ≠ ds) (hr2 : ∀ q ∈ rest, q.1 ≠ dl)
    (B : Below A₀ base outer h₀) (F : Fr h₀ L s.heap m) (X : (KF w.params).In h₀) (N : News h₀ L s.heap ((sio, instObj 597 ds) :: (ds, dictOf (sioEs w.params Ks Vs x (.int (p : Nat) tp)) 3) :: (lex, instObj 732 dl) :: (dl, dictOf (lexEs w.params K V sio q1 q2 (.str St.sp.txt ts) (.int ln tl) (.str ⟨#[]⟩ tv)) 19) :: (q1, dqObj) :: (q2, dqObj) :: rest)) (T : Top qv (looseW qv lo) mean mg mb h₀) (hk : cs.kind = .function) (hd : dp + 4 < recursionLimit) (hu : un + 64 < cLine)
    (hret : ∀ h' tk' t' p' tp' tv' ln' tl', Fr h₀ L h' m → News h₀ L h' ((sio, instObj 597 ds) :: (ds, dictOf (sioEs w.params Ks Vs x (.int (p' : Nat) tp')) 3) :: (lex, instObj 732 dl) :: (dl, dictOf (lexEs w.params K V sio q1 q2 .none (.int ln' tl') (.str (Str.ofString "") tv')) 19) :: (q1, dqObj) :: (q2, dqObj) :: rest) → x.cps.toList.drop p' = [] → Q (.str plain t') { s with heap := h', toks := tk' }) :
    wpAny (model PySem.Challenge.rw_ij0131_01.row.prog w) (ktrTop dp un gd cn cs L a ccd cl outer) (call (.ref 700) [.ref lex]) Q E s := by
  revert X
  k_fill
  intro X
  refine wpAny_call ?_
  refine' code_def (binds := [(Str.ofString "self", Value.ref lex)]) ?k1 ?k2 ?k3 ?k4 ?k5 ?kA ?kF ?kK ?k6 ?k7 ?k8 ?k9 ?kB ?_ ?c2 ?c3 ?c4 ?c5
  case kA => exact rfl
  case kF => exact rfl
  case kK => assumption
  case k1 => k_asm
  case k2 => k_asm
  case k3 => k_asm
  case k4 => k_asm
  case k5 => k_asm
  case k6 => k_is
  case k7 => k_is
  case k8 => ktr_room
  case k9 => first | exact BindsTo.of_eq rfl | exact binds_K (by k_in) rfl (by k_is) rfl rfl rfl
  case c5 => decide
  case kB => exact locs rfl
  case c2 => exact rfl
  case c3 => exact rfl
  case c4 => exact rfl
  k_whole
  intro g' L' h' FG' F' N' B' X' T'
  try dsimp only
  try k_lift B'
  try k_fold
  k_steps
  rename Fr g' L' _ _ => FF
  rename News g' L' _ (_ :: _) => NN
  refine whl_data (D := St × List Nat × Str) (size := fun d => d.2.1.length) (I := fun d s' => ∃ (hh : Heap) (tk p' : Nat) (tp' tv' ts' : Tok) (ln : Int) (tl : Tok) (nc : Option Value) (qb : Bool) (te : Tok), s' = { s with heap := hh, toks := tk } ∧ Fr g' L' hh (mTok lex qb te nc) ∧ News g' L' hh ((sio, instObj 597 ds) :: (ds, dictOf (sioEs w.params Ks Vs x (.int (p' : Nat) tp')) 3) :: (lex, instObj 732 dl) :: (dl, dictOf (lexEs w.params K V sio q1 q2 (.str d.1.txt ts') (.int ln tl) (.str d.2.2 tv')) 19) :: (q1, dqObj) :: (q2, dqObj) :: rest) ∧ x.cps.toList.drop p' = d.2.1 ∧ lexRun d.1 d.2.1 d.2.2 = some plain ∧ d.2.2.length + d.2.1.length ≤ 10000 ∧ 0 ≤ ln ∧ ln + d.2.1.length ≤ 20000 ∧ (d.1 ≠ .sp → d.1 ≠ .q → qb = true)) ?hE ?turn rem.length (.sp, rem, ⟨#[]⟩) _ (Nat.le_refl _) ?init
  case hE => first | passes_own | with_unfolding_all passes_own
  case init =>
    refine' ⟨_, _, p, tp, tv, ts, ln, tl, none, false, ?te, rfl, fr_same FF ?e, NN, hrem, hrun, hlen, hl0, hl1, fun h => absurd rfl h⟩
    case e =>
      intro y
      by_cases h1 : y = Str.ofString "escapedstate"
      · subst h1; exact rfl
      by_cases h2 : y = Str.ofString "quoted"
      · subst h2; rfl
      by_cases h3 : y = Str.ofString "self"
      · subst h3; rfl
      simp [mTok, h1, h2, h3, List.lookup, beq_eq_false_iff_ne.mpr h3]
  case turn =>
    clear NN FF
    rintro ⟨st, rm, tt⟩ s' ⟨hh, tk, p', tp', tv', ts', ln', tl', nc, qb, te, rfl, F1, N1, hrem1, hrun1, hlen1, hl2, hl3, hqb⟩ IH
    dsimp only [St.txt] at F1 N1 hrem1 hrun1 hlen1 hl3 hqb
    cases st with
    | sp =>
      dsimp only [St.txt] at N1
      cases rm with
      | nil => exact absurd hrun1 (by simp [lexRun])
      | cons c r =>
        by_cases hc : c = 39
        · skip
          subst hc
          have hrd : headS (39 :: r) = Str.ofString "'" := rfl
          have hrun2 : lexRun .q r tt = some plain := by rw [← hrun1]; rfl
          k_steps
          all_goals first | exact absurd (eq_quote (by assumption)) hc | skip
          all_goals
            refine' IH (.q, r, tt) _ (by simp) ⟨_, _, _, _, _, _, _, _, some (.str _ _), qb, _, rfl, fr_same (by assumption) ?ee, (by first | assumption | exact cb_drop (by assumption) (fun p hp => .tail _ hp)), (by assumption), hrun2, ?le0, ?le1, ?le2, ?qq⟩
            case le0 => simp only [List.length_cons] at hlen1; (first | (simp only [Str.length_append, one_len]; omega) | (dsimp only; omega))
            case le1 => omega
            case le2 => simp only [List.length_cons] at hl3; dsimp only; omega
            case qq => first | exact fun _ _ => rfl | exact fun _ h => absurd rfl h | exact fun _ _ => hqb (by simp) (by simp)
            case ee =>
              intro y
              by_cases h1 : y = Str.ofString "nextchar"
              · subst h1; exact rfl
              by_cases h2 : y = Str.ofString "escapedstate"
              · subst h2; exact rfl
              by_cases h3 : y = Str.ofString "quoted"
              · subst h3; rfl
              by_cases h4 : y = Str.ofString "self"
              · subst h4; rfl
              simp [mTok, h1, h2, h3, h4]
        · exact absurd hrun1 (by simp [lexRun, hc])
    | q =>
      dsimp only [St.txt] at N1
      cases rm with
      | nil => exact absurd hrun1 (by simp [lexRun])
      | cons c r =>
        by_cases hc : c = 39
        · skip
          subst hc
          have hrd : headS (39 :: r) = Str.ofString "'" := rfl
          have hrun2 : lexRun .a r tt = some plain := by rw [← hrun1]; rfl
          k_steps
          all_goals first | exact absurd (eq_quote (by assumption)) hc | skip
          all_goals
            refine' IH (.a, r, tt) _ (by simp) ⟨_, _, _, _, _, _, _, _, some (.str _ _), true, _, rfl, fr_same (by assumption) ?ee, (by first | assumption | exact cb_drop (by assumption) (fun p hp => .tail _ hp)), (by assumption), hrun2, ?le0, ?le1, ?le2, ?qq⟩
            case le0 => simp only [List.length_cons] at hlen1; (first | (simp only [Str.length_append, one_len]; omega) | (dsimp only; omega))
            case le1 => omega
            case le2 => simp only [List.length_cons] at hl3; dsimp only; omega
            case qq => first | exact fun _ _ => rfl | exact fun _ h => absurd rfl h | exact fun _ _ => hqb (by simp) (by simp)
            case ee =>
              intro y
              by_cases h1 : y = Str.ofString "nextchar"
              · subst h1; exact rfl
              by_cases h2 : y = Str.ofString "escapedstate"
              · subst h2; exact rfl
              by_cases h3 : y = Str.ofString "quoted"
              · subst h3; rfl
              by_cases h4 : y = Str.ofString "self"
              · subst h4; rfl
              simp [mTok, h1, h2, h3, h4]
        · skip
          have hrd : headS (c :: r) = ⟨#[c]⟩ := rfl
          have hrun2 : lexRun .q r (tt ++ ⟨#[c]⟩) = some plain := by rw [← hrun1]; simp [lexRun, hc]
          have hne := one_ne c
          k_steps
          all_goals first | exact absurd (eq_quote (by assumption)) hc | skip
          all_goals
            refine' IH (.q, r, (tt ++ ⟨#[c]⟩)) _ (by simp) ⟨_, _, _, _, _, _, _, _, some (.str _ _), true, _, rfl, fr_same (by assumption) ?ee, (by first | assumption | exact cb_drop (by assumption) (fun p hp => .tail _ hp)), (by assumption), hrun2, ?le0, ?le1, ?le2, ?qq⟩
            case le0 => simp only [List.length_cons] at hlen1; (first | (simp only [Str.length_append, one_len]; omega) | (dsimp only; omega))
            case le1 => omega
            case le2 => simp only [List.length_cons] at hl3; dsimp only; omega
            case qq => first | exact fun _ _ => rfl | exact fun _ h => absurd rfl h | exact fun _ _ => hqb (by simp) (by simp)
            case ee =>
              intro y
              by_cases h1 : y = Str.ofString "nextchar"
              · subst h1; exact rfl
              by_cases h2 : y = Str.ofString "escapedstate"
              · subst h2; exact rfl
              by_cases h3 : y = Str.ofString "quoted"
              · subst h3; rfl
              by_cases h4 : y = Str.ofString "self"
              · subst h4; rfl
              simp [mTok, h1, h2, h3, h4]
    | a =>
      dsimp only [St.txt] at N1
      cases rm with
      | nil =>
        have hrd : headS [] = Str.ofString "" := rfl
        have hqq : qb = true := hqb (by simp) (by simp)
        subst hqq
        k_steps
        have e : tt = plain := by simpa [lexRun] using hrun1
        subst e
        exact hret _ _ _ _ _ _ _ _ (by assumption) (cb_drop (by assumption) (fun p hp => .tail _ hp)) (by assumption)
      | cons c r =>
        by_cases hc : c = 39
        · skip
          subst hc
          have hrd : headS (39 :: r) = Str.ofString "'" := rfl
          have hrun2 : lexRun .q r tt = some plain := by rw [← hrun1]; rfl
          k_steps
          all_goals first | exact absurd (eq_quote (by assumption)) hc | skip
          all_goals
            refine' IH (.q, r, tt) _ (by simp) ⟨_, _, _, _, _, _, _, _, some (.str _ _), qb, _, rfl, fr_same (by assumption) ?ee, (by first | assumption | exact cb_drop (by assumption) (fun p hp => .tail _ hp)), (by assumption), hrun2, ?le0, ?le1, ?le2, ?qq⟩
            case le0 => simp only [List.length_cons] at hlen1; (first | (simp only [Str.length_append, one_len]; omega) | (dsimp only; omega))
            case le1 => omega
            case le2 => simp only [List.length_cons] at hl3; dsimp only; omega
            case qq => first | exact fun _ _ => rfl | exact fun _ h => absurd rfl h | exact fun _ _ => hqb (by simp) (by simp)
            case ee =>
              intro y
              by_cases h1 : y = Str.ofString "nextchar"
              · subst h1; exact rfl
              by_cases h2 : y = Str.ofString "escapedstate"
              · subst h2; exact rfl
              by_cases h3 : y = Str.ofString "quoted"
              · subst h3; rfl
              by_cases h4 : y = Str.ofString "self"
              · subst h4; rfl
              simp [mTok, h1, h2, h3, h4]
        · by_cases hc : c = 34
          · skip
            subst hc
            have hrd : headS (34 :: r) = Str.ofString "\"" := rfl
            have hrun2 : lexRun .d r tt = some plain := by rw [← hrun1]; rfl
            k_steps
            all_goals first | exact absurd (eq_quote (by assumption)) hc | skip
            all_goals
              refine' IH (.d, r, tt) _ (by simp) ⟨_, _, _, _, _, _, _, _, some (.str _ _), qb, _, rfl, fr_same (by assumption) ?ee, (by first | assumption | exact cb_drop (by assumption) (fun p hp => .tail _ hp)), (by assumption), hrun2, ?le0, ?le1, ?le2, ?qq⟩
              case le0 => simp only [List.length_cons] at hlen1; (first | (simp only [Str.length_append, one_len]; omega) | (dsimp only; omega))
              case le1 => omega
              case le2 => simp only [List.length_cons] at hl3; dsimp only; omega
              case qq => first | exact fun _ _ => rfl | exact fun _ h => absurd rfl h | exact fun _ _ => hqb (by simp) (by simp)
              case ee =>
                intro y
                by_cases h1 : y = Str.ofString "nextchar"
                · subst h1; exact rfl
                by_cases h2 : y = Str.ofString "escapedstate"
                · subst h2; exact rfl
                by_cases h3 : y = Str.ofString "quoted"
                · subst h3; rfl
                by_cases h4 : y = Str.ofString "self"
                · subst h4; rfl
                simp [mTok, h1, h2, h3, h4]
          · exact absurd hrun1 (by simp [lexRun, *])
    | d =>
      dsimp only [St.txt] at N1
      cases rm with
      | nil => exact absurd hrun1 (by simp [lexRun])
      | cons c r =>
        by_cases hc : c = 34
        · skip
          subst hc
          have hrd : headS (34 :: r) = Str.ofString "\"" := rfl
          have hrun2 : lexRun .a r tt = some plain := by rw [← hrun1]; rfl
          k_steps
          all_goals first | exact absurd (eq_quote (by assumption)) hc | skip
          all_goals
            refine' IH (.a, r, tt) _ (by simp) ⟨_, _, _, _, _, _, _, _, some (.str _ _), true, _, rfl, fr_same (by assumption) ?ee, (by first | assumption | exact cb_drop (by assumption) (fun p hp => .tail _ hp)), (by assumption), hrun2, ?le0, ?le1, ?le2, ?qq⟩
            case le0 => simp only [List.length_cons] at hlen1; (first | (simp only [Str.length_append, one_len]; omega) | (dsimp only; omega))
            case le1 => omega
            case le2 => simp only [List.length_cons] at hl3; dsimp only; omega
            case qq => first | exact fun _ _ => rfl | exact fun _ h => absurd rfl h | exact fun _ _ => hqb (by simp) (by simp)
            case ee =>
              intro y
              by_cases h1 : y = Str.ofString "nextchar"
              · subst h1; exact rfl
              by_cases h2 : y = Str.ofString "escapedstate"
              · subst h2; exact rfl
              by_cases h3 : y = Str.ofString "quoted"
              · subst h3; rfl
              by_cases h4 : y = Str.ofString "self"
              · subst h4; rfl
              simp [mTok, h1, h2, h3, h4]
        · by_cases hc : c = 39
          · skip
            subst hc
            have hrd : headS (39 :: r) = Str.ofString "'" := rfl
            have hrun2 : lexRun .d r (tt ++ ⟨#[39]⟩) = some plain := by rw [← hrun1]; rfl
            k_steps
            all_goals first | exact absurd (eq_quote (by assumption)) hc | skip
            all_goals
              refine' IH (.d, r, (tt ++ ⟨#[39]⟩)) _ (by simp) ⟨_, _, _, _, _, _, _, _, some (.str _ _), true, _, rfl, fr_same (by assumption) ?ee, (by first | assumption | exact cb_drop (by assumption) (fun p hp => .tail _ hp)), (by assumption), hrun2, ?le0, ?le1, ?le2, ?qq⟩
              case le0 => simp only [List.length_cons] at hlen1; (first | (simp only [Str.length_append, one_len]; omega) | (dsimp only; omega))
              case le1 => omega
              case le2 => simp only [List.length_cons] at hl3; dsimp only; omega
              case qq => first | exact fun _ _ => rfl | exact fun _ h => absurd rfl h | exact fun _ _ => hqb (by simp) (by simp)
              case ee =>
                intro y
                by_cases h1 : y = Str.ofString "nextchar"
                · subst h1; exact rfl
                by_cases h2 : y = Str.ofString "escapedstate"
                · subst h2; exact rfl
                by_cases h3 : y = Str.ofString "quoted"
                · subst h3; rfl
                by_cases h4 : y = Str.ofString "self"
                · subst h4; rfl
                simp [mTok, h1, h2, h3, h4]
          · exact absurd hrun1 (by simp [lexRun, *])

open PySem PySem.W PyProof.Rows PySem.Calls
set_option maxRecDepth 100000
set_option maxHeartbeats 8000000
local macro_rules | `(tactic| walk_at "exec While") => `(tactic| (k_here; refine whl_start 1 ?_; refine whl_turn (k := 0) (by first | passes_own | with_unfolding_all passes_own) ?_))
theorem c_rt0 {w : World} {sio ds lex dl q1 q2 : Addr} {Ks Vs K V : Nat → Tok} (x : Str) (tv tl : Tok) (ln : Int) (p : Nat) (tp : Tok) (hrem : x.cps.toList.drop p = []) (hx : x.length ≤ 10000) (dp un : Nat) (gd : Option (List Code)) (cn : Str) (cs : Scope) (a : Addr) (ccd : Value) (cl : List (Str × Addr)) (outer : List Env) (A₀ : Around) (base h₀ : Heap) (L : Addr) (m : Str → Option Value) (rest : List (Addr × Obj)) (s : Shared)
    (mean : ExcName → Option Value) (mg mb : Str → Option Value) (Q E : Value → Shared → Prop) (o1 : @LT.lt Nat _ dl lex) (o2 : @LT.lt Nat _ lex ds) (o3 : @LT.lt Nat _ ds sio) (o4 : @LT.lt Nat _ sio q1) (o5 : @LT.lt Nat _ q1 q2) (hr1 : ∀ q ∈ rest, q.1 ≠ ds) (hr2 : ∀ q ∈ rest, q.1 ≠ dl)
    (B : Below A₀ base outer h₀) (F : Fr h₀ L s.heap m) (X : (KF w.params).In h₀) (N : News h₀ L s.heap ((sio, instObj 597 ds) :: (ds, dictOf (sioEs w.params Ks Vs x (.int (p : Nat) tp)) 3) :: (lex, instObj 732 dl) :: (dl, dictOf (lexEs w.params K V sio q1 q2 .none (.int ln tl) (.str (Str.ofString "") tv)) 19) :: (q1, dqObj) :: (q2, dqObj) :: rest)) (T : Top qv (looseW qv lo) mean mg mb h₀) (hk : cs.kind = .function) (hd : dp + 4 < recursionLimit) (hu : un + 64 < cLine)
    (hret : ∀ h' tk' p' tp' tv' ln' tl', Fr h₀ L h' m → News h₀ L h' ((sio, instObj 597 ds) :: (ds, dictOf (sioEs w.params Ks Vs x (.int (p' : Nat) tp')) 3) :: (lex, instObj 732 dl) :: (dl, dictOf (lexEs w.params K V sio q1 q2 .none (.int ln' tl') (.str (Str.ofString "") tv')) 19) :: (q1, dqObj) :: (q2, dqObj) :: rest) → x.cps.toList.drop p' = [] → Q .none { s with heap := h', toks := tk' }) :
    wpAny (model PySem.Challenge.rw_ij0131_01.row.prog w) (ktrTop dp un gd cn cs L a ccd cl outer) (call (.ref 700) [.ref lex]) Q E s := by
  revert X
  k_fill
  intro X
  refine wpAny_call ?_
  refine' code_def (binds := [(Str.ofString "self", Value.ref lex)]) ?k1 ?k2 ?k3 ?k4 ?k5 ?kA ?kF ?kK ?k6 ?k7 ?k8 ?k9 ?kB ?_ ?c2 ?c3 ?c4 ?c5
  case kA => exact rfl
  case kF => exact rfl
  case kK => assumption
  case k1 => k_asm
  case k2 => k_asm
  case k3 => k_asm
  case k4 => k_asm
  case k5 => k_asm
  case k6 => k_is
  case k7 => k_is
  case k8 => ktr_room
  case k9 => first | exact BindsTo.of_eq rfl | exact binds_K (by k_in) rfl (by k_is) rfl rfl rfl
  case c5 => decide
  case kB => exact locs rfl
  case c2 => exact rfl
  case c3 => exact rfl
  case c4 => exact rfl
  k_whole
  intro g' L' h' FG' F' N' B' X' T'
  try dsimp only
  try k_lift B'
  try k_fold
  have hrd : headS [] = Str.ofString "" := rfl
  k_steps
  all_goals exact hret _ _ _ _ _ _ _ (by assumption) (by assumption) (by assumption)
local macro_rules | `(tactic| walk_at "call ref") => `(tactic| (k_here; (with_reducible show wpAny _ _ (call (Value.ref 700) _) _ _ _); k_dflt (refine' c_rt0 _ _ _ _ _ _ ?hrem ?hx _ _ _ _ _ _ _ _ _ _ _ _ _ _ _ _ _ _ _ _ _ ?o1 ?o2 ?o3 ?o4 ?o5 ?r1 ?r2 ?k1 ?k2 ?k3 ?k4 ?k5 ?k6 ?k7 ?k8 ?_; (case k1 => k_asm); (case k2 => k_asm); (case k3 => k_asm); (case k4 => k_asm); (case k5 => k_asm); (case hrem => assumption); (case hx => assumption); (case o1 => assumption); (case o2 => assumption); (case o3 => assumption); (case o4 => assumption); (case o5 => assumption); (case r1 => k_all); (case r2 => k_all); (case k6 => first | exact rfl | assumption); (case k7 => ktr_room); (case k8 => ktr_units); k_whole); intro h9 tk9 p9 tp9 tv9 ln9 tl9 F9 N9 D9; (try dsimp only); (try k_fold)))
theorem c_gt0 {w : World} {sio ds lex dl q1 q2 : Addr} {Ks Vs K V : Nat → Tok} (x : Str) (tv tl : Tok) (ln : Int) (p : Nat) (tp : Tok) (hrem : x.cps.toList.drop p = []) (hx : x.length ≤ 10000) (dp un : Nat) (gd : Option (List Code)) (cn : Str) (cs : Scope) (a : Addr) (ccd : Value) (cl : List (Str × Addr)) (outer : List Env) (A₀ : Around) (base h₀ : Heap) (L : Addr) (m : Str → Option Value) (rest : List (Addr × Obj)) (s : Shared)
    (mean : ExcName → Option Value) (mg mb : Str → Option Value) (Q E : Value → Shared → Prop) (o1 : @LT.lt Nat _ dl lex) (o2 : @LT.lt Nat _ lex ds) (o3 : @LT.lt Nat _ ds sio) (o4 : @LT.lt Nat _ sio q1) (o5 : @LT.lt Nat _ q1 q2) (hr1 : ∀ q ∈ rest, q.1 ≠ ds) (hr2 : ∀ q ∈ rest, q.1 ≠ dl)
    (B : Below A₀ base outer h₀) (F : Fr h₀ L s.heap m) (X : (KF w.params).In h₀) (N : News h₀ L s.heap ((sio, instObj 597 ds) :: (ds, dictOf (sioEs w.params Ks Vs x (.int (p : Nat) tp)) 3) :: (lex, instObj 732 dl) :: (dl, dictOf (lexEs w.params K V sio q1 q2 .none (.int ln tl) (.str (Str.ofString "") tv)) 19) :: (q1, dqObj) :: (q2, dqObj) :: rest)) (T : Top qv (looseW qv lo) mean mg mb h₀) (hk : cs.kind = .function) (hd : dp + 5 < recursionLimit) (hu : un + 80 < cLine)
    (hret : ∀ h' tk' p' tp' tv' ln' tl', Fr h₀ L h' m → News h₀ L h' ((sio, instObj 597 ds) :: (ds, dictOf (sioEs w.params Ks Vs x (.int (p' : Nat) tp')) 3) :: (lex, instObj 732 dl) :: (dl, dictOf (lexEs w.params K V sio q1 q2 .none (.int ln' tl') (.str (Str.ofString "") tv')) 19) :: (q1, dqObj) :: (q2, dqObj) :: rest) → x.cps.toList.drop p' = [] → Q .none { s with heap := h', toks := tk' }) :
    wpAny (model PySem.Challenge.rw_ij0131_01.row.prog w) (ktrTop dp un gd cn cs L a ccd cl outer) (call (.ref 693) [.ref lex]) Q E s := by
  revert X
  k_fill
  intro X
  refine wpAny_call ?_
  refine' code_def (binds := [(Str.ofString "self", Value.ref lex)]) ?k1 ?k2 ?k3 ?k4 ?k5 ?kA ?kF ?kK ?k6 ?k7 ?k8 ?k9 ?kB ?_ ?c2 ?c3 ?c4 ?c5
  case kA => exact rfl
  case kF => exact rfl
  case kK => assumption
  case k1 => k_asm
  case k2 => k_asm
  case k3 => k_asm
  case k4 => k_asm
  case k5 => k_asm
  case k6 => k_is
  case k7 => k_is
  case k8 => ktr_room
  case k9 => first | exact BindsTo.of_eq rfl | exact binds_K (by k_in) rfl (by k_is) rfl rfl rfl
  case c5 => decide
  case kB => exact locs rfl
  case c2 => exact rfl
  case c3 => exact rfl
  case c4 => exact rfl
  k_whole
  intro g' L' h' FG' F' N' B' X' T'
  try dsimp only
  try k_lift B'
  try k_fold
  k_steps
  all_goals exact hret _ _ _ _ _ _ _ (by assumption) (by assumption) (by assumption)
local macro_rules | `(tactic| walk_at "call ref") => `(tactic| (k_here; (with_reducible show wpAny _ _ (call (Value.ref 693) _) _ _ _); k_dflt (refine' c_gt0 _ _ _ _ _ _ ?hrem ?hx _ _ _ _ _ _ _ _ _ _ _ _ _ _ _ _ _ _ _ _ _ ?o1 ?o2 ?o3 ?o4 ?o5 ?r1 ?r2 ?k1 ?k2 ?k3 ?k4 ?k5 ?k6 ?k7 ?k8 ?_; (case k1 => k_asm); (case k2 => k_asm); (case k3 => k_asm); (case k4 => k_asm); (case k5 => k_asm); (case hrem => assumption); (case hx => assumption); (case o1 => assumption); (case o2 => assumption); (case o3 => assumption); (case o4 => assumption); (case o5 => assumption); (case r1 => k_all); (case r2 => k_all); (case k6 => first | exact rfl | assumption); (case k7 => ktr_room); (case k8 => ktr_units); k_whole); intro h9 tk9 p9 tp9 tv9 ln9 tl9 F9 N9 D9; (try dsimp only); (try k_fold)))
local macro_rules | `(tactic| walk_at "leaving ref") => `(tactic| (k_here; (refine' leave_raiseS ?k1 ?k0 ?k2 ?k3 ?_; (case k0 => exact Heap.MadeExc.of (by assumption)); (case k2 => assumption); (case k1 => assumption); (case k3 => k_asm); k_whole; intro h' t' S' R' U'; (try dsimp only at S' R' U' ⊢))))
theorem raised_back {base g₀ g h' : Heap} {A₀ : Around} {outer : List Env} {L a : Addr} {cn : Str} {cs : Scope} {ccd : Value} {cl : List (Str × Addr)} {e t : Addr} {vs : List Value} {m : Str → Option Value} {news : List (Addr × Obj)} (R : RaisedS base g (envX cn cs L a ccd cl :: outer) e (.type "StopIteration") t vs news h') (U : g.UpToSlots h') (F : Fr g₀ L g m) (B : Below A₀ base outer g₀) :
    ∃ g₂, KtsTurn (outer.filterMap (·.frame)) g₀ g₂ ∧ Fr g₂ L h' m ∧ Below A₀ base outer g₂ ∧ News g₂ L h' news ∧ (∃ ob, h'.get? e = some ob ∧ ob.cls = .type "StopIteration") := by
  obtain ⟨⟨B', hB, hBG, hl, hfl, hnew⟩, htup⟩ := R
  have hL : B'.get? L = none := by
    obtain ⟨_, ⟨L', _, hf, hn', _⟩, _⟩ := hfl.2.2.1
    obtain rfl : L = L' := Option.some.inj hf
    exact hn'
  obtain ⟨g₂, T₂, F₂, K₂⟩ := kts_ground (name := cn) (scope := cs) (a := a) (cd := ccd) B F (fun b o e nm => hBG b o e nm) hfl.1 U
  refine ⟨g₂, T₂, F₂, K₂, fun q hq => ⟨hfl.1 _ _ (hl q hq).1, (fun z => by have := (hl q hq).1; rw [z, hL] at this; cases this), T₂.none_ _ (kts_none F.keep (hl q hq).2.1)⟩, hfl.there⟩
theorem c_nx0 {w : World} {sio ds lex dl q1 q2 : Addr} {Ks Vs K V : Nat → Tok} (x : Str) (tv tl : Tok) (ln : Int) (p : Nat) (tp : Tok) (hrem : x.cps.toList.drop p = []) (hx : x.length ≤ 10000) (dp un : Nat) (gd : Option (List Code)) (cn : Str) (cs : Scope) (a : Addr) (ccd : Value) (cl : List (Str × Addr)) (outer : List Env) (A₀ : Around) (base h₀ : Heap) (L : Addr) (m : Str → Option Value) (rest : List (Addr × Obj)) (s : Shared)
    (mean : ExcName → Option Value) (mg mb : Str → Option Value) (Q E : Value → Shared → Prop) (o1 : @LT.lt Nat _ dl lex) (o2 : @LT.lt Nat _ lex ds) (o3 : @LT.lt Nat _ ds sio) (o4 : @LT.lt Nat _ sio q1) (o5 : @LT.lt Nat _ q1 q2) (hr1 : ∀ q ∈ rest, q.1 ≠ ds) (hr2 : ∀ q ∈ rest, q.1 ≠ dl)
    (B : Below A₀ base outer h₀) (F : Fr h₀ L s.heap m) (X : (KF w.params).In h₀) (N : News h₀ L s.heap ((sio, instObj 597 ds) :: (ds, dictOf (sioEs w.params Ks Vs x (.int (p : Nat) tp)) 3) :: (lex, instObj 732 dl) :: (dl, dictOf (lexEs w.params K V sio q1 q2 .none (.int ln tl) (.str (Str.ofString "") tv)) 19) :: (q1, dqObj) :: (q2, dqObj) :: rest)) (T : Top qv (looseW qv lo) mean mg mb h₀) (hk : cs.kind = .function) (hd : dp + 6 < recursionLimit) (hu : un + 96 < cLine)
    (hexc : ∀ h' tk' e g₂ p' tp' tv' ln' tl', KtsTurn (outer.filterMap (·.frame)) h₀ g₂ → Fr g₂ L h' m → Below A₀ base outer g₂ → News g₂ L h' ((sio, instObj 597 ds) :: (ds, dictOf (sioEs w.params Ks Vs x (.int (p' : Nat) tp')) 3) :: (lex, instObj 732 dl) :: (dl, dictOf (lexEs w.params K V sio q1 q2 .none (.int ln' tl') (.str (Str.ofString "") tv')) 19) :: (q1, dqObj) :: (q2, dqObj) :: rest) → (∃ ob, h'.get? e = some ob ∧ ob.cls = .type "StopIteration") → x.cps.toList.drop p' = [] → E (.ref e) { s with heap := h', toks := tk' }) :
    wpAny (model PySem.Challenge.rw_ij0131_01.row.prog w) (ktrTop dp un gd cn cs L a ccd cl outer) (call (.ref 729) [.ref lex]) Q E s := by
  revert X
  k_fill
  intro X
  refine wpAny_call ?_
  refine' code_def (binds := [(Str.ofString "self", Value.ref lex)]) ?k1 ?k2 ?k3 ?k4 ?k5 ?kA ?kF ?kK ?k6 ?k7 ?k8 ?k9 ?kB ?_ ?c2 ?c3 ?c4 ?c5
  case kA => exact rfl
  case kF => exact rfl
  case kK => assumption
  case k1 => k_asm
  case k2 => k_asm
  case k3 => k_asm
  case k4 => k_asm
  case k5 => k_asm
  case k6 => k_is
  case k7 => k_is
  case k8 => ktr_room
  case k9 => first | exact BindsTo.of_eq rfl | exact binds_K (by k_in) rfl (by k_is) rfl rfl rfl
  case c5 => decide
  case kB => exact locs rfl
  case c2 => exact rfl
  case c3 => exact rfl
  case c4 => exact rfl
  k_whole
  intro g' L' h' FG' F' N' B' X' T'
  try dsimp only
  try k_lift B'
  try k_fold
  k_steps
  obtain ⟨g₂, T₂, F₂, K₂, N₂, I₂⟩ := raised_back (cn := cn) (cs := cs) (ccd := ccd) (a := a) (cl := cl) (by assumption) (by assumption) FG' B
  exact hexc _ _ _ g₂ _ _ _ _ _ T₂ F₂ K₂ N₂ I₂ (by assumption)
local macro_rules | `(tactic| walk_at "call ref") => `(tactic| (k_here; (with_reducible show wpAny _ _ (call (Value.ref 700) _) _ _ _); k_dflt (refine' c_rt _ _ _ _ _ _ _ _ _ _ _ _ _ ?hrem ?hrun ?hlen ?hl0 ?hl1 ?hx _ _ _ _ _ _ _ _ _ _ _ _ _ _ _ _ _ _ _ _ _ ?o1 ?o2 ?o3 ?o4 ?o5 ?r1 ?r2 ?k1 ?k2 ?k3 ?k4 ?k5 ?k6 ?k7 ?k8 ?_; (case k1 => k_asm); (case k2 => k_asm); (case k3 => k_asm); (case k4 => k_asm); (case k5 => k_asm); (case hrem => assumption); (case hrun => assumption); (case hlen => assumption); (case hl0 => assumption); (case hl1 => assumption); (case hx => assumption); (case o1 => assumption); (case o2 => assumption); (case o3 => assumption); (case o4 => assumption); (case o5 => assumption); (case r1 => k_all); (case r2 => k_all); (case k6 => first | exact rfl | assumption); (case k7 => ktr_room); (case k8 => ktr_units); k_whole); intro h9 tk9 t9 p9 tp9 tv9 ln9 tl9 F9 N9 D9; (try dsimp only); (try k_fold)))
theorem c_gt {w : World} {sio ds lex dl q1 q2 : Addr} {Ks Vs K V : Nat → Tok} (x plain : Str) (rem : List Nat) (ts tv tl : Tok) (ln : Int) (p : Nat) (tp : Tok) (hrem : x.cps.toList.drop p = rem) (hrun : lexRun .sp rem ⟨#[]⟩ = some plain) (hlen : (⟨#[]⟩ : Str).length + rem.length ≤ 10000) (hl0 : 0 ≤ ln) (hl1 : ln + rem.length ≤ 20000) (hx : x.length ≤ 10000) (dp un : Nat) (gd : Option (List Code)) (cn : Str) (cs : Scope) (a : Addr) (ccd : Value) (cl : List (Str × Addr)) (outer : List Env) (A₀ : Around) (base h₀ : Heap) (L : Addr) (m : Str → Option Value) (rest : List (Addr × Obj)) (s : Shared)
    (mean : ExcName → Option Value) (mg mb : Str → Option Value) (Q E : Value → Shared → Prop) (o1 : @LT.lt Nat _ dl lex) (o2 : @LT.lt Nat _ lex ds) (o3 : @LT.lt Nat _ ds sio) (o4 : @LT.lt Nat _ sio q1) (o5 : @LT.lt Nat _ q1 q2) (hr1 : ∀ q ∈ rest, q.1 ≠ ds) (hr2 : ∀ q ∈ rest, q.1 ≠ dl)
    (B : Below A₀ base outer h₀) (F : Fr h₀ L s.heap m) (X : (KF w.params).In h₀) (N : News h₀ L s.heap ((sio, instObj 597 ds) :: (ds, dictOf (sioEs w.params Ks Vs x (.int (p : Nat) tp)) 3) :: (lex, instObj 732 dl) :: (dl, dictOf (lexEs w.params K V sio q1 q2 (.str St.sp.txt ts) (.int ln tl) (.str ⟨#[]⟩ tv)) 19) :: (q1, dqObj) :: (q2, dqObj) :: rest)) (T : Top qv (looseW qv lo) mean mg mb h₀) (hk : cs.kind = .function) (hd : dp + 5 < recursionLimit) (hu : un + 80 < cLine)
    (hret : ∀ h' tk' t' p' tp' tv' ln' tl', Fr h₀ L h' m → News h₀ L h' ((sio, instObj 597 ds) :: (ds, dictOf (sioEs w.params Ks Vs x (.int (p' : Nat) tp')) 3) :: (lex, instObj 732 dl) :: (dl, dictOf (lexEs w.params K V sio q1 q2 .none (.int ln' tl') (.str (Str.ofString "") tv')) 19) :: (q1, dqObj) :: (q2, dqObj) :: rest) → x.cps.toList.drop p' = [] → Q (.str plain t') { s with heap := h', toks := tk' }) :
    wpAny (model PySem.Challenge.rw_ij0131_01.row.prog w) (ktrTop dp un gd cn cs L a ccd cl outer) (call (.ref 693) [.ref lex]) Q E s := by
  revert X
  k_fill
  intro X
  refine wpAny_call ?_
  refine' code_def (binds := [(Str.ofString "self", Value.ref lex)]) ?k1 ?k2 ?k3 ?k4 ?k5 ?kA ?kF ?kK ?k6 ?k7 ?k8 ?k9 ?kB ?_ ?c2 ?c3 ?c4 ?c5
  case kA => exact rfl
  case kF => exact rfl
  case kK => assumption
  case k1 => k_asm
  case k2 => k_asm
  case k3 => k_asm
  case k4 => k_asm
  case k5 => k_asm
  case k6 => k_is
  case k7 => k_is
  case k8 => ktr_room
  case k9 => first | exact BindsTo.of_eq rfl | exact binds_K (by k_in) rfl (by k_is) rfl rfl rfl
  case c5 => decide
  case kB => exact locs rfl
  case c2 => exact rfl
  case c3 => exact rfl
  case c4 => exact rfl
  k_whole
  intro g' L' h' FG' F' N' B' X' T'
  try dsimp only
  try k_lift B'
  try k_fold
  k_steps
  all_goals exact hret _ _ _ _ _ _ _ _ (by assumption) (by assumption) (by assumption)
local macro_rules | `(tactic| walk_at "call ref") => `(tactic| (k_here; (with_reducible show wpAny _ _ (call (Value.ref 693) _) _ _ _); k_dflt (refine' c_gt _ _ _ _ _ _ _ _ _ ?hrem ?hrun ?hlen ?hl0 ?hl1 ?hx _ _ _ _ _ _ _ _ _ _ _ _ _ _ _ _ _ _ _ _ _ ?o1 ?o2 ?o3 ?o4 ?o5 ?r1 ?r2 ?k1 ?k2 ?k3 ?k4 ?k5 ?k6 ?k7 ?k8 ?_; (case k1 => k_asm); (case k2 => k_asm); (case k3 => k_asm); (case k4 => k_asm); (case k5 => k_asm); (case hrem => assumption); (case hrun => assumption); (case hlen => assumption); (case hl0 => assumption); (case hl1 => assumption); (case hx => assumption); (case o1 => assumption); (case o2 => assumption); (case o3 => assumption); (case o4 => assumption); (case o5 => assumption); (case r1 => k_all); (case r2 => k_all); (case k6 => first | exact rfl | assumption); (case k7 => ktr_room); (case k8 => ktr_units); k_whole); intro h9 tk9 t9 p9 tp9 tv9 ln9 tl9 F9 N9 D9; (try dsimp only); (try k_fold)))
theorem c_nx {w : World} {sio ds lex dl q1 q2 : Addr} {Ks Vs K V : Nat → Tok} (x plain : Str) (rem : List Nat) (ts tv tl : Tok) (ln : Int) (p : Nat) (tp : Tok) (hrem : x.cps.toList.drop p = rem) (hrun : lexRun .sp rem ⟨#[]⟩ = some plain) (hlen : (⟨#[]⟩ : Str).length + rem.length ≤ 10000) (hl0 : 0 ≤ ln) (hl1 : ln + rem.length ≤ 20000) (hx : x.length ≤ 10000) (dp un : Nat) (gd : Option (List Code)) (cn : Str) (cs : Scope) (a : Addr) (ccd : Value) (cl : List (Str × Addr)) (outer : List Env) (A₀ : Around) (base h₀ : Heap) (L : Addr) (m : Str → Option Value) (rest : List (Addr × Obj)) (s : Shared)
    (mean : ExcName → Option Value) (mg mb : Str → Option Value) (Q E : Value → Shared → Prop) (o1 : @LT.lt Nat _ dl lex) (o2 : @LT.lt Nat _ lex ds) (o3 : @LT.lt Nat _ ds sio) (o4 : @LT.lt Nat _ sio q1) (o5 : @LT.lt Nat _ q1 q2) (hr1 : ∀ q ∈ rest, q.1 ≠ ds) (hr2 : ∀ q ∈ rest, q.1 ≠ dl)
    (B : Below A₀ base outer h₀) (F : Fr h₀ L s.heap m) (X : (KF w.params).In h₀) (N : News h₀ L s.heap ((sio, instObj 597 ds) :: (ds, dictOf (sioEs w.params Ks Vs x (.int (p : Nat) tp)) 3) :: (lex, instObj 732 dl) :: (dl, dictOf (lexEs w.params K V sio q1 q2 (.str St.sp.txt ts) (.int ln tl) (.str ⟨#[]⟩ tv)) 19) :: (q1, dqObj) :: (q2, dqObj) :: rest)) (T : Top qv (looseW qv lo) mean mg mb h₀) (hk : cs.kind = .function) (hd : dp + 6 < recursionLimit) (hu : un + 96 < cLine)
    (hret : ∀ h' tk' t' p' tp' tv' ln' tl', Fr h₀ L h' m → News h₀ L h' ((sio, instObj 597 ds) :: (ds, dictOf (sioEs w.params Ks Vs x (.int (p' : Nat) tp')) 3) :: (lex, instObj 732 dl) :: (dl, dictOf (lexEs w.params K V sio q1 q2 .none (.int ln' tl') (.str (Str.ofString "") tv')) 19) :: (q1, dqObj) :: (q2, dqObj) :: rest) → x.cps.toList.drop p' = [] → Q (.str plain t') { s with heap := h', toks := tk' }) :
    wpAny (model PySem.Challenge.rw_ij0131_01.row.prog w) (ktrTop dp un gd cn cs L a ccd cl outer) (call (.ref 729) [.ref lex]) Q E s := by
  revert X
  k_fill
  intro X
  refine wpAny_call ?_
  refine' code_def (binds := [(Str.ofString "self", Value.ref lex)]) ?k1 ?k2 ?k3 ?k4 ?k5 ?kA ?kF ?kK ?k6 ?k7 ?k8 ?k9 ?kB ?_ ?c2 ?c3 ?c4 ?c5
  case kA => exact rfl
  case kF => exact rfl
  case kK => assumption
  case k1 => k_asm
  case k2 => k_asm
  case k3 => k_asm
  case k4 => k_asm
  case k5 => k_asm
  case k6 => k_is
  case k7 => k_is
  case k8 => ktr_room
  case k9 => first | exact BindsTo.of_eq rfl | exact binds_K (by k_in) rfl (by k_is) rfl rfl rfl
  case c5 => decide
  case kB => exact locs rfl
  case c2 => exact rfl
  case c3 => exact rfl
  case c4 => exact rfl
  k_whole
  intro g' L' h' FG' F' N' B' X' T'
  try dsimp only
  try k_lift B'
  try k_fold
  k_steps
  all_goals exact hret _ _ _ _ _ _ _ _ (by assumption) (by assumption) (by assumption)

end
section
open PySem PySem.W PyProof.Rows PySem.Calls
set_option maxRecDepth 100000
set_option maxHeartbeats 4000000
section
variable {prog : Program} {w : World} {A : Around} {R : Result → Shared → Prop}
/-- the loop of list(own iterator): what a turn has to show -/
def OwnTurn (S : Addr) (res : Value) (R : Result → Shared → Prop) (St : Nat → Shared → Prop) (n : Nat) (r : Option Value) (s' : Shared) : Prop := match r with
  | none => R (.ok (.ret res)) s'
  | some v => ∃ acc c n', s'.heap.get? S = some (listOf acc c) ∧ acc.size ≤ 1000 ∧ n' < n ∧ St n' { s' with heap := s'.heap.update S (Obj.mapSeq (·.push v)) }
theorem own_loop {S x : Addr} {res : Value} (St : Nat → Shared → Prop)
    (turn : ∀ n s, St n s → wpAny (model prog w) A.in1 (pyNext (.ref x)) (OwnTurn S res R St n) (fun e s' => R (.error e) s') s) :
    ∀ (k n : Nat) (s : Shared), n ≤ k → St n s → codeAny (model prog w) A (.builtin "list.extend.loop" ⟨[.ref S, .ref x, res], []⟩) R s := by
  intro k
  induction k with
  | zero =>
    intro n s hn hst
    refine codeAny_builtin PySem.F.entry_extend_loop ?_
    rw [Around.under_plainId PySem.F.plain_extend_loop _]
    show wpAny _ A.in1 (pyNext (.ref x) >>= _) _ _ s
    refine wpAny_bind (wpAny_mono (turn n s hst) (fun r s' hr => ?_) fun _ _ e => e)
    cases r with
    | none => exact wpAny_pure hr
    | some v => obtain ⟨_, _, n', _, _, h, _⟩ := hr; omega
  | succ k ih =>
    intro n s hn hst
    refine codeAny_builtin PySem.F.entry_extend_loop ?_
    rw [Around.under_plainId PySem.F.plain_extend_loop _]
    show wpAny _ A.in1 (pyNext (.ref x) >>= _) _ _ s
    refine wpAny_bind (wpAny_mono (turn n s hst) (fun r s' hr => ?_) fun _ _ e => e)
    cases r with
    | none => exact wpAny_pure hr
    | some v =>
      obtain ⟨acc, c, n', hS, ha, hlt, hst'⟩ := hr
      show wpAny _ A.in1 (updateSeq S (·.push v) >>= _) _ _ _
      refine wpAny_bind ?_
      refine wpAny_updateSeq hS rfl (wpAny_pure ⟨plainId_quiet PySem.F.plain_extend_loop _, ih n' _ (by omega) hst'⟩) ?_ ?_
      · rw [sizeLine_eq]; omega
      · rw [sizeLine_eq]; show (acc.push v).size ≤ _; rw [Array.size_push]; omega
end
section
variable {prog : Program} {w : World} {A : Around} {E : Value → Shared → Prop} {s : Shared} {K : Frag} {x C L fi fn : Addr} {h₀ : Heap} {m : Str → Option Value} {dx : Addr} {news : List (Addr × Obj)}
/-- what stands behind the call of __iter__ -/
def OwnIt (prog : Program) (w : World) (A : Around) (K : Frag) (x C S : Addr) (Q E : Value → Shared → Prop) (v : Value) (s' : Shared) : Prop :=
  v = .ref x ∧ K.In s'.heap ∧ (∃ ox od, InstAt s'.heap x ox C od) ∧ ∃ c, s'.heap.get? S = some (listOf #[] c) ∧
    ∃ (St : Nat → Shared → Prop) (n : Nat), (∀ n s, St n s → wpAny (model prog w) A.in1.in1 (pyNext (.ref x)) (OwnTurn S .none (fun r s' => match r with | .ok (.ret _) => Q (.ref S) s' | .ok _ => False | .error e => E e s') St n) E s) ∧
      St n { s' with heap := (s'.heap.update S (Obj.mapSeq (·.push .none))).update S (Obj.mapSeq (·.pop)) }
theorem list_own {Q : Value → Shared → Prop} {ox : Obj} {od : Option Obj} (F : Fr h₀ L s.heap m) (X₀ : K.In h₀) (N : News h₀ L s.heap news) (I : ∀ h1, News h₀ L h1 news → InstAt h1 x ox C od)
    (hs : findIn K (.ref C) "__iter__" = some (some (.ref fi))) (hf : isFn K (.ref fi) = true) (hn : findIn K (.ref C) "__next__" = some (some (.ref fn)))
    (hl : findIn K (.ref C) "__len__" = some none) (hh : findIn K (.ref C) "__length_hint__" = some none) (hx : ∃ o, (x, o) ∈ news)
    (h : ∀ S h1 c, Fr h₀ L h1 m → News h₀ L h1 ((S, listOf #[] c) :: news) → (∀ p ∈ news, p.1 < S) →
      wpAny (model prog w) A.in1.in1 (call (.ref fi) [.ref x]) (OwnIt prog w A K x C S Q E) E { s with heap := h1 }) :
    wpAny (model prog w) A (call (.type "list") [.ref x]) Q E s := by
  refine callType_codes (Q₁ := fun obj s₁ => obj = .ref s.heap.objs.size ∧ s₁ = { s with heap := s.heap.push (listOf #[] 0) }) PySem.F.called_list (PySem.F.typeCall_list_1 _) PySem.F.entry_list_init
    (code_list_new _ ⟨rfl, rfl⟩) fun obj s₁ h₁ => ?_
  obtain ⟨rfl, rfl⟩ := h₁
  have hS : (s.heap.push (listOf #[] 0)).get? s.heap.objs.size = some (listOf #[] 0) := Heap.get?_push_size _ rfl
  refine ⟨⟨_, hS, rfl⟩, PySem.F.args_list_init_2 _ _, ?_⟩
  have N1 : News h₀ L (s.heap.push (listOf #[] 0)) ((s.heap.objs.size, listOf #[] 0) :: news) := News.push F N (listOf #[] 0) (by rfl)
  have lt : ∀ p ∈ news, p.1 < s.heap.objs.size := fun p hp => Heap.lt_size (N p hp).1
  have F1 : Fr h₀ L (s.heap.push (listOf #[] 0)) m := F.push _
  show wpAny _ A.in1.in1 (do let old ← Builtin.List.listItems (.ref _); Builtin.List.listUpdate (.ref _) (fun _ => #[]); letGo old.toList.reverse; Builtin.List.listExtendWith (.ref _) (.ref x) .none) _ _ _
  refine wpAny_bind ?_
  unfold Builtin.List.listItems
  refine wpAny_bind (wpAny_seqItems hS rfl (wpAny_pure ?_))
  show wpAny _ A.in1.in1 (updateSeq s.heap.objs.size (fun _ => #[]) >>= fun _ => letGo (#[] : Array Value).toList.reverse >>= fun _ => Builtin.List.listExtendWith (.ref _) (.ref x) .none) _ _ _
  refine wpAny_bind (wpAny_updateSeq hS rfl ?_)
  refine wpAny_bind (wpAny_letGo ?_)
  obtain ⟨F2, N2⟩ := news_upd (pre := []) (post := news) (o := listOf #[] 0) (o' := listOf #[] _) (f := Obj.mapSeq (fun _ => (#[] : Array Value))) F1 N1 (fun _ hp => nomatch hp) (fun p hp => Nat.ne_of_lt (lt p hp)) rfl rfl
  have h := h s.heap.objs.size _ _ F2 N2 lt
  have I2 := I _ (cb_drop N2 fun p hp => .tail _ hp)
  obtain ⟨o0, hx⟩ := hx
  have hne : s.heap.objs.size ≠ x := fun q => absurd (lt _ hx) (by rw [q]; exact Nat.lt_irrefl _)
  unfold Builtin.List.listExtendWith
  refine wpAny_bind (I2.type.here ?_)
  have h1 : Builtin.List.listSameRef (.ref s.heap.objs.size) (.ref x) = false := by simp [Builtin.List.listSameRef, hne]
  have h2 : (Value.ref C == Value.type "list") = false := by rfl
  have h3 : (Value.ref C == Value.type "tuple") = false := by rfl
  have h4 : (["set", "frozenset", "dict", "dict_keys", "dict_values", "dict_items"].any fun y => (Value.ref C == Value.type y)) = false := by rfl
  simp only [h1, h2, h3, Bool.or_false, Bool.false_eq_true, if_false]
  refine wpAny_bind (owit_iter F2 X₀ I2 hs hf (wpAny_mono h (fun v s' hv => ?_) fun _ _ e => e))
  obtain ⟨rfl, X', ⟨ox', od', I'⟩, c, hS', St, n, turn, hst⟩ := hv
  have e1 : wpAny (model prog w) A.in1.in1 (specialOf (.ref x) "__next__") (fun r s₂ => r = some (.ref fn) ∧ s₂ = s') E s' := by
    exact wpAny_bind (I'.type.here ((looks_findIn X' hn).here ⟨rfl, rfl⟩))
  refine wpAny_mono e1 (fun r s₂ hr => ?_) fun _ _ e => e
  obtain ⟨rfl, rfl⟩ := hr
  dsimp only
  refine wpAny_bind (wpAny_holding ?_)
  unfold Builtin.List.listLengthHint
  refine wpAny_bind ?_
  refine wpAny_mono (wpAny_bind (I'.type.here ((looks_findIn X' hl).here (Q := fun r s₃ => r = none ∧ s₃ = s₂) ⟨rfl, rfl⟩))) (fun r s₃ hr => ?_) fun _ _ e => e
  obtain ⟨rfl, rfl⟩ := hr
  show wpAny _ A.in1.in1 (specialOf (Value.ref x) (Str.ofString "__length_hint__") >>= _) _ _ _
  refine wpAny_bind ?_
  refine wpAny_mono (wpAny_bind (I'.type.here ((looks_findIn X' hh).here (Q := fun r s₄ => r = none ∧ s₄ = s₃) ⟨rfl, rfl⟩))) (fun r s₄ hr => ?_) fun _ _ e => e
  obtain ⟨rfl, rfl⟩ := hr
  refine wpAny_pure ?_
  show wpAny _ A.in1.in1 (rule "list.extend.makes-room" >>= fun _ => Builtin.List.listTouch (.ref s.heap.objs.size) >>= fun _ =>
    again (.builtin "list.extend.loop" ⟨[.ref s.heap.objs.size, .ref x, .none], []⟩)) _ _ _
  refine wpAny_bind (wpAny_rule ?_)
  refine wpAny_bind ?_
  show wpAny _ A.in1.in1 (updateSeq s.heap.objs.size (·.push .none) >>= fun _ => updateSeq s.heap.objs.size (·.pop)) _ _ _
  refine wpAny_bind (wpAny_updateSeq hS' rfl ?_)
  have hS₂ := Heap.get?_update_self (Obj.mapSeq (·.push Value.none)) hS' rfl
  refine wpAny_updateSeq (hz := by seq_fits) hS₂ rfl ?_
  refine wpAny_pure ⟨plainId_quiet PySem.F.plain_extend_loop _, own_loop (A := A.in1) St (fun n s hst => ?_) n n _ (Nat.le_refl _) hst⟩
  refine wpAny_mono (turn n s hst) (fun r s' hr => ?_) fun _ _ e => e
  cases r with
  | none => exact ⟨rfl, hr⟩
  | some v => exact hr
end

end
section
open PySem PySem.W PyProof.Rows PySem.Calls
set_option maxRecDepth 100000
set_option maxHeartbeats 8000000
theorem c_lexit {w : World} (lex : Addr) : Con w 722 1 8 [.ref lex] (fun v tl => v = .ref lex ∧ tl = []) := by
  unfold Con
  k_fill
  intro dp un gd cn cs a ccd cl outer A₀ base h₀ L m news s mean mg mb Q E B F X N T hk hd hu hret
  refine wpAny_call ?_
  refine' code_def (binds := [(Str.ofString "self", Value.ref lex)]) ?k1 ?k2 ?k3 ?k4 ?k5 ?kA ?kF ?kK ?k6 ?k7 ?k8 ?k9 ?kB ?_ ?c2 ?c3 ?c4 ?c5
  case kA => exact rfl
  case kF => exact rfl
  case kK => assumption
  case k1 => k_asm
  case k2 => k_asm
  case k3 => k_asm
  case k4 => k_asm
  case k5 => k_asm
  case k6 => k_is
  case k7 => k_is
  case k8 => ktr_room
  case k9 => first | exact BindsTo.of_eq rfl | exact binds_K (by k_in) rfl (by k_is) rfl rfl rfl
  case c5 => decide
  case kB => exact locs rfl
  case c2 => exact rfl
  case c3 => exact rfl
  case c4 => exact rfl
  k_whole
  intro g' L' h' FG' F' N' B' X' T'
  try dsimp only
  try k_lift B'
  try k_fold

  k_steps
  refine hret _ _ _ [] (by assumption) (by assumption) (fun _ _ _ h => nomatch h) ⟨rfl, rfl⟩
theorem mem_mid {α : Type} {pre rest : List α} {S q : α} (h : q ∈ pre ++ S :: rest) : q ∈ S :: (pre ++ rest) := by
  simp only [List.mem_append, List.mem_cons] at h ⊢
  rcases h with h | h | h
  · exact .inr (.inl h)
  · exact .inl h
  · exact .inr (.inr h)
theorem f_it732 (P : Params) : findIn (KF P) (.ref 732) "__iter__" = some (some (.ref 722)) := by kernel_rfl
theorem f_fn722 (P : Params) : isFn (KF P) (.ref 722) = true := by kernel_rfl
theorem f_nx732 (P : Params) : findIn (KF P) (.ref 732) "__next__" = some (some (.ref 729)) := by kernel_rfl
theorem f_fn729 (P : Params) : isFn (KF P) (.ref 729) = true := by kernel_rfl
theorem f_ln732 (P : Params) : findIn (KF P) (.ref 732) "__len__" = some none := by kernel_rfl
theorem f_lh732 (P : Params) : findIn (KF P) (.ref 732) "__length_hint__" = some none := by kernel_rfl
theorem sub_stop : isSubtype (.type "StopIteration") (.type "StopIteration") = pure true := by rw [isSubtype_type]; kernel_rfl
/-- where list(lexer) stands: 1 ahead of the first reading, 0 behind it -/
def LexSt (w : World) (sio ds lex dl q1 q2 S : Addr) (Ks Vs K V : Nat → Tok) (x plain : Str) (ts tv tl : Tok) (ln : Int) (p : Nat) (tp : Tok) (h₀ : Heap) (L : Addr) (m : Str → Option Value) (rest : List (Addr × Obj)) (s : Shared) (n : Nat) (s' : Shared) : Prop :=
  (n = 1 ∧ ∃ h tk c, s' = { s with heap := h, toks := tk } ∧ Fr h₀ L h m ∧ News h₀ L h ((sio, instObj 597 ds) :: (ds, dictOf (sioEs w.params Ks Vs x (.int (p : Nat) tp)) 3) :: (lex, instObj 732 dl) :: (dl, dictOf (lexEs w.params K V sio q1 q2 (.str St.sp.txt ts) (.int ln tl) (.str ⟨#[]⟩ tv)) 19) :: (q1, dqObj) :: (q2, dqObj) :: (S, listOf #[] c) :: rest)) ∨
  (n = 0 ∧ ∃ h tk c t' p' tp' tv' ln' tl', s' = { s with heap := h, toks := tk } ∧ Fr h₀ L h m ∧ News h₀ L h ((sio, instObj 597 ds) :: (ds, dictOf (sioEs w.params Ks Vs x (.int (p' : Nat) tp')) 3) :: (lex, instObj 732 dl) :: (dl, dictOf (lexEs w.params K V sio q1 q2 .none (.int ln' tl') (.str (Str.ofString "") tv')) 19) :: (q1, dqObj) :: (q2, dqObj) :: (S, listOf #[.str plain t'] c) :: rest) ∧ x.cps.toList.drop p' = [])
theorem lex_list {w : World} {sio ds lex dl q1 q2 : Addr} {Ks Vs K V : Nat → Tok} (x plain : Str) (rem : List Nat) (ts tv tl : Tok) (ln : Int) (p : Nat) (tp : Tok) (hrem : x.cps.toList.drop p = rem) (hrun : lexRun .sp rem ⟨#[]⟩ = some plain) (hlen : (⟨#[]⟩ : Str).length + rem.length ≤ 10000) (hl0 : 0 ≤ ln) (hl1 : ln + rem.length ≤ 20000) (hx : x.length ≤ 10000) (dp un : Nat) (gd : Option (List Code)) (cn : Str) (cs : Scope) (a : Addr) (ccd : Value) (cl : List (Str × Addr)) (outer : List Env) (A₀ : Around) (base h₀ : Heap) (L : Addr) (m : Str → Option Value) (rest : List (Addr × Obj)) (s : Shared)
    (mean : ExcName → Option Value) (mg mb : Str → Option Value) (Q E : Value → Shared → Prop) (o1 : @LT.lt Nat _ dl lex) (o2 : @LT.lt Nat _ lex ds) (o3 : @LT.lt Nat _ ds sio) (o4 : @LT.lt Nat _ sio q1) (o5 : @LT.lt Nat _ q1 q2) (hr1 : ∀ q ∈ rest, q.1 ≠ ds) (hr2 : ∀ q ∈ rest, q.1 ≠ dl)
    (B : Below A₀ base outer h₀) (F : Fr h₀ L s.heap m) (X : (KF w.params).In h₀) (N : News h₀ L s.heap ((sio, instObj 597 ds) :: (ds, dictOf (sioEs w.params Ks Vs x (.int (p : Nat) tp)) 3) :: (lex, instObj 732 dl) :: (dl, dictOf (lexEs w.params K V sio q1 q2 (.str St.sp.txt ts) (.int ln tl) (.str ⟨#[]⟩ tv)) 19) :: (q1, dqObj) :: (q2, dqObj) :: rest)) (T : Top qv (looseW qv lo) mean mg mb h₀) (hk : cs.kind = .function) (hd : dp + 6 < recursionLimit) (hu : un + 98 < cLine)
    (hret : ∀ S h' tk' t' c g₂, KtsTurn (outer.filterMap (·.frame)) h₀ g₂ → Fr g₂ L h' m → Below A₀ base outer g₂ → News g₂ L h' ((S, listOf #[.str plain t'] c) :: rest) → (∀ p ∈ rest, p.1 < S) → Q (.ref S) { s with heap := h', toks := tk' }) :
    wpAny (model PySem.Challenge.rw_ij0131_01.row.prog w) (ktrTop dp un gd cn cs L a ccd cl outer) (call (.type "list") [.ref lex]) Q E s := by
  refine list_own (K := KF w.params) (C := 732) (x := lex) (fi := 722) (fn := 729) (ox := instObj 732 dl) F X N (fun h1 N1 => InstAt.of_news N1 (.tail _ (.tail _ (.head _))) (.tail _ (.tail _ (.tail _ (.head _))))) (f_it732 _) (f_fn722 _) (f_nx732 _) (f_ln732 _) (f_lh732 _) ⟨_, .tail _ (.tail _ (.head _))⟩ ?_
  intro S h1 c F1 N1 lt1
  have l1 : @LT.lt Nat _ sio S := lt1 _ (.head _)
  have l2 : @LT.lt Nat _ ds S := lt1 _ (.tail _ (.head _))
  have l3 : @LT.lt Nat _ lex S := lt1 _ (.tail _ (.tail _ (.head _)))
  have l4 : @LT.lt Nat _ dl S := lt1 _ (.tail _ (.tail _ (.tail _ (.head _))))
  have l5 : @LT.lt Nat _ q1 S := lt1 _ (.tail _ (.tail _ (.tail _ (.tail _ (.head _)))))
  have l6 : @LT.lt Nat _ q2 S := lt1 _ (.tail _ (.tail _ (.tail _ (.tail _ (.tail _ (.head _))))))
  have lr : ∀ q ∈ rest, @LT.lt Nat _ q.1 S := fun q hq => lt1 _ (.tail _ (.tail _ (.tail _ (.tail _ (.tail _ (.tail _ hq))))))
  have hpre : ∀ (o1 o2 o3 o4 o5 o6 : Obj), ∀ q ∈ [(sio, o1), (ds, o2), (lex, o3), (dl, o4), (q1, o5), (q2, o6)], q.1 ≠ S := by
    intro o1 o2 o3 o4 o5 o6 q hq
    simp only [List.mem_cons, List.mem_nil_iff, or_false] at hq
    rcases hq with rfl | rfl | rfl | rfl | rfl | rfl <;> exact Nat.ne_of_lt (by assumption)
  have hr1' : ∀ (o : Obj), ∀ q ∈ (S, o) :: rest, q.1 ≠ ds := by
    intro o q hq
    rcases List.mem_cons.mp hq with rfl | hq
    · exact Nat.ne_of_gt l2
    · exact hr1 q hq
  have hr2' : ∀ (o : Obj), ∀ q ∈ (S, o) :: rest, q.1 ≠ dl := by
    intro o q hq
    rcases List.mem_cons.mp hq with rfl | hq
    · exact Nat.ne_of_gt l4
    · exact hr2 q hq
  have hd1 : dp + 1 < recursionLimit := by omega
  have hu1 : (un + 1 + 1) + 8 < cLine := by omega
  have hu2 : (un + 1 + 1) + 96 < cLine := by omega
  refine c_lexit lex dp (un + 1 + 1) gd cn cs a ccd cl outer A₀ base h₀ L m ((S, listOf #[] c) :: _) _ mean mg mb _ E B F1 X N1 T hk hd1 hu1 ?_
  rintro v h2 tk2 tl2 F2 N2 _ ⟨rfl, rfl⟩
  have N2 : News h₀ L h2 ((sio, instObj 597 ds) :: (ds, dictOf (sioEs w.params Ks Vs x (.int (p : Nat) tp)) 3) :: (lex, instObj 732 dl) :: (dl, dictOf (lexEs w.params K V sio q1 q2 (.str St.sp.txt ts) (.int ln tl) (.str ⟨#[]⟩ tv)) 19) :: (q1, dqObj) :: (q2, dqObj) :: (S, listOf #[] c) :: rest) := cb_drop N2 (fun q hq => mem_mid (pre := [_, _, _, _, _, _]) hq)
  refine ⟨rfl, X.keeps F2.keep, ⟨_, _, InstAt.of_news N2 (.tail _ (.tail _ (.head _))) (.tail _ (.tail _ (.tail _ (.head _))))⟩, c, (N2 _ (.tail _ (.tail _ (.tail _ (.tail _ (.tail _ (.tail _ (.head _)))))))).1, LexSt w sio ds lex dl q1 q2 S Ks Vs K V x plain ts tv tl ln p tp h₀ L m rest s, 1, ?_, ?_⟩
  · rintro n s' (⟨rfl, h, tk, c, rfl, F3, N3⟩ | ⟨rfl, h, tk, c, t', p', tp', tv', ln', tl', rfl, F3, N3, hr3⟩)
    · refine owit_next F3 X (InstAt.of_news N3 (.tail _ (.tail _ (.head _))) (.tail _ (.tail _ (.tail _ (.head _))))) (f_nx732 _) (f_fn729 _) ?_
      refine c_nx x plain rem ts tv tl ln p tp hrem hrun hlen hl0 hl1 hx dp (un + 1 + 1) gd cn cs a ccd cl outer A₀ base h₀ L m ((S, listOf #[] c) :: rest) _ mean mg mb _ _ o1 o2 o3 o4 o5 (hr1' _) (hr2' _) B F3 X N3 T hk hd hu2 ?_
      intro h' tk' t' p' tp' tv' ln' tl' F4 N4 hr4
      obtain ⟨F5, N5⟩ := news_upd (pre := [_, _, _, _, _, _]) (post := rest) (o := listOf #[] c) (o' := listOf #[.str plain t'] _) (f := Obj.mapSeq (·.push (.str plain t'))) F4 N4 (hpre _ _ _ _ _ _) (fun q hq => Nat.ne_of_lt (lr q hq)) rfl rfl
      exact ⟨#[], c, 0, (N4 _ (.tail _ (.tail _ (.tail _ (.tail _ (.tail _ (.tail _ (.head _)))))))).1, by decide, by decide, .inr ⟨rfl, _, tk', _, t', p', tp', tv', ln', tl', rfl, F5, N5, hr4⟩⟩
    · refine owit_next F3 X (InstAt.of_news N3 (.tail _ (.tail _ (.head _))) (.tail _ (.tail _ (.tail _ (.head _))))) (f_nx732 _) (f_fn729 _) ?_
      refine c_nx0 x tv' tl' ln' p' tp' hr3 hx dp (un + 1 + 1) gd cn cs a ccd cl outer A₀ base h₀ L m ((S, listOf #[.str plain t'] c) :: rest) _ mean mg mb _ _ o1 o2 o3 o4 o5 (hr1' _) (hr2' _) B F3 X N3 T hk hd hu2 ?_
      intro h' tk' e g₂ p'' tp'' tv'' ln'' tl'' T4 F4 B4 N4 I4 hr4
      refine wpAny_isInstance (show Shared.TypeIs _ _ "StopIteration" from I4) sub_stop ?_
      show (if true = true then _ else _)
      rw [if_pos rfl]
      exact hret S h' tk' t' c g₂ T4 F4 B4 (cb_drop N4 fun q hq => .tail _ (.tail _ (.tail _ (.tail _ (.tail _ (.tail _ hq)))))) lr
  · obtain ⟨F3, N3⟩ := news_upd (pre := [_, _, _, _, _, _]) (post := rest) (o := listOf #[] c) (o' := listOf #[.none] _) (f := Obj.mapSeq (·.push .none)) F2 N2 (hpre _ _ _ _ _ _) (fun q hq => Nat.ne_of_lt (lr q hq)) rfl rfl
    obtain ⟨F4, N4⟩ := news_upd (pre := [_, _, _, _, _, _]) (post := rest) (o := listOf #[.none] _) (o' := listOf #[] _) (f := Obj.mapSeq (·.pop)) F3 N3 (hpre _ _ _ _ _ _) (fun q hq => Nat.ne_of_lt (lr q hq)) rfl rfl
    exact .inl ⟨rfl, _, tk2, _, rfl, F4, N4⟩

end
section
open PySem PySem.W PyProof.Rows PySem.Calls PySem.Spec
set_option maxRecDepth 100000
set_option maxHeartbeats 4000000
section
variable {prog : Program} {w : World} {A₀ A : Around} {s : Shared} {base h₀ : Heap} {L : Addr} {m : Str → Option Value} {env : Env} {news : List (Addr × Obj)} {K : Frag} {p : Program} {loose : List Str} {mean : ExcName → Option Value} {mg mb : Str → Option Value}
  {R : Result → Shared → Prop} {name qual : Str} {params : Arguments} {body : List Stmt} {scope : Scope} {dV kV doc pm cdv ct oc : Value} {an od : Option Addr} {osl : Array (Option Value)} {f : Addr} {args : Args} {binds : List (Str × Value)}
/-- a def of the text called from the first frame (with cells, too), its ground let turn by a caught raise -/
theorem code_turned (B : Below A₀ base [] h₀) (F : Fr h₀ L s.heap m) (X₀ : K.In h₀) (N : News h₀ L s.heap news) (T : Top p loose mean mg mb h₀) (hA : A.frames = some [env]) (hf : env.frame = some L) (hke : env.scope.kind = .function)
    (ho : K.lookup f = some ⟨oc, od, .func (fnOf name qual params body scope dV kV doc pm an cdv ct), osl⟩) (hcd : codeIn K cdv qual = true) (hroom : A.depth < recursionLimit)
    (hbind : BindsTo s (fnOf name qual params body scope dV kV doc pm an cdv ct) args binds) (hloc : ∀ y ∈ binds, scope.names.lookup y.1 = some .local)
    (h : ∀ g L' h₁, Fr h₀ L g m → Fr g L' h₁ (fun y => binds.reverse.lookup y) → News g L' h₁ news → Below A base [env] g → K.In g → Top p loose mean mg mb g → KtsDicts ([env].filterMap (·.frame)) g →
      wpAny (model prog w) (A.deeper (envOf qual scope L' f cdv)) (execs body (envOf qual scope L' f cdv))
        (fun fl s' => LeaveS0 ([env].filterMap (·.frame)) h₀ L m g R (match fl with | .ret v => v | _ => .none) s')
        (fun e s' => wpAny (model prog w) (A.deeper (envOf qual scope L' f cdv)) (leaving (envOf qual scope L' f cdv) e) (fun _ s'' => R (.error e) s'') (fun e' s'' => R (.error e') s'') s')
        { s with heap := h₁, toks := s.toks + binds.length })
    (hco : scope.isCoroutine = false) (hgen : scope.isGenerator = false) (hk : scope.kind = .function)
    (hcell : ∀ x ∈ scope.names, x.2 ≠ .cell) : codeAny (model prog w) A (.call (.ref f) args) R s := by
  have X := X₀.keeps F.keep
  have hfs : [env].filterMap (·.frame) = [L] := by simp [hf]
  obtain ⟨FG, BG, st, lv⟩ := groundX (R := R) B F N hA hf hke
  obtain ⟨oL, es, ep, hLg, hLd, hLk, hLf⟩ := id FG.ns
  refine codeAny_call_def (fd := fnOf name qual params body scope dV kV doc pm an cdv ct) (body := body) (binds := binds) hroom (X _ _ ho) rfl (T.nolimit.keeps F.keep) (codeRec_of X hcd) rfl hbind hcell hloc (fun h₁ hns hk₁ => ?_) hco hgen hk
  refine wpAny_mono (h _ s.heap.objs.size h₁ FG ⟨hns, fun b o e => hk₁ b o (of_hideAll _ e), Nat.le_of_eq (hideAll_size _ _)⟩
    (fun p hp => ⟨hk₁ _ _ (N p hp).1, Nat.ne_of_lt (Heap.lt_size (N p hp).1), hideAll_none _ (List.mem_map_of_mem hp)⟩) BG (X₀.keeps st) (T.keeps st) (fun b hb => by
      rw [hfs] at hb
      rw [List.mem_singleton.mp hb]
      exact ⟨oL, es, ep, hLg, hLd⟩)) (fun fl s' hl => ?_) fun _ _ y => y
  obtain ⟨g', L', m', news', T', F', N', k⟩ := hl
  rw [hfs] at T'
  have nL₀ : h₀.get? L = none := kts_self F
  obtain ⟨sl, hs⟩ := T'.up hLg
  refine k ⟨⟨_, es, ep, F'.keep _ _ hs, hLd, hLk, hLf⟩, fun b o e => F'.keep b o (T'.other b o (st b o e) (fun q => by
    rw [List.mem_singleton.mp q, nL₀] at e
    cases e)), F.above⟩ fun p hp => ⟨(N' p hp).1, fun q => ?_, ?_⟩
  · have := (N' p hp).2.2; rw [q, hs] at this; cases this
  · cases q : h₀.get? p.1 with
    | none => rfl
    | some o =>
      obtain ⟨sl', hs'⟩ := T'.up (st _ _ q)
      have := (N' p hp).2.2
      rw [hs'] at this
      cases this
end

end
section
open PySem PySem.W PyProof.Rows PySem.Calls
set_option maxRecDepth 100000
set_option maxHeartbeats 8000000
theorem isnot_self {M : Model} {A : Around} {E : Value → Shared → Prop} {s : Shared} {a : Addr} {Q : Value → Shared → Prop} (h : Q (.bool false) s) : wpAny M A (compareOp .IsNot (.ref a) (.ref a)) Q E s := by
  show wpAny M A (isSame (.ref a) (.ref a) >>= fun r => pure (.bool (!r))) Q E s
  refine wpAny_bind ?_
  unfold isSame
  dsimp only
  rw [if_pos (beq_self_eq_true a)]
  exact wpAny_pure (wpAny_pure h)
local macro_rules | `(tactic| walk_at "call ref") => `(tactic| (k_here; (with_reducible show wpAny _ _ (call (Value.ref 597) [Value.str _ _]) _ _ _); k_dflt (refine' sio_make ?k1 ?k2 ?_; (case k1 => k_asm); (case k2 => k_asm); k_whole)))
local macro_rules | `(tactic| walk_at "SioBack") => `(tactic| (k_dflt (refine' sio_back ?k1 ?k2 ?k3 ?k4 ?_; (case k1 => k_asm); (case k2 => k_asm); (case k3 => k_asm); (case k4 => k_mem); k_whole; k_enter)))
local macro_rules | `(tactic| walk_at "call builtin:object.__new__") => `(tactic| (k_here; k_dflt (refine' objNew_call ?k1 ?k2 ?k3 ?_; (case k1 => k_asm); (case k2 => k_asm); (case k3 => k_asm); k_whole); intro x' d' h' F' N' l1 l2; (try k_lt l1); (try k_lt2 l2); (try k_sweep)))
local macro_rules | `(tactic| walk_at "compareOp IsNot ref ref") => `(tactic| (k_here; (with_reducible show wpAny _ _ (compareOp CmpOp.IsNot (Value.ref _) (Value.ref _)) _ _ _); refine isnot_self ?_))
local macro_rules | `(tactic| walk_at "call type:collections.deque") => `(tactic| (k_here; (with_reducible show wpAny _ _ (call (Value.type _) []) _ _ _); k_dflt (refine' dq_call ?k1 ?k2 ?_; (case k1 => k_asm); (case k2 => k_asm); k_whole); intro a' h' F' N' l1; (try k_lt l1); (try k_sweep)))
local macro_rules | `(tactic| walk_at "truthy ref") => `(tactic| (k_here; (with_reducible show wpAny _ _ (truthy (Value.ref _)) _ _ _); k_dflt (refine' dq_truthy ?k1 ?k2 ?_; (case k1 => k_asm); (case k2 => k_mem); k_whole); intro _))

theorem lex_list2 {w : World} {sio ds lex dl q1 q2 ce cf : Addr} {m0 m1 m2 n0 n1 tp ts tl tv k0 k1 k2 k3 k4 k5 k6 k7 k8 k9 k10 k11 k12 k13 k14 k15 k16 k17 k18 v4 v5 v6 v8 v9 v10 v14 v18 : Tok} {x plain : Str} {oe of : Obj} (hrun : lexRun .sp x.cps.toList ⟨#[]⟩ = some plain) (hx : x.length ≤ 10000)
    {dp un : Nat} {gd : Option (List Code)} {cn : Str} {cs : Scope} {a : Addr} {ccd : Value} {cl : List (Str × Addr)} {outer : List Env} {A₀ : Around} {base h₀ : Heap} {L : Addr} {m : Str → Option Value} {rest : List (Addr × Obj)} {s : Shared}
    {mean : ExcName → Option Value} {mg mb : Str → Option Value} {Q E : Value → Shared → Prop} (o1 : dl < lex) (o2 : cf < ds ∧ ce < ds ∧ lex < ds ∧ dl < ds ∧ AllLt ds rest) (o3 : ds < sio) (o4 : sio < q1 ∧ ds < q1 ∧ cf < q1 ∧ ce < q1 ∧ lex < q1 ∧ dl < q1 ∧ AllLt q1 rest) (o5 : q1 < q2 ∧ sio < q2 ∧ ds < q2 ∧ cf < q2 ∧ ce < q2 ∧ lex < q2 ∧ dl < q2 ∧ AllLt q2 rest) (o6 : ∀ p ∈ rest, p.1 < dl)
    (B : Below A₀ base outer h₀) (F : Fr h₀ L s.heap m) (X : (KF w.params).In h₀) (N : News h₀ L s.heap ((q2, dqObj) :: (q1, dqObj) :: (sio, instObj 597 ds) :: (ds, dictOf [{ hash := PyData.keyHash w.params (Str.ofString "_StringIO__newline"), key := .str (Str.ofString "_StringIO__newline") m0, val := .str (Str.ofString "\n") n0 }, { hash := PyData.keyHash w.params (Str.ofString "_StringIO__buf"), key := .str (Str.ofString "_StringIO__buf") m1, val := .str x n1 }, { hash := PyData.keyHash w.params (Str.ofString "_StringIO__pos"), key := .str (Str.ofString "_StringIO__pos") m2, val := .int 0 tp }] 3) :: (cf, of) :: (ce, oe) :: (lex, instObj 732 dl) :: (dl, dictOf [{ hash := PyData.keyHash w.params (Str.ofString "instream"), key := .str (Str.ofString "instream") k0, val := (.ref sio) },
   { hash := PyData.keyHash w.params (Str.ofString "infile"), key := .str (Str.ofString "infile") k1, val := .none },
   { hash := PyData.keyHash w.params (Str.ofString "posix"), key := .str (Str.ofString "posix") k2, val := (.bool true) },
   { hash := PyData.keyHash w.params (Str.ofString "eof"), key := .str (Str.ofString "eof") k3, val := .none },
   { hash := PyData.keyHash w.params (Str.ofString "commenters"), key := .str (Str.ofString "commenters") k4, val := (.str (Str.ofString "") v4) },
   { hash := PyData.keyHash w.params (Str.ofString "wordchars"), key := .str (Str.ofString "wordchars") k5, val := (.str (Str.ofString "abcdfeghijklmnopqrstuvwxyzABCDEFGHIJKLMNOPQRSTUVWXYZ0123456789_ßàáâãäåæçèéêëìíîïðñòóôõöøùúûüýþÿÀÁÂÃÄÅÆÇÈÉÊËÌÍÎÏÐÑÒÓÔÕÖØÙÚÛÜÝÞ") v5) },
   { hash := PyData.keyHash w.params (Str.ofString "whitespace"), key := .str (Str.ofString "whitespace") k6, val := (.str (Str.ofString " \t\r\n") v6) },
   { hash := PyData.keyHash w.params (Str.ofString "whitespace_split"), key := .str (Str.ofString "whitespace_split") k7, val := (.bool true) },
   { hash := PyData.keyHash w.params (Str.ofString "quotes"), key := .str (Str.ofString "quotes") k8, val := (.str (Str.ofString "'\"") v8) },
   { hash := PyData.keyHash w.params (Str.ofString "escape"), key := .str (Str.ofString "escape") k9, val := (.str (Str.ofString "\\") v9) },
   { hash := PyData.keyHash w.params (Str.ofString "escapedquotes"), key := .str (Str.ofString "escapedquotes") k10, val := (.str (Str.ofString "\"") v10) },
   { hash := PyData.keyHash w.params (Str.ofString "state"), key := .str (Str.ofString "state") k11, val := (.str (Str.ofString " ") ts) },
   { hash := PyData.keyHash w.params (Str.ofString "pushback"), key := .str (Str.ofString "pushback") k12, val := (.ref q1) },
   { hash := PyData.keyHash w.params (Str.ofString "lineno"), key := .str (Str.ofString "lineno") k13, val := (.int 1 tl) },
   { hash := PyData.keyHash w.params (Str.ofString "debug"), key := .str (Str.ofString "debug") k14, val := (.int 0 v14) },
   { hash := PyData.keyHash w.params (Str.ofString "token"), key := .str (Str.ofString "token") k15, val := (.str (Str.ofString "") tv) },
   { hash := PyData.keyHash w.params (Str.ofString "filestack"), key := .str (Str.ofString "filestack") k16, val := (.ref q2) },
   { hash := PyData.keyHash w.params (Str.ofString "source"), key := .str (Str.ofString "source") k17, val := .none },
   { hash := PyData.keyHash w.params (Str.ofString "_punctuation_chars"), key := .str (Str.ofString "_punctuation_chars") k18, val := (.str (Str.ofString "") v18) }] 19) :: rest)) (T : Top qv (looseW qv lo) mean mg mb h₀) (hk : cs.kind = .function) (hd : dp + 6 < recursionLimit) (hu : un + 98 < cLine)
    (hret : ∀ S h' tk' t' c g₂, KtsTurn (outer.filterMap (·.frame)) h₀ g₂ → Fr g₂ L h' m → Below A₀ base outer g₂ → News g₂ L h' ((S, listOf #[.str plain t'] c) :: rest) → (∀ p ∈ rest, p.1 < S) → Q (.ref S) { s with heap := h', toks := tk' }) :
    wpAny (model PySem.Challenge.rw_ij0131_01.row.prog w) (ktrTop dp un gd cn cs L a ccd cl outer) (call (.type "list") [.ref lex]) Q E s := by
  have hxl : x.cps.toList.length ≤ 10000 := by rw [Array.length_toList]; exact hx
  have e0 : (⟨#[]⟩ : Str).length = 0 := rfl
  have ds_gt : ∀ q ∈ rest, q.1 < dl := o6
  refine lex_list (Ks := (fun i => [m0, m1, m2].getD i 0)) (Vs := (fun i => [n0, n1].getD i 0)) (K := (fun i => [k0, k1, k2, k3, k4, k5, k6, k7, k8, k9, k10, k11, k12, k13, k14, k15, k16, k17, k18].getD i 0)) (V := (fun i => [0, 0, 0, 0, v4, v5, v6, 0, v8, v9, v10, 0, 0, 0, v14, 0, 0, 0, v18].getD i 0)) x plain x.cps.toList ts tv tl 1 0 tp List.drop_zero hrun (by omega) (by omega) (by omega) hx dp un gd cn cs a ccd cl outer A₀ base h₀ L m rest s mean mg mb Q E o1 o2.2.2.1 o3 o4.1 o5.1 (fun q hq => Nat.ne_of_lt (Nat.lt_trans (o6 q hq) o2.2.2.2.1)) (fun q hq => Nat.ne_of_lt (o6 q hq)) B F X ?_ T hk hd hu hret
  refine cb_drop N (fun q hq => ?_)
  rcases List.mem_cons.mp hq with h | hq
  · exact h ▸ .tail _ (.tail _ (.head _))
  rcases List.mem_cons.mp hq with h | hq
  · exact h ▸ .tail _ (.tail _ (.tail _ (.head _)))
  rcases List.mem_cons.mp hq with h | hq
  · exact h ▸ .tail _ (.tail _ (.tail _ (.tail _ (.tail _ (.tail _ (.head _))))))
  rcases List.mem_cons.mp hq with h | hq
  · exact h ▸ .tail _ (.tail _ (.tail _ (.tail _ (.tail _ (.tail _ (.tail _ (.head _)))))))
  rcases List.mem_cons.mp hq with h | hq
  · exact h ▸ .tail _ (.head _)
  rcases List.mem_cons.mp hq with h | hq
  · exact h ▸ .head _
  · exact .tail _ (.tail _ (.tail _ (.tail _ (.tail _ (.tail _ (.tail _ (.tail _ hq)))))))
local macro_rules | `(tactic| walk_at "call type:list") => `(tactic| (k_here; (with_reducible show wpAny _ _ (call (Value.type "list") [Value.ref _]) _ _ _); k_dflt (refine' lex_list2 ?hrun ?hx ?o1 ?o2 ?o3 ?o4 ?o5 ?o6 ?k1 ?k2 ?k3 ?k4 ?k5 ?k6 ?k7 ?k8 ?_; (case k1 => k_asm); (case k2 => k_asm); (case k3 => k_asm); (case k4 => k_asm); (case k5 => k_asm); (case hrun => assumption); (case hx => assumption); (case o1 => assumption); (case o2 => assumption); (case o3 => assumption); (case o4 => assumption); (case o5 => assumption); (case o6 => assumption); (case k6 => first | exact rfl | assumption); (case k7 => ktr_room); (case k8 => ktr_units); k_whole); intro S9 h9 tk9 t9 c9 g9 T9 F9 B9 N9 l9; (try dsimp only)))
theorem c_split {w : World} (x plain : Str) (t : Tok) (hx : x.length ≤ 10000) (hrun : lexRun .sp x.cps.toList ⟨#[]⟩ = some plain)
    (dp un : Nat) (gd : Option (List Code)) (cn : Str) (cs : Scope) (a : Addr) (ccd : Value) (cl : List (Str × Addr)) (A₀ : Around) (base h₀ : Heap) (L : Addr) (m : Str → Option Value) (news : List (Addr × Obj)) (s : Shared)
    (mean : ExcName → Option Value) (mg mb : Str → Option Value) (Q E : Value → Shared → Prop) (B : Below A₀ base [] h₀) (F : Fr h₀ L s.heap m) (X : (KF w.params).In h₀) (N : News h₀ L s.heap news) (T : Top qv (looseW qv lo) mean mg mb h₀) (hk : cs.kind = .function) (hd : dp + 10 < recursionLimit) (hu : un + 120 < cLine)
    (hret : ∀ S h' tk' t' c, Fr h₀ L h' m → News h₀ L h' ((S, listOf #[.str plain t'] c) :: news) → (∀ p ∈ news, p.1 < S) → Q (.ref S) { s with heap := h', toks := tk' }) :
    wpAny (model PySem.Challenge.rw_ij0131_01.row.prog w) (ktrTop dp un gd cn cs L a ccd cl []) (call (.ref 744) [.str x t]) Q E s := by
  revert X
  k_fill
  intro X
  refine wpAny_call ?_
  refine' code_turned (binds := [(Str.ofString "s", Value.str x t), (Str.ofString "comments", Value.bool false), (Str.ofString "posix", Value.bool true)]) ?k1 ?k2 ?k3 ?k4 ?k5 ?kA ?kF ?c1 ?k6 ?k7 ?k8 ?k9 ?kB ?_ ?c2 ?c3 ?c4 ?c5
  case kA => exact rfl
  case kF => exact rfl
  case c1 => first | exact rfl | assumption
  case k1 => k_asm
  case k2 => k_asm
  case k3 => k_asm
  case k4 => k_asm
  case k5 => k_asm
  case k6 => k_is
  case k7 => k_is
  case k8 => ktr_room
  case k9 => first | exact BindsTo.of_eq rfl | exact binds_K (by k_in) rfl (by k_is) rfl rfl rfl
  case c5 => decide
  case kB => exact locs rfl
  case c2 => exact rfl
  case c3 => exact rfl
  case c4 => exact rfl
  k_whole
  intro g' L' h' FG' F' N' B' X' T' D'
  try dsimp only
  try k_lift B'
  try k_fold
  k_steps
  exact hret _ _ _ _ _ (by assumption) (by assumption) (by assumption)

end
section
open PySem PySem.W PyProof.Rows PySem.Calls PySem.Spec
set_option maxRecDepth 100000
set_option maxHeartbeats 4000000
/-- the texts of a list: what is seen at each place -/
def StrsAt (items : Array Value) (xs : List Str) : Prop := items.size = xs.length ∧ ∀ i v, items[i]? = some v → ∃ t, v = Value.str (xs.getD i ⟨#[]⟩) t
section
variable {prog : Program} {w : World} {A : Around} {R : Result → Shared → Prop} {I : Addr} {fp wr : List Addr} {G : Array GenState → Array GenState → Prop} {n : Nat} {P : Nat → Value → Prop} {St : Nat → Shared → Prop}
def SetTill (prog : Program) (w : World) (h : Heap) (S : Addr) (val : Nat → Str) (i : Nat) : Prop := ∃ c, c ≤ i ∧ h.SetOf (strKind prog w) S (fun k => decide (k ∈ (List.range i).map val)) c
theorem setTill_congr {h : Heap} {S : Addr} {f g : Str → Bool} {c : Nat} (hS : h.SetOf (strKind prog w) S f c) (e : ∀ k, f k = g k) : h.SetOf (strKind prog w) S g c := by
  have : f = g := funext e
  subst this
  exact hS
theorem set_strs_loop (W : WalksS prog w A.in1 I fp wr G n P St) (S : Addr) (hSf : S ∉ fp) (val : Nat → Str) (hval : ∀ i v, P i v → ∃ t, v = .str (val i) t) (hb : n + 1 < scanBound) :
    ∀ (k i : Nat) (s : Shared), n - i = k → i ≤ n → St i s → SetTill prog w s.heap S val i →
      (∀ s', Moved (S :: wr) G s s' → SetTill prog w s'.heap S val n → R (.ok (.ret .none)) s') →
      codeAny (model prog w) A (.builtin "set.update.loop" ⟨[.ref S, .ref I], []⟩) R s := by
  have hSw : S ∉ wr := fun h => hSf (W.sub _ h)
  have hsub : ∀ b ∈ wr, b ∈ S :: wr := fun b hb => List.mem_cons_of_mem _ hb
  intro k
  induction k with
  | zero =>
    intro i s hk hi hst hS hR
    obtain rfl : i = n := by omega
    refine codeAny_builtin PyProof.Rows.F.entry_set_update_loop ?_
    rw [Around.under_plainId PyProof.Rows.F.plain_set_update_loop _]
    show wpAny _ A.in1 (pyNext (.ref I) >>= _) _ _ s
    refine wpAny_bind (W.done s _ _ hst fun s' hm => ?_)
    show wpAny _ A.in1 (ret Value.none) _ _ s'
    obtain ⟨c, hc, o, es, ep, t, ho, rest⟩ := hS
    exact wpAny_pure (hR s' (hm.mono hsub) ⟨c, hc, o, es, ep, t, hm.heap S _ hSw ho, rest⟩)
  | succ k ih =>
    intro i s hk hi hst hS hR
    have hlt : i < n := by omega
    refine codeAny_builtin PyProof.Rows.F.entry_set_update_loop ?_
    rw [Around.under_plainId PyProof.Rows.F.plain_set_update_loop _]
    show wpAny _ A.in1 (pyNext (.ref I) >>= _) _ _ s
    refine wpAny_bind (W.item i s _ _ hlt hst fun v s' hP hst' hm => ?_)
    obtain ⟨t, rfl⟩ := hval i v hP
    obtain ⟨c, hc, o, es, ep, tb, ho, rest⟩ := hS
    have hS' : s'.heap.SetOf (strKind prog w) S (fun k => decide (k ∈ (List.range i).map val)) c := ⟨o, es, ep, tb, hm.heap S _ hSw ho, rest⟩
    have his : (strKind prog w).is (val i) (.str (val i) t) = true := by show (val i == val i) = true; exact beq_self_eq_true _
    show wpAny _ A.in1 (holding [Value.str (val i) t] (setAdd S (.str (val i) t)) >>= _) _ _ s'
    refine wpAny_bind (wpAny_holding ?_)
    unfold setAdd
    refine wpAny_holding ?_
    refine wpAny_bind ((strKind prog w).pyHash (k := val i) his ?_)
    refine wpAny_setAddHashed_of (knd := strKind prog w) (s := { s' with toks := s'.toks + 1 }) his rfl hS' (by omega) fun h' hsb hS2 => ?_
    have hSi : SetTill prog w h' S val (i + 1) := by
      refine ⟨_, ?_, setTill_congr hS2 fun k => ?_⟩
      · split <;> omega
      · rw [List.range_succ, List.map_append]
        by_cases e : k ∈ (List.range i).map val <;> by_cases e2 : k = val i <;> simp [e, e2]
    refine wpAny_pure ⟨plainId_quiet PyProof.Rows.F.plain_set_update_loop _, ih (i + 1) _ (by omega) hlt (W.frame _ s' _ _ hst' (Nat.le_succ _) fun b hb o e => ?_) hSi fun s'' hm'' hS'' => ?_⟩
    · rw [hsb.2 b (fun h : b = S => hSf (by rw [← h]; exact hb))]; exact e
    · refine hR s'' (Moved.trans W.gtrans ((hm.mono hsub).then_heap (Nat.le_succ _) fun b o hb e => ?_) hm'') hS''
      rw [hsb.2 b (fun h : b = S => hb (by rw [h]; exact List.mem_cons_self))]; exact e
end
section
variable {prog : Program} {w : World} {A : Around} {E : Value → Shared → Prop} {s : Shared} {h₀ : Heap} {L : Addr} {m : Str → Option Value} {news : List (Addr × Obj)}
theorem set_of_strs {l : Addr} {items : Array Value} {xs : List Str} {Q : Value → Shared → Prop} (hh : A.handled = none) (hl : s.heap.IsList l items) (hi : StrsAt items xs) (hb : items.size + 1 < scanBound)
    (F : Fr h₀ L s.heap m) (N : News h₀ L s.heap news)
    (h : ∀ S h' tk o c, Fr h₀ L h' m → News h₀ L h' ((S, o) :: news) → (∀ p ∈ news, p.1 < S) → o.SetObjOf (strKind prog w) (fun k => decide (k ∈ xs)) c → c < scanBound → Q (.ref S) { s with heap := h', toks := tk }) :
    wpAny (model prog w) A (call (.type "set") [.ref l]) Q E s := by
  obtain ⟨c, tl, hmro⟩ := PySem.F.called_set.mro
  have hmade := PySem.F.called_set.made
  have hsub := PySem.F.called_set.sub
  refine wpAny_call (codeAny_of_tree ?_)
  show wpAny _ _ (callAny (.type "set") _) _ _ _
  refine wpAny_pure ⟨Code.quiet_builtin _ (by decide +kernel), codeAny_builtin PySem.F.entry_type_call ?_⟩
  rw [Around.under_plain (weight_type_call_type "set" [.ref l] []) rfl]
  have h1 := PySem.F.called_set.notType
  have h2 := PySem.F.called_set.canCreate
  have hct := PySem.F.typeCall_set_1 (.ref l)
  repeat (any_goals (first | assumption | wp_step))
  refine codeAny_mono (code_set_new_1 (.ref l) (E := E) (Q₁ := fun obj s₁ => ∃ led : Bool, obj = .ref s.heap.objs.size ∧ s₁ = { s with heap := s.heap.push { cls := .type "set", dict := none, data := .set #[] 0 (.fresh 0 0 led) } }) fun led => ⟨led, rfl, rfl⟩) fun r s₁ hr => ?_
  rcases r with e | (obj | _ | _ | _) <;> first | exact hr | exact hr.elim | skip
  obtain ⟨led, rfl, rfl⟩ := hr
  have hS : (s.heap.push { cls := .type "set", dict := none, data := .set #[] 0 (.fresh 0 0 led) }).get? s.heap.objs.size = some { cls := .type "set", dict := none, data := .set #[] 0 (.fresh 0 0 led) } := Heap.get?_push_size _ rfl
  have hT : Shared.TypeIs { s with heap := s.heap.push { cls := .type "set", dict := none, data := .set #[] 0 (.fresh 0 0 led) } } (.ref s.heap.objs.size) "set" := ⟨_, hS, rfl⟩
  have hli := PySem.F.called_set.init.lookup
  have hbi := PySem.F.called_set.init.bind (.ref s.heap.objs.size)
  repeat (any_goals (first | assumption | wp_step))
  refine codeAny_mono (codeAny_call_builtin (R := wants (fun r s₂ => r = .none ∧ ∃ h' tk, s₂ = { s with heap := h', toks := tk } ∧ SetTill prog w h' s.heap.objs.size (fun i => xs.getD i ⟨#[]⟩) items.size ∧
      (∀ b o, b < s.heap.objs.size → s.heap.get? b = some o → h'.get? b = some o)) E) PySem.F.called_set.init.plain PySem.F.entry_set_init (check_set_init_1 hT ?_)) fun r₂ s₂ hr₂ => ?_
  · obtain ⟨ol, hol, hcl, nl, hdl⟩ := hl
    have hlS : l < s.heap.objs.size := Heap.lt_size hol
    have hl1 : (s.heap.push { cls := .type "set", dict := none, data := .set #[] 0 (.fresh 0 0 led) }).IsList l items := ⟨_, Heap.get?_push_of_some _ hol, hcl, nl, hdl⟩
    have tl : Shared.TypeIs { s with heap := s.heap.push { cls := .type "set", dict := none, data := .set #[] 0 (.fresh 0 0 led) } } (.ref l) "list" := ⟨_, Heap.get?_push_of_some _ hol, hcl⟩
    have hsls := PySem.F.sub_list_set
    have hslf := PySem.F.sub_list_frozenset
    have hne : (Value.type "list" == Value.type "dict") = false := by decide
    unfold Builtin.«set.__init__» noKeywords Builtin.Frozenset.updateFrom
    obtain ⟨ocls, odict, odata, oslots⟩ := ol
    simp only at hcl hdl
    subst hcl hdl
    have hol' : (s.heap.push { cls := .type "set", dict := none, data := .set #[] 0 (.fresh 0 0 led) }).get? l = some { cls := .type "list", dict := odict, data := .seq items nl, slots := oslots } := Heap.get?_push_of_some _ hol
    generalize hPI : pyIter = PI
    wp_walk
    subst hPI
    refine wpAny_pyIter_list hl1 ?_
    refine wpAny_bind (wpAny_runValue ?_)
    have hh3 : A.in1.in1.in1.handled = none := by simp [hh]
    have hneI : l ≠ (s.heap.push { cls := .type "set", dict := none, data := .set #[] 0 (.fresh 0 0 led) }).objs.size := by
      rw [Heap.size_push]; exact Nat.ne_of_lt (Nat.lt_succ_of_lt hlS)
    have hSf : s.heap.objs.size ∉ [(s.heap.push { cls := .type "set", dict := none, data := .set #[] 0 (.fresh 0 0 led) }).objs.size, l] := by
      rw [Heap.size_push]; simp only [List.mem_cons, List.mem_singleton, List.not_mem_nil, or_false, not_or]
      exact ⟨Nat.ne_of_lt (Nat.lt_succ_self _), Nat.ne_of_gt hlS⟩
    refine set_strs_loop ((Walks.list hh3 _ l hneI items).toS) s.heap.objs.size hSf (fun i => xs.getD i ⟨#[]⟩) hi.2 hb (items.size - 0) 0 _ (by omega) (Nat.zero_le _) ⟨⟨_, Heap.get?_push_size _ rfl, rfl, rfl⟩, (hl1.push _)⟩ ?hS0 ?hR
    case hS0 =>
      have hget : ((s.heap.push { cls := .type "set", dict := none, data := .set #[] 0 (.fresh 0 0 led) }).push { cls := .type "list_iterator", data := .fields #[.ref l, .int 0 0] }).get? s.heap.objs.size
          = some { cls := .type "set", dict := none, data := .set #[] 0 (.fresh 0 0 led) } := Heap.get?_push_of_some _ hS
      exact ⟨0, Nat.le_refl _, setTill_congr ((setObjOf_fresh (knd := strKind prog w) led).setOf hget (by unfold scanBound; omega)) (fun _ => by simp)⟩
    case hR =>
      intro s' hm hS'
      obtain ⟨h', g', d', tk', os'⟩ := s'
      have eg : g' = s.gens := hm.gens
      have ed : d' = s.drawn := hm.drawn
      have eo : os' = s.os := hm.os
      subst eg ed eo
      show wpAny _ _ _ _ _ _
      refine wpAny_pure ?_
      show wpAny _ _ (ret Value.none) _ _ _
      refine wpAny_pure ⟨rfl, h', tk', rfl, hS', fun b o hb e => ?_⟩
      have hb1 : b ≠ s.heap.objs.size := Nat.ne_of_lt hb
      have hb2 : b ≠ (s.heap.push { cls := .type "set", dict := none, data := .set #[] 0 (.fresh 0 0 led) }).objs.size := by
        rw [Heap.size_push]; exact Nat.ne_of_lt (Nat.lt_succ_of_lt hb)
      exact hm.heap b o (by simp only [List.mem_cons, List.mem_singleton, List.not_mem_nil, or_false, not_or]; exact ⟨hb1, hb2⟩) (Heap.get?_push_of_some _ (Heap.get?_push_of_some _ e))
  · rcases r₂ with e | (v | _ | _ | _) <;> first | exact hr₂ | exact hr₂.elim | skip
    obtain ⟨rfl, h', tk, rfl, ⟨c, hc, hS'⟩, hk'⟩ := hr₂
    repeat (any_goals (first | assumption | wp_step))
    obtain ⟨o, ho, hso⟩ := hS'.objOf
    have hexs : ∀ k, decide (k ∈ (List.range items.size).map fun i => xs.getD i ⟨#[]⟩) = decide (k ∈ xs) := by
      intro k
      have e : (List.range items.size).map (fun i => xs.getD i ⟨#[]⟩) = xs := by
        rw [hi.1]
        apply List.ext_getElem
        · simp
        · intro i h1 h2
          simp [h2]
      rw [e]
    have hso' : o.SetObjOf (strKind prog w) (fun k => decide (k ∈ xs)) c := by
      have : (fun k => decide (k ∈ (List.range items.size).map fun i => xs.getD i ⟨#[]⟩)) = (fun k => decide (k ∈ xs)) := funext hexs
      rw [← this]; exact hso
    obtain ⟨oL, _, _, hL, _⟩ := F.ns
    have hLlt : L < s.heap.objs.size := Heap.lt_size hL
    refine h s.heap.objs.size h' tk o c ⟨F.ns.at' fun o' e => hk' L o' hLlt e, fun b o' e => hk' b o' (Heap.lt_size (F.keep b o' e)) (F.keep b o' e), F.above⟩ (fun p hp => ?_) (fun p hp => Heap.lt_size (N p hp).1) hso' (by unfold scanBound at hb ⊢; omega)
    rcases List.mem_cons.mp hp with rfl | hp
    · refine ⟨ho, Nat.ne_of_gt hLlt, ?_⟩
      cases q : h₀.get? s.heap.objs.size with
      | none => rfl
      | some o' => exact absurd (Heap.lt_size (F.keep _ _ q)) (Nat.lt_irrefl _)
    · exact ⟨hk' _ _ (Heap.lt_size (N p hp).1) (N p hp).1, (N p hp).2⟩
end

end
section
open PySem PySem.W PyProof.Rows PySem.Calls PySem.Spec
set_option maxRecDepth 100000
set_option maxHeartbeats 4000000
theorem md_lookup_get : typeLookup (.type "method_descriptor") "__get__" = pure (some (.builtin "method_descriptor.__get__")) := by rw [typeLookup_type, builtinLookup_eq_fast]; kernel_rfl
theorem md_lookup_set : typeLookup (.type "method_descriptor") "__set__" = pure none := by rw [typeLookup_type, builtinLookup_eq_fast]; kernel_rfl
theorem md_lookup_del : typeLookup (.type "method_descriptor") "__delete__" = pure none := by rw [typeLookup_type, builtinLookup_eq_fast]; kernel_rfl
theorem md_slot_get : Slot "method_descriptor" "__get__" "method_descriptor.__get__" :=
  .of (owner := "method_descriptor") (n := "__get__") md_lookup_get (by decide +kernel) (by decide +kernel) (by decide +kernel)
    (by first | exact .inl (by decide +kernel) | exact .inr (by decide +kernel)) (by rw [isSubtype_type]; kernel_rfl)
theorem md_entry_get : entryFor table "method_descriptor.__get__" = some Builtin.«method_descriptor.__get__» := entryFor_of_tree (by kernel_rfl)
theorem md_args_get (a b c : Value) : argsOk "method_descriptor.__get__" ⟨[a, b, c], []⟩ := by unfold argsOk; kernel_rfl
theorem md_of : typeOf (.builtin "set.__contains__") = pure (.type "method_descriptor") := PySem.F.type_set_contains
theorem md_owner : isSubtype (.type "set") (.type (".".intercalate ("set.__contains__".cutAt '.').dropLast)) = pure true := by
  rw [show ".".intercalate ("set.__contains__".cutAt '.').dropLast = "set" by decide +kernel, isSubtype_type]; kernel_rfl
abbrev bmObj (S : Addr) : Obj := { cls := .type "builtin_function_or_method", data := .fields #[.builtin "set.__contains__", .ref S] }
section
variable {prog : Program} {w : World} {A : Around} {E : Value → Shared → Prop} {h : Heap} {g : Array GenState} {d : Drawn} {t : Nat} {os : OsState} {a : Addr} {o : Obj}
theorem md_get {R : Result → Shared → Prop} (hx : h.get? a = some o) (hc : o.cls = .type "set") (hq : R (.ok (.ret (.ref h.objs.size))) ⟨h.push (bmObj a), g, d, t, os⟩) :
    codeAny (model prog w) A (.call (.builtin "method_descriptor.__get__") ⟨[.builtin "set.__contains__", .ref a, .type "set"], []⟩) R ⟨h, g, d, t, os⟩ := by
  have hT5 : (⟨h, g, d, t, os⟩ : Shared).TypeIs (.builtin "set.__contains__") "method_descriptor" := md_of
  have L0 : Looks (model prog w) h (typeOf (.ref a)) (.type "set") := hc ▸ (Looks.ld hx).andThen .now
  have L1 : Looks (model prog w) h (isSubtype (.type "set") (.type "set")) true := Looks.of_pure sub_set_self
  have ft : Manifest.toldItsClass.contains "set.__contains__" = false := by decide +kernel
  have fo : ".".intercalate ("set.__contains__".cutAt '.').dropLast = "set" := by decide +kernel
  refine codeAny_call_builtin md_slot_get.plain md_entry_get (md_slot_get.check _ _ _ _ _ _ _ _ hT5 (md_args_get _ _ _) ?_)
  unfold Builtin.«method_descriptor.__get__»
  repeat (first | simp only [ft, fo, Bool.false_eq_true, if_false] | lk)
  exact hq
theorem sg_args (a b : Value) : argsOk "set.__getattribute__" ⟨[a, b], []⟩ := PySem.F.args_set_getattribute_2 a b
theorem sg_entry {tk : Tok} {Q : Fin → Shared → Prop} {es : Array (Int × Value)} {ep : Nat} {tb : SetTable} (hx : h.get? a = some { cls := .type "set", dict := none, data := .set es ep tb }) (hq : Q (.done (.ret (.ref h.objs.size))) ⟨h.push (bmObj a), g, d, t, os⟩) :
    wpAny (model prog w) A (Builtin.«object.__getattribute__» ⟨[.ref a, .str "__contains__" tk], []⟩) Q E ⟨h, g, d, t, os⟩ := by
  have L0 : Looks (model prog w) h (typeOf (.ref a)) (.type "set") := (Looks.ld hx).andThen .now
  have L1 : Looks (model prog w) h (typeLookup (.type "set") "__contains__") (some (.builtin "set.__contains__")) := Looks.of_pure PySem.F.slot_set_contains.lookup
  have L2 : Looks (model prog w) h (typeOf (.builtin "set.__contains__")) (.type "method_descriptor") := Looks.of_pure md_of
  have L3 : Looks (model prog w) h (typeLookup (.type "method_descriptor") "__get__") (some (.builtin "method_descriptor.__get__")) := Looks.of_pure md_lookup_get
  have L4 : Looks (model prog w) h (typeLookup (.type "method_descriptor") "__set__") none := Looks.of_pure md_lookup_set
  have L5 : Looks (model prog w) h (typeLookup (.type "method_descriptor") "__delete__") none := Looks.of_pure md_lookup_del
  unfold Builtin.«object.__getattribute__»
  repeat (first | with_reducible refine wpAny_call (md_get hx rfl ?_) | lk)
  exact hq
theorem set_getattr {Q : Value → Shared → Prop} {expr : Bool} {es : Array (Int × Value)} {ep : Nat} {tb : SetTable} (hx : h.get? a = some { cls := .type "set", dict := none, data := .set es ep tb }) (hq : Q (.ref h.objs.size) ⟨h.push (bmObj a), g, d, t + 1, os⟩) :
    wpAny (model prog w) A (getAttr (.ref a) "__contains__" expr) Q E ⟨h, g, d, t, os⟩ := by
  have hT : (⟨h, g, d, t + 1, os⟩ : Shared).TypeIs (.ref a) "set" := ⟨_, hx, rfl⟩
  have L0 : Looks (model prog w) h (typeOf (.ref a)) (.type "set") := (Looks.ld hx).andThen .now
  have L1 : Looks (model prog w) h (typeLookup (.type "set") "__getattribute__") (some (.builtin "set.__getattribute__")) := Looks.of_pure PySem.F.slot_set_getattribute.lookup
  have L2 : Looks (model prog w) h (bindSpecial (.builtin "set.__getattribute__") (.ref a)) (.builtin "set.__getattribute__", [.ref a]) := Looks.of_pure (PySem.F.slot_set_getattribute.bind (.ref a))
  unfold getAttr
  refine wpAny_bind (wpAny_mkText ?_)
  unfold getAttrBy
  refine wpAny_holding (wpAny_bind (L0.at (wpAny_bind (L1.at ?_))))
  show wpAny _ _ (getAttrByItsOwn (.ref a) _ (.type "set") (.builtin "set.__getattribute__") true expr) _ _ _
  unfold getAttrByItsOwn
  refine wpAny_bind (wpAny_pure ?_)
  refine wpAny_bind (wpAny_attempt (wpAny_holding ?_))
  have e : callGetattribute (.ref a) (.str "__contains__" t) (.builtin "set.__getattribute__") expr = boundAndCalled (.builtin "set.__getattribute__") (.ref a) (.str "__contains__" t) := by
    unfold callGetattribute
    rw [if_neg (by cases expr <;> decide)]
  rw [e]
  unfold boundAndCalled
  refine wpAny_bind (L2.at ?_)
  refine wpAny_call (codeAny_call_builtin PySem.F.slot_set_getattribute.plain PySem.F.entry_set_ga (PySem.F.slot_set_getattribute.check _ _ _ _ _ _ _ _ hT (PySem.F.args_set_getattribute_2 _ _) (sg_entry hx ?_)))
  exact wpAny_pure hq
end
theorem sc_sig : Manifest.signature? "set.__contains__" = some ⟨.oneArg, "set.__contains__", "__contains__", .self, [⟨"object", .posOnly, true⟩]⟩ := by
  rw [signature?_of (id := "set.__contains__") (n := ['_', '_', 's', 'n', 'i', 'a', 't', 'n', 'o', 'c', '_', '_']) (o := ['t', 'e', 's']) (by kernel_rfl) PySem.F.owner_set]; kernel_rfl
theorem sc_kind : builtinKind "set.__contains__" = some .method := by kernel_rfl
theorem sc_var : Manifest.varargsMethods.contains "set.__contains__" = false := by decide +kernel
theorem sc_name : s!"{Bind.lastOf "set"}.{Bind.lastOf "set.__contains__"}" = "set.__contains__" := by decide +kernel
theorem sc_nomod : isSubtype (.type "set") (.type "module") = pure false := by rw [isSubtype_type]; kernel_rfl
theorem sc_notype : isSubtype (.type "set") (.type "type") = pure false := by rw [isSubtype_type]; kernel_rfl
theorem sc_plain : plainId "set.__contains__" = true := by decide +kernel
section
variable {prog : Program} {w : World} {A : Around} {E : Value → Shared → Prop} {s : Shared} {bm S : Addr} {x : Str} {t : Tok}
theorem sc_check {M : Model} {v : Value} {Q : Unit → Shared → Prop} {es : Array (Int × Value)} {ep : Nat} {tb : SetTable} (hx : s.heap.get? S = some { cls := .type "set", dict := none, data := .set es ep tb }) (h : Q () s) : wpAny M A (checkBoundCall "set.__contains__" ⟨[.ref S, v], []⟩) Q E s := by
  have ha := PySem.F.args_set_contains_2 (.ref S) v
  have hT : s.TypeIs (.ref S) "set" := ⟨_, hx, rfl⟩
  unfold argsOk at ha
  rw [sc_sig] at ha
  dsimp only at ha
  unfold checkBoundCall
  rw [sc_sig, sc_kind]
  dsimp only
  rw [if_neg (by decide)]
  refine wpAny_bind (wpAny_isInstance hT sc_nomod ?_)
  rw [sc_var]
  rw [if_neg (by decide)]
  have L0 : Looks M s.heap (typeOf (.ref S)) (.type "set") := (Looks.ld hx).andThen .now
  have L1 : Looks M s.heap (isType (.ref S)) false := (Looks.ld hx).andThen .now
  refine wpAny_bind (L1.here ?_)
  refine wpAny_bind (L0.here ?_)
  dsimp only
  rw [sc_name, ha]
  exact wpAny_pure h
theorem bm_call {xs : List Str} {c : Nat} {Q : Value → Shared → Prop} (hb : s.heap.get? bm = some (bmObj S)) (hS : s.heap.SetOf (strKind prog w) S (fun k => decide (k ∈ xs)) c)
    (h : Q (.bool (decide (x ∈ xs))) { s with toks := s.toks + 1 }) : wpAny (model prog w) A (call (.ref bm) [.str x t]) Q E s := by
  have his : (strKind prog w).is x (.str x t) = true := by show (x == x) = true; exact beq_self_eq_true _
  refine wpAny_call (codeAny_of_tree ?_)
  show wpAny _ _ (callAny (.ref bm) ⟨[.str x t], []⟩) _ _ _
  refine nd_load hb ?_
  show wpAny _ _ (checkBoundCall "set.__contains__" ⟨[.ref S, .str x t], []⟩ >>= fun _ => again (.builtin "set.__contains__" ⟨[.ref S, .str x t], []⟩)) _ _ _
  obtain ⟨o, es, ep, tb, ho, ⟨e1, e2, e3⟩, hd, hr0⟩ := id hS
  obtain ⟨oc, od, odt, osl⟩ := o
  dsimp only at e1 e2 e3 hd
  subst e1 e2 e3 hd
  refine wpAny_bind (sc_check ho ?_)
  refine wpAny_pure ⟨Code.quiet_builtin _ (by decide +kernel), codeAny_builtin entry_set_contains ?_⟩
  unfold Builtin.«frozenset.__contains__» Builtin.Frozenset.oneOther
  simp only [List.isEmpty_nil, bind_assoc]
  unfold Builtin.Frozenset.addrOf Builtin.Frozenset.withSetAsKey setContains
  refine wpAny_bind (wpAny_pure ?_)
  try dsimp only
  refine wpAny_bind (wpAny_pure ?_)
  try dsimp only
  refine wpAny_bind (wpAny_tryCatch ?_)
  refine wpAny_holding ?_
  refine wpAny_bind ((strKind prog w).pyHash his ?_)
  refine wpAny_bind (wpAny_setFind_of (s := { s with toks := s.toks + 1 }) his rfl hS fun r hr => ?_)
  refine wpAny_pure ?_
  show wpAny _ _ (ret (Value.bool r.isSome)) _ _ _
  rw [hr]
  exact wpAny_pure h
end

end
section
open PySem PySem.W PyProof.Rows PySem.Calls PySem.Spec
set_option maxRecDepth 100000
set_option maxHeartbeats 4000000
abbrev liObj (l : Addr) (i : Nat) : Obj := { cls := .type "list_iterator", data := .fields #[.ref l, .int i 0] }
abbrev liEnd (i : Nat) : Obj := { cls := .type "list_iterator", data := .fields #[.none, .int i 0] }
section
variable {prog : Program} {w : World} {A : Around} {E : Value → Shared → Prop} {s : Shared} {h₀ : Heap} {L it l : Addr} {m : Str → Option Value} {news pre post : List (Addr × Obj)} {items : Array Value} {i n : Nat} {x : Value}
theorem li_iter {Q : Value → Shared → Prop} (F : Fr h₀ L s.heap m) (N : News h₀ L s.heap news) (hm : (l, listOf items n) ∈ news)
    (h : ∀ I h', Fr h₀ L h' m → News h₀ L h' ((I, liObj l 0) :: news) → (∀ p ∈ news, p.1 < I) → Q (.ref I) { s with heap := h' }) :
    wpAny (model prog w) A (call (.builtin "iter") [.ref l]) Q E s := by
  have hl : s.heap.IsList l items := ⟨_, (N _ hm).1, rfl, _, rfl⟩
  refine call_function_entry (by decide +kernel) (by decide +kernel) kdk_entry_iter (kdk_args_iter _) ?_
  unfold Builtin.«iter»
  refine wpAny_bind (m := someArgs "iter" 1 2 _) (wpAny_of_eq (a := [Value.ref l]) (by first | rfl | kernel_rfl!) ?_)
  show wpAny _ _ (pyIter (.ref l) >>= _) _ _ _
  refine wpAny_bind (wpAny_pyIter_list hl ?_)
  exact wpAny_pure ⟨_, rfl, h _ _ (F.push _) (News.push F N _ rfl) (fun q hq => Heap.lt_size (N q hq).1)⟩
theorem li_item {Q : Value → Shared → Prop} (F : Fr h₀ L s.heap m) (N : News h₀ L s.heap (pre ++ (it, liObj l i) :: post)) (hm : (l, listOf items n) ∈ pre ++ (it, liObj l i) :: post) (h1 : ∀ p ∈ pre, p.1 ≠ it) (h2 : ∀ p ∈ post, p.1 ≠ it) (hx : items[i]? = some x)
    (h : ∀ h', Fr h₀ L h' m → News h₀ L h' (pre ++ (it, liObj l (i + 1)) :: post) → Q x { s with heap := h' }) :
    wpAny (model prog w) A (call (.builtin "next") [.ref it]) Q E s := by
  have ho : s.heap.get? it = some (liObj l i) := (N (it, liObj l i) (by simp)).1
  have hT : s.TypeIs (.ref it) "list_iterator" := ⟨_, ho, rfl⟩
  have hol : s.heap.get? l = some (listOf items n) := (N _ hm).1
  refine call_function_entry (by decide +kernel) (by decide +kernel) kdk_entry_next (kdk_args_next _) ?_
  unfold Builtin.«next»
  refine wpAny_bind (m := someArgs "next" 1 2 _) (wpAny_of_eq (a := [Value.ref it]) (by first | rfl | kernel_rfl!) ?_)
  dsimp only
  refine wpAny_bind (wpAny_specialOf (name := Str.ofString "__next__") hT slot_listiter_next.lookup ?_)
  refine wpAny_ite_split (fun hab => absurd hab (by decide)) (fun _ => ?_)
  refine wpAny_bind (wpAny_callSpecial?_slot (name := Str.ofString "__next__") hT slot_listiter_next
    (wpAny_call_entry slot_listiter_next hT entry_listiter_next ?_ (args_listiter_next _)))
  show wpAny _ _ (field (.ref it) 0 >>= _) _ _ s
  refine wpAny_bind (wpAny_field ho rfl (x := .ref l) rfl ?_)
  show wpAny _ _ (if (Value.ref l == Value.none) = true then _ else _) _ _ s
  rw [if_neg (show ¬ ((Value.ref l == Value.none) = true) from Bool.false_ne_true)]
  show wpAny _ _ (field (.ref it) 1 >>= _) _ _ s
  refine wpAny_bind (wpAny_field ho rfl (x := .int i 0) rfl ?_)
  show wpAny _ _ (seqItems? (.ref l) >>= _) _ _ s
  refine wpAny_bind (wpAny_seqItems hol rfl ?_)
  simp only [Int.toNat_natCast, hx]
  refine wpAny_bind (wpAny_setField ho rfl (by simp) (wpAny_pure ⟨x, rfl, wpAny_pure ⟨_, rfl, ?_⟩⟩))
  obtain ⟨F1, N1⟩ := news_upd (pre := pre) (post := post) (o := liObj l i) (o' := liObj l (i + 1)) (f := Obj.mapFields (·.setIfInBounds 1 (rawInt ((i : Int) + 1)))) F N h1 h2 rfl rfl
  exact h _ F1 N1
theorem li_end {Q : Value → Shared → Prop} (hh : A.handled = none) (F : Fr h₀ L s.heap m) (N : News h₀ L s.heap (pre ++ (it, liObj l i) :: post)) (hm : (l, listOf items n) ∈ pre ++ (it, liObj l i) :: post) (h1 : ∀ p ∈ pre, p.1 ≠ it) (h2 : ∀ p ∈ post, p.1 ≠ it) (hx : items[i]? = none)
    (h : ∀ h' h'' e, Fr h₀ L h' m → News h₀ L h' (pre ++ (it, liEnd i) :: post) → Heap.NewExc h' h'' e "StopIteration" → E (.ref e) { s with heap := h'' }) :
    wpAny (model prog w) A (call (.builtin "next") [.ref it]) Q E s := by
  have ho : s.heap.get? it = some (liObj l i) := (N (it, liObj l i) (by simp)).1
  have hT : s.TypeIs (.ref it) "list_iterator" := ⟨_, ho, rfl⟩
  have hol : s.heap.get? l = some (listOf items n) := (N _ hm).1
  refine call_function_entry (by decide +kernel) (by decide +kernel) kdk_entry_next (kdk_args_next _) ?_
  unfold Builtin.«next»
  refine wpAny_bind (m := someArgs "next" 1 2 _) (wpAny_of_eq (a := [Value.ref it]) (by first | rfl | kernel_rfl!) ?_)
  dsimp only
  refine wpAny_bind (wpAny_specialOf (name := Str.ofString "__next__") hT slot_listiter_next.lookup ?_)
  refine wpAny_ite_split (fun hab => absurd hab (by decide)) (fun _ => ?_)
  refine wpAny_bind (wpAny_callSpecial?_slot (name := Str.ofString "__next__") hT slot_listiter_next
    (wpAny_call_entry slot_listiter_next hT entry_listiter_next ?_ (args_listiter_next _)))
  show wpAny _ _ (field (.ref it) 0 >>= _) _ _ s
  refine wpAny_bind (wpAny_field ho rfl (x := .ref l) rfl ?_)
  show wpAny _ _ (if (Value.ref l == Value.none) = true then _ else _) _ _ s
  rw [if_neg (show ¬ ((Value.ref l == Value.none) = true) from Bool.false_ne_true)]
  show wpAny _ _ (field (.ref it) 1 >>= _) _ _ s
  refine wpAny_bind (wpAny_field ho rfl (x := .int i 0) rfl ?_)
  show wpAny _ _ (seqItems? (.ref l) >>= _) _ _ s
  refine wpAny_bind (wpAny_seqItems hol rfl ?_)
  simp only [Int.toNat_natCast, hx]
  refine wpAny_bind (wpAny_rule (wpAny_bind (wpAny_setField ho rfl (by simp) ?_)))
  obtain ⟨F1, N1⟩ := news_upd (pre := pre) (post := post) (o := liObj l i) (o' := liEnd i) (f := Obj.mapFields (·.setIfInBounds 0 .none)) F N h1 h2 rfl rfl
  show wpAny _ _ (newExc (.type "StopIteration") [] >>= _) _ _ _
  refine wpAny_bind ?_
  simp only [newExc, newTuple]
  refine wpAny_bind (wpAny_newObj_type ?_ (by size_fits))
  refine wpAny_bind (m := firstArgMember _ _) (wpAny_of_eq (a := Value.none) (by first | rfl | (simp only [firstArgMember]; rfl)) ?_)
  refine wpAny_newObj_type ?_ (by size_fits)
  simp only [raiseNew]
  refine wpAny_bind (wpAny_handled ?_)
  rw [show A.in1.in1.handled = none from hh]
  refine wpAny_bind (wpAny_pure (wpAny_throw ?_))
  refine h _ _ _ F1 N1 ⟨fun b o e => Heap.get?_push_of_some _ (Heap.get?_push_of_some _ e), Heap.get?_none_of_le ?_, ⟨_, _, Heap.get?_push_size _ rfl, rfl, rfl⟩⟩
  rw [Heap.size_push]
  exact Nat.le_succ _
end

end
section
open PySem PySem.W PyProof.Rows PySem.Calls PySem.Spec
set_option maxRecDepth 100000
set_option maxHeartbeats 4000000
abbrev ffObj (dx : Addr) (sl : Array (Option Value)) : Obj := { cls := .ref 785, dict := some dx, data := .plain, slots := sl }
theorem lookup785 (P : Params) : (KF P).lookup 785 = some (o785 P) := by kernel_rfl
theorem f_sa785 (P : Params) : findIn (KF P) (.ref 785) "__setattr__" = some (some (.builtin "object.__setattr__")) := by kernel_rfl
theorem f_ga785 (P : Params) : findIn (KF P) (.ref 785) "__getattribute__" = some (some (.builtin "object.__getattribute__")) := by kernel_rfl
theorem f_gh785 (P : Params) : findIn (KF P) (.ref 785) "__getattr__" = some none := by kernel_rfl
theorem f_po785 (P : Params) : plainOver (KF P) 785 = true := by kernel_rfl
theorem f_ti785 (P : Params) : takerIn (KF P) 785 "_it" = some (some (.ref 787)) := by kernel_rfl
theorem f_tf785 (P : Params) : takerIn (KF P) 785 "_func" = some (some (.ref 786)) := by kernel_rfl
theorem f_ty787 (P : Params) : typeIn (KF P) (.ref 787) = some (.type "member_descriptor") := by kernel_rfl
theorem f_ty786 (P : Params) : typeIn (KF P) (.ref 786) = some (.type "member_descriptor") := by kernel_rfl
theorem f_sl787 (P : Params) : slotIn (KF P) 787 785 = some 1 := by kernel_rfl
theorem f_sl786 (P : Params) : slotIn (KF P) 786 785 = some 0 := by kernel_rfl
theorem f_pg785 (P : Params) (n : Str) : plainGet (KF P) 785 n = true := by kernel_rfl
theorem f_cl785 (P : Params) : isClsIn (KF P) 785 = true := by kernel_rfl
theorem f_ai785 (P : Params) : findIn (KF P) (.ref 785) "_it" = some (some (.ref 787)) := by kernel_rfl
theorem f_af785 (P : Params) : findIn (KF P) (.ref 785) "_func" = some (some (.ref 786)) := by kernel_rfl
theorem f_gi787 (P : Params) : specialIn (KF P) (.ref 787) "__get__" = some (some (.builtin "member_descriptor.__get__")) := by kernel_rfl
theorem f_gi786 (P : Params) : specialIn (KF P) (.ref 786) "__get__" = some (some (.builtin "member_descriptor.__get__")) := by kernel_rfl
theorem f_tk787 (P : Params) : takesIn (KF P) (.ref 787) = some true := by kernel_rfl
theorem f_tk786 (P : Params) : takesIn (KF P) (.ref 786) = some true := by kernel_rfl
section
variable {w : World} {A : Around} {E : Value → Shared → Prop} {s : Shared} {h₀ : Heap} {L x dx : Addr} {m : Str → Option Value} {news news' : List (Addr × Obj)} {sl : Array (Option Value)} {od : Obj}
theorem ff_inst {h : Heap} (N : News h₀ L h news) (hm : (x, ffObj dx sl) ∈ news) (hd : (dx, od) ∈ news) : InstAt h x (ffObj dx sl) 785 (some od) := ⟨(N _ hm).1, rfl, rfl, (N _ hd).1⟩
theorem ff_set_it {v : Value} {Q : Unit → Shared → Prop} (F : Fr h₀ L s.heap m) (X₀ : (KF w.params).In h₀) (N : News h₀ L s.heap news) (hm : (x, instObj 785 dx) ∈ news) (hd : (dx, od) ∈ news) (U : Upd x (instObj 785 dx) (ffObj dx #[none, some v]) news news')
    (h : ∀ h', Fr h₀ L h' m → News h₀ L h' news' → Q () { s with heap := h', toks := s.toks + 1 }) :
    wpAny (model PySem.Challenge.rw_ij0131_01.row.prog w) A (setAttr (.ref x) "_it" v) Q E s :=
  set_slot (K := KF w.params) (C := 785) (p := 787) (i := 1) F X₀ N (ff_inst N hm hd) (f_sa785 _) (f_po785 _) (f_ti785 _) (f_ty787 _) (f_sl787 _) (by decide) rfl rfl U h
theorem ff_set_func {v u : Value} {Q : Unit → Shared → Prop} (F : Fr h₀ L s.heap m) (X₀ : (KF w.params).In h₀) (N : News h₀ L s.heap news) (hm : (x, ffObj dx #[none, some u]) ∈ news) (hd : (dx, od) ∈ news) (U : Upd x (ffObj dx #[none, some u]) (ffObj dx #[some v, some u]) news news')
    (h : ∀ h', Fr h₀ L h' m → News h₀ L h' news' → Q () { s with heap := h', toks := s.toks + 1 }) :
    wpAny (model PySem.Challenge.rw_ij0131_01.row.prog w) A (setAttr (.ref x) "_func" v) Q E s :=
  set_slot (K := KF w.params) (C := 785) (p := 786) (i := 0) F X₀ N (ff_inst N hm hd) (f_sa785 _) (f_po785 _) (f_tf785 _) (f_ty786 _) (f_sl786 _) (by decide) rfl rfl U h
theorem ff_get_it {f it : Addr} {expr : Bool} {Q : Value → Shared → Prop} (F : Fr h₀ L s.heap m) (X₀ : (KF w.params).In h₀) (N : News h₀ L s.heap news) (hm : (x, ffObj dx #[some (.ref f), some (.ref it)]) ∈ news) (hd : (dx, od) ∈ news) (h : Q (.ref it) { s with toks := s.toks + 1 }) :
    wpAny (model PySem.Challenge.rw_ij0131_01.row.prog w) A (getAttr (.ref x) "_it" expr) Q E s :=
  get_slot (K := KF w.params) (C := 785) (p := 787) (i := 1) F X₀ (ff_inst N hm hd) (f_pg785 _ _) (f_cl785 _) (f_ai785 _) (f_gi787 _) (f_tk787 _) (f_sl787 _) rfl rfl h
theorem ff_get_func {f it : Addr} {expr : Bool} {Q : Value → Shared → Prop} (F : Fr h₀ L s.heap m) (X₀ : (KF w.params).In h₀) (N : News h₀ L s.heap news) (hm : (x, ffObj dx #[some (.ref f), some (.ref it)]) ∈ news) (hd : (dx, od) ∈ news) (h : Q (.ref f) { s with toks := s.toks + 1 }) :
    wpAny (model PySem.Challenge.rw_ij0131_01.row.prog w) A (getAttr (.ref x) "_func" expr) Q E s :=
  get_slot (K := KF w.params) (C := 785) (p := 786) (i := 0) F X₀ (ff_inst N hm hd) (f_pg785 _ _) (f_cl785 _) (f_af785 _) (f_gi786 _) (f_tk786 _) (f_sl786 _) rfl rfl h
end

end
section
open PySem PySem.W PyProof.Rows PySem.Calls
set_option maxRecDepth 100000
set_option maxHeartbeats 8000000

theorem set_rule {prog : Program} {w : World} {A : Around} {E : Value → Shared → Prop} {s : Shared} {h₀ : Heap} {L : Addr} {m : Str → Option Value} {news : List (Addr × Obj)} {l : Addr} {items : Array Value} {n : Nat} {ys : List Str} {Q : Value → Shared → Prop}
    (F : Fr h₀ L s.heap m) (N : News h₀ L s.heap news) (hm : (l, listOf items n) ∈ news) (hh : A.handled = none) (hi : StrsAt items ys) (hb : items.size ≤ 1000)
    (h : ∀ S h' tk o c, Fr h₀ L h' m → News h₀ L h' ((S, o) :: news) → (∀ p ∈ news, p.1 < S) → o.SetObjOf (strKind prog w) (fun k => decide (k ∈ ys)) c → c < scanBound → Q (.ref S) { s with heap := h', toks := tk }) :
    wpAny (model prog w) A (call (.type "set") [.ref l]) Q E s := set_of_strs hh ⟨_, (N _ hm).1, rfl, _, rfl⟩ hi (by unfold scanBound; omega) F N h
theorem setat_rule {prog : Program} {w : World} {A : Around} {E : Value → Shared → Prop} {s : Shared} {h₀ : Heap} {L S : Addr} {m : Str → Option Value} {news : List (Addr × Obj)} {o : Obj} {f : Str → Bool} {c : Nat} {expr : Bool} {Q : Value → Shared → Prop}
    (F : Fr h₀ L s.heap m) (N : News h₀ L s.heap news) (hm : (S, o) ∈ news) (ho : o.SetObjOf (strKind prog w) f c)
    (h : ∀ bm h', Fr h₀ L h' m → News h₀ L h' ((bm, bmObj S) :: news) → (∀ p ∈ news, p.1 < bm) → Q (.ref bm) { s with heap := h', toks := s.toks + 1 }) :
    wpAny (model prog w) A (getAttr (.ref S) "__contains__" expr) Q E s := by
  obtain ⟨⟨e1, e2, e3⟩, es, ep, tb, hd, _⟩ := ho
  obtain ⟨oc, od, odt, osl⟩ := o
  dsimp only at e1 e2 e3 hd
  subst e1 e2 e3 hd
  obtain ⟨hh, g, d, t, os⟩ := s
  refine set_getattr (N _ hm).1 ?_
  exact h _ _ (F.push _) (News.push F N _ (by rfl)) (fun p hp => Heap.lt_size (N p hp).1)
local macro_rules | `(tactic| walk_at "call builtin:iter") => `(tactic| (k_here; (with_reducible show wpAny _ _ (call (Value.builtin "iter") [Value.ref _]) _ _ _); k_dflt (refine' li_iter ?k1 ?k2 ?k3 ?_; (case k1 => k_asm); (case k2 => k_asm); (case k3 => (first | k_mem | (repeat (first | assumption | refine List.Mem.tail _ ?_)))); k_whole); intro a' h' F' N' l1; (try k_lt l1); (try k_sweep)))
local macro_rules | `(tactic| walk_at "call type:set cons nil") => `(tactic| (k_here; (with_reducible show wpAny _ _ (call (Value.type "set") [Value.ref _]) _ _ _); k_dflt (refine' set_rule ?k1 ?k2 ?k3 ?k4 ?k5 ?k6 ?_; (case k1 => k_asm); (case k2 => k_asm); (case k3 => (first | k_mem | (repeat (first | assumption | refine List.Mem.tail _ ?_)))); (case k4 => exact rfl); (case k5 => assumption); (case k6 => assumption); k_whole); intro a' h' tk' o' c' F' N' l1 so' sb'; (try k_lt l1); (try k_sweep)))
local macro_rules | `(tactic| walk_at "getAttr ref") => `(tactic| (k_here; (with_reducible show wpAny _ _ (getAttr (Value.ref _) (Str.ofString "__contains__") _) _ _ _); k_dflt (refine' setat_rule ?k1 ?k2 ?k3 ?k4 ?_; (case k1 => k_asm); (case k2 => k_asm); (case k3 => (first | k_mem | (repeat (first | assumption | refine List.Mem.tail _ ?_)))); (case k4 => assumption); k_whole); intro a' h' F' N' l1; (try k_lt l1); (try k_sweep)))
theorem ne_above {S x : Addr} {l : List (Addr × Obj)} (h : ∀ p ∈ l, p.1 < S) (h2 : @LT.lt Nat _ S x) : ∀ p ∈ l, p.1 ≠ x := fun p hp e => Nat.lt_irrefl x (Nat.lt_trans (e ▸ h p hp) h2)
local macro_rules | `(tactic| k_all) => `(tactic| (refine' ne_above ?a ?b; (case a => assumption); (case b => omega)))
local macro_rules | `(tactic| walk_at "setAttr ref") => `(tactic| (k_here; (with_reducible show wpAny _ _ (setAttr (Value.ref _) (Str.ofString "_it") _) _ _ _); k_dflt (refine' ff_set_it ?k1 ?k2 ?k3 ?k4 ?k5 ?k6 ?_; (case k1 => k_asm); (case k2 => k_asm); (case k3 => k_asm); (case k4 => k_mem); (case k5 => k_mem); (case k6 => k_upd); k_whole); intro h' F' N'; (try k_sweep)))
local macro_rules | `(tactic| walk_at "setAttr ref") => `(tactic| (k_here; (with_reducible show wpAny _ _ (setAttr (Value.ref _) (Str.ofString "_func") _) _ _ _); k_dflt (refine' ff_set_func ?k1 ?k2 ?k3 ?k4 ?k5 ?k6 ?_; (case k1 => k_asm); (case k2 => k_asm); (case k3 => k_asm); (case k4 => k_mem); (case k5 => k_mem); (case k6 => k_upd); k_whole); intro h' F' N'; (try k_sweep)))

theorem c_diff {w : World} {ml su : Addr} {vs1 vs2 : Array Value} {n1 n2 : Nat} {ys : List Str} (hi : StrsAt vs2 ys) (hb : vs2.size ≤ 1000) (hb1 : vs1.size ≤ 1000) (dp un : Nat) (gd : Option (List Code)) (cn : Str) (cs : Scope) (a : Addr) (ccd : Value) (cl : List (Str × Addr)) (outer : List Env) (A₀ : Around) (base h₀ : Heap) (L : Addr) (m : Str → Option Value) (news : List (Addr × Obj)) (s : Shared)
    (mean : ExcName → Option Value) (mg mb : Str → Option Value) (Q E : Value → Shared → Prop) (hm1 : (ml, listOf vs1 n1) ∈ news) (hm2 : (su, listOf vs2 n2) ∈ news)
    (B : Below A₀ base outer h₀) (F : Fr h₀ L s.heap m) (X : (KF w.params).In h₀) (N : News h₀ L s.heap news) (T : Top qv (looseW qv lo) mean mg mb h₀) (hk : cs.kind = .function) (hd : dp + 6 < recursionLimit) (hu : un + 96 < cLine)
    (hret : ∀ S o c bm dx x it h' tk', Fr h₀ L h' m → News h₀ L h' ((it, liObj ml 0) :: (x, ffObj dx #[some (.ref bm), some (.ref it)]) :: (dx, dictOf [] 0) :: (bm, bmObj S) :: (S, o) :: news) → o.SetObjOf (PySem.strKind PySem.Challenge.rw_ij0131_01.row.prog w) (fun k => decide (k ∈ ys)) c → c < scanBound → (∀ p ∈ news, p.1 < S) → @LT.lt Nat _ S bm → @LT.lt Nat _ bm dx → @LT.lt Nat _ dx x → @LT.lt Nat _ x it → Q (.ref x) { s with heap := h', toks := tk' }) :
    wpAny (model PySem.Challenge.rw_ij0131_01.row.prog w) (ktrTop dp un gd cn cs L a ccd cl outer) (call (.ref 796) [.ref ml, .ref su]) Q E s := by
  have hl2 : s.heap.IsList su vs2 := ⟨_, (N _ hm2).1, rfl, _, rfl⟩
  have hl1 : s.heap.IsList ml vs1 := ⟨_, (N _ hm1).1, rfl, _, rfl⟩
  revert X
  k_fill
  intro X
  refine wpAny_call ?_
  refine' code_def (binds := [(Str.ofString "minuend", Value.ref ml), (Str.ofString "subtrahend", Value.ref su)]) ?k1 ?k2 ?k3 ?k4 ?k5 ?kA ?kF ?kK ?k6 ?k7 ?k8 ?k9 ?kB ?_ ?c2 ?c3 ?c4 ?c5
  case kA => exact rfl
  case kF => exact rfl
  case kK => assumption
  case k1 => k_asm
  case k2 => k_asm
  case k3 => k_asm
  case k4 => k_asm
  case k5 => k_asm
  case k6 => k_is
  case k7 => k_is
  case k8 => ktr_room
  case k9 => first | exact BindsTo.of_eq rfl | exact binds_K (by k_in) rfl (by k_is) rfl rfl rfl
  case c5 => decide
  case kB => exact locs rfl
  case c2 => exact rfl
  case c3 => exact rfl
  case c4 => exact rfl
  k_whole
  intro g' L' h' FG' F' N' B' X' T'
  try dsimp only
  try k_lift B'
  try k_fold
  k_steps
  exact hret _ _ _ _ _ _ _ _ _ (by assumption) (by assumption) (by assumption) (by assumption) (by assumption) (by omega) (by omega) (by omega) (by omega)

end
section
open PySem PySem.W PyProof.Rows PySem.Calls
set_option maxRecDepth 100000
set_option maxHeartbeats 8000000

theorem bm_rule {prog : Program} {w : World} {A : Around} {E : Value → Shared → Prop} {s : Shared} {h₀ : Heap} {L bm S : Addr} {m : Str → Option Value} {news : List (Addr × Obj)} {o : Obj} {xs : List Str} {c : Nat} {x : Str} {t : Tok} {Q : Value → Shared → Prop}
    (N : News h₀ L s.heap news) (hb : (bm, bmObj S) ∈ news) (hm : (S, o) ∈ news) (ho : o.SetObjOf (PySem.strKind prog w) (fun k => decide (k ∈ xs)) c) (hc : c < scanBound)
    (h : Q (.bool (decide (x ∈ xs))) { s with toks := s.toks + 1 }) : wpAny (model prog w) A (call (.ref bm) [.str x t]) Q E s :=
  bm_call (N _ hb).1 (ho.setOf (N _ hm).1 hc) h
theorem raised_backN {base g₀ g h' : Heap} {A₀ : Around} {outer : List Env} {L a : Addr} {cn : Str} {cs : Scope} {ccd : Value} {cl : List (Str × Addr)} {e : Addr} {m : Str → Option Value} {news : List (Addr × Obj)} (R : RaisedSN base g (envX cn cs L a ccd cl :: outer) e (.type "StopIteration") news h') (U : g.UpToSlots h') (F : Fr g₀ L g m) (B : Below A₀ base outer g₀) :
    ∃ g₂, KtsTurn (outer.filterMap (·.frame)) g₀ g₂ ∧ Fr g₂ L h' m ∧ Below A₀ base outer g₂ ∧ News g₂ L h' news ∧ (∃ ob, h'.get? e = some ob ∧ ob.cls = .type "StopIteration") := by
  obtain ⟨B', a0, hB, hBG, hl, hfl⟩ := R
  have hL : B'.get? L = none := by
    obtain ⟨_, ⟨L', _, hf, hn', _⟩, _⟩ := hfl.2.2.1
    obtain rfl : L = L' := Option.some.inj hf
    exact hn'
  obtain ⟨g₂, T₂, F₂, K₂⟩ := kts_ground (name := cn) (scope := cs) (a := a) (cd := ccd) B F (fun b o e nm => hBG b o e nm) hfl.1 U
  refine ⟨g₂, T₂, F₂, K₂, fun q hq => ⟨hfl.1 _ _ (hl q hq).1, (fun z => by have := (hl q hq).1; rw [z, hL] at this; cases this), T₂.none_ _ (kts_none F.keep (hl q hq).2.1)⟩, hfl.there⟩
theorem bm_with {w : World} {A : Around} {E : Value → Shared → Prop} {s : Shared} {bm S : Addr} {h₀ : Heap} {L : Addr} {news : List (Addr × Obj)} {env : Env} {pos : Pos} {first : List Value} {e : Expr} {rest : List Expr} {Q : Value → Shared → Prop} (N : News h₀ L s.heap news) (hm : (bm, bmObj S) ∈ news)
    (h : wpAny (model PySem.Challenge.rw_ij0131_01.row.prog w) A (spliced (backTo pos (starEach (e :: rest) env))) (fun vs s₁ => s₁.heap.get? bm = some (bmObj S) ∧ wpAny (model PySem.Challenge.rw_ij0131_01.row.prog w) A (call (.ref bm) (first ++ vs)) Q E s₁) E s)
    (he : starEach (e :: rest) env = (false, eval e env) :: starEach rest env := by rfl) (hplain : (backTo pos (starEach rest env)).any (·.1) = false := by rfl) :
    wpAny (model PySem.Challenge.rw_ij0131_01.row.prog w) A (callWith pos (.ref bm) first (backTo pos (starEach (e :: rest) env)) []) Q E s := by
  rw [he] at h ⊢
  exact callWith_of (P := fun h => h.get? bm = some (bmObj S)) (by show ((false || (backTo pos (starEach rest env)).any (·.1)) || false) = false; rw [hplain]; rfl)
    (fun h hx => ⟨.machine, .inr (.inl rfl), (Looks.ld hx).andThen .now⟩) (evalArgs_plain h)
local macro_rules | `(tactic| walk_at "callWith ref") => `(tactic| (k_here; (with_reducible show wpAny _ _ (callWith _ (Value.ref _) _ _ _) _ _ _); k_dflt (refine' bm_with ?k1 ?k2 ?_; (case k1 => k_asm); (case k2 => k_mem); k_whole)))
local macro_rules | `(tactic| walk_at "And") => `(tactic| (k_here; refine And.intro (by first | exact (by assumption : News _ _ _ _) _ (by k_mem) |>.1 | exact ((by assumption : News _ _ _ _) (_, bmObj _) (by k_mem)).1) ?_))
local macro_rules | `(tactic| k_all) => `(tactic| (refine' ne_above ?a ?b; (case a => assumption); (case b => omega)))
local macro_rules | `(tactic| walk_at "getAttr ref") => `(tactic| (k_here; (with_reducible show wpAny _ _ (getAttr (Value.ref _) (Str.ofString "_func") _) _ _ _); k_dflt (refine' ff_get_func ?k1 ?k2 ?k3 ?k4 ?k5 ?_; (case k1 => k_asm); (case k2 => k_asm); (case k3 => k_asm); (case k4 => k_mem); (case k5 => k_mem); k_whole)))
local macro_rules | `(tactic| walk_at "getAttr ref") => `(tactic| (k_here; (with_reducible show wpAny _ _ (getAttr (Value.ref _) (Str.ofString "_it") _) _ _ _); k_dflt (refine' ff_get_it ?k1 ?k2 ?k3 ?k4 ?k5 ?_; (case k1 => k_asm); (case k2 => k_asm); (case k3 => k_asm); (case k4 => k_mem); (case k5 => k_mem); k_whole)))
local macro_rules | `(tactic| walk_at "call ref") => `(tactic| (k_here; (with_reducible show wpAny _ _ (call (Value.ref _) [Value.str _ _]) _ _ _); k_dflt (refine' bm_rule ?k1 ?k2 ?k3 ?k4 ?k5 ?_; (case k1 => k_asm); (case k2 => k_mem); (case k3 => k_mem); (case k4 => assumption); (case k5 => assumption); k_whole)))
local macro_rules | `(tactic| walk_at "exec While") => `(tactic| (k_here; refine whl_start 0 ?_; unfold WhlRest))
local macro_rules | `(tactic| walk_at "leaving ref") => `(tactic| (k_here; (refine' leave_newS ?k1 ?k0 ?k2 ?k3 ?_; (case k0 => assumption); (case k2 => assumption); (case k1 => assumption); (case k3 => assumption); k_whole; intro h' S' R' U'; (try dsimp only at S' R' U' ⊢))))
local macro_rules | `(tactic| walk_at "call builtin:next") => `(tactic| (k_here; (with_reducible show wpAny _ _ (call (Value.builtin "next") [Value.ref _]) _ _ _); k_dflt (refine' li_end (pre := []) ?k0 ?k1 ?k2 ?k3 ?k4 ?k5 ?k6 ?_; (case k0 => exact rfl); (case k2 => (rename News _ _ _ ((_, liObj _ _) :: _) => kNN; exact kNN)); (case k1 => k_asm); (case k3 => (repeat (first | assumption | refine List.Mem.tail _ ?_))); (case k4 => exact (fun _ hp => nomatch hp)); (case k5 => assumption); (case k6 => assumption); k_whole); intro h' h'' e' F' N' X'; (try simp only [List.nil_append] at N')))
local macro_rules | `(tactic| walk_at "call builtin:next") => `(tactic| (k_here; (with_reducible show wpAny _ _ (call (Value.builtin "next") [Value.ref _]) _ _ _); k_dflt (refine' li_item (pre := []) ?k1 ?k2 ?k3 ?k4 ?k5 ?k6 ?_; (case k2 => (rename News _ _ _ ((_, liObj _ _) :: _) => kNN; exact kNN)); (case k1 => k_asm); (case k3 => (repeat (first | assumption | refine List.Mem.tail _ ?_))); (case k4 => exact (fun _ hp => nomatch hp)); (case k5 => assumption); (case k6 => assumption); k_whole); intro h' F' N'; (try simp only [List.nil_append] at N'); (try k_sweep)))

abbrev mFF (x bm : Addr) (iv : Option Value) : Str → Option Value := fun y => if y = Str.ofString "item" then iv else if y = Str.ofString "func" then some (.ref bm) else if y = Str.ofString "self" then some (.ref x) else none
theorem c_ffnext {w : World} {ml S bm dx x it : Addr} {o : Obj} {c : Nat} {news : List (Addr × Obj)} {vs1 : Array Value} {xs ys : List Str} (i : Nat) (hil : i ≤ xs.length) (hi : StrsAt vs1 xs) (hm1 : ∃ n, (ml, listOf vs1 n) ∈ news) (ho : o.SetObjOf (PySem.strKind PySem.Challenge.rw_ij0131_01.row.prog w) (fun k => decide (k ∈ ys)) c) (hc : c < scanBound)
    (dp un : Nat) (gd : Option (List Code)) (cn : Str) (cs : Scope) (a : Addr) (ccd : Value) (cl : List (Str × Addr)) (outer : List Env) (A₀ : Around) (base h₀ : Heap) (L : Addr) (m : Str → Option Value) (s : Shared)
    (mean : ExcName → Option Value) (mg mb : Str → Option Value) (Q E : Value → Shared → Prop) (lS : ∀ p ∈ news, p.1 ≠ it) (l1 : @LT.lt Nat _ S bm) (l2 : @LT.lt Nat _ bm dx) (l3 : @LT.lt Nat _ dx x) (l4 : @LT.lt Nat _ x it)
    (B : Below A₀ base outer h₀) (F : Fr h₀ L s.heap m) (X : (KF w.params).In h₀) (N : News h₀ L s.heap ((it, liObj ml i) :: (x, ffObj dx #[some (.ref bm), some (.ref it)]) :: (dx, dictOf [] 0) :: (bm, bmObj S) :: (S, o) :: news)) (T : Top qv (looseW qv lo) mean mg mb h₀) (hk : cs.kind = .function) (hd : dp + 2 < recursionLimit) (hu : un + 32 < cLine)
    (hret : ∀ j t h' tk', i ≤ j → j < xs.length → (∀ k, i ≤ k → k < j → xs.getD k ⟨#[]⟩ ∈ ys) → xs.getD j ⟨#[]⟩ ∉ ys → Fr h₀ L h' m → News h₀ L h' ((it, liObj ml (j + 1)) :: (x, ffObj dx #[some (.ref bm), some (.ref it)]) :: (dx, dictOf [] 0) :: (bm, bmObj S) :: (S, o) :: news) → Q (.str (xs.getD j ⟨#[]⟩) t) { s with heap := h', toks := tk' })
    (hexc : ∀ h' tk' e g₂ j, (∀ k, i ≤ k → k < xs.length → xs.getD k ⟨#[]⟩ ∈ ys) → KtsTurn (outer.filterMap (·.frame)) h₀ g₂ → Fr g₂ L h' m → Below A₀ base outer g₂ → News g₂ L h' ((it, liEnd j) :: (x, ffObj dx #[some (.ref bm), some (.ref it)]) :: (dx, dictOf [] 0) :: (bm, bmObj S) :: (S, o) :: news) → (∃ ob, h'.get? e = some ob ∧ ob.cls = .type "StopIteration") → E (.ref e) { s with heap := h', toks := tk' }) :
    wpAny (model PySem.Challenge.rw_ij0131_01.row.prog w) (ktrTop dp un gd cn cs L a ccd cl outer) (call (.ref 781) [.ref x]) Q E s := by
  obtain ⟨n1, hm1⟩ := hm1
  have hpost : ∀ p ∈ (x, ffObj dx #[some (.ref bm), some (.ref it)]) :: (dx, dictOf [] 0) :: (bm, bmObj S) :: (S, o) :: news, p.1 ≠ it := by
    intro p hp
    simp only [List.mem_cons] at hp
    rcases hp with rfl | rfl | rfl | rfl | hp
    · exact Nat.ne_of_lt l4
    · exact Nat.ne_of_lt (Nat.lt_trans l3 l4)
    · exact Nat.ne_of_lt (Nat.lt_trans l2 (Nat.lt_trans l3 l4))
    · exact Nat.ne_of_lt (Nat.lt_trans l1 (Nat.lt_trans l2 (Nat.lt_trans l3 l4)))
    · exact lS p hp
  revert X
  k_fill
  intro X
  refine wpAny_call ?_
  refine' code_def (binds := [(Str.ofString "self", Value.ref x)]) ?k1 ?k2 ?k3 ?k4 ?k5 ?kA ?kF ?kK ?k6 ?k7 ?k8 ?k9 ?kB ?_ ?c2 ?c3 ?c4 ?c5
  case kA => exact rfl
  case kF => exact rfl
  case kK => assumption
  case k1 => k_asm
  case k2 => k_asm
  case k3 => k_asm
  case k4 => k_asm
  case k5 => k_asm
  case k6 => k_is
  case k7 => k_is
  case k8 => ktr_room
  case k9 => first | exact BindsTo.of_eq rfl | exact binds_K (by k_in) rfl (by k_is) rfl rfl rfl
  case c5 => decide
  case kB => exact locs rfl
  case c2 => exact rfl
  case c3 => exact rfl
  case c4 => exact rfl
  k_whole
  intro g' L' h' FG' F' N' B' X' T'
  try dsimp only
  try k_lift B'
  try k_fold
  k_steps
  rename Fr g' L' _ _ => FF
  rename News g' L' _ (_ :: _) => NN
  refine whl_data (D := Nat) (size := fun j => xs.length - j) (I := fun j s' => j ≤ xs.length ∧ ∃ (hh : Heap) (tk : Nat) (iv : Option Value), s' = { s with heap := hh, toks := tk } ∧ Fr g' L' hh (mFF x bm iv) ∧ News g' L' hh ((it, liObj ml j) :: (x, ffObj dx #[some (.ref bm), some (.ref it)]) :: (dx, dictOf [] 0) :: (bm, bmObj S) :: (S, o) :: news) ∧ i ≤ j ∧ (∀ k, i ≤ k → k < j → xs.getD k ⟨#[]⟩ ∈ ys)) ?hE ?turn (xs.length - i) i _ (Nat.le_refl _) ?init
  case hE => first | passes_own | with_unfolding_all passes_own
  case init =>
    refine ⟨hil, _, _, none, rfl, fr_same FF ?e, NN, Nat.le_refl _, fun k h1 h2 => absurd h2 (by omega)⟩
    case e =>
      intro y
      by_cases h1 : y = Str.ofString "func"
      · subst h1; exact rfl
      by_cases h2 : y = Str.ofString "self"
      · subst h2; rfl
      simp [mFF, h1, h2, List.lookup, beq_eq_false_iff_ne.mpr h2]
  case turn =>
    clear NN FF
    rintro j s' ⟨hjl, hh, tk, iv, rfl, F1, N1, hij, hseen⟩ IH
    cases hx : vs1[j]? with
    | none =>
      have hj : j = xs.length := by
        have := Array.getElem?_eq_none_iff.mp hx
        rw [hi.1] at this
        omega
      subst hj
      k_steps
      obtain ⟨g₂, T₂, F₂, K₂, N₂, I₂⟩ := raised_backN (cn := cn) (cs := cs) (ccd := ccd) (a := a) (cl := cl) (by assumption) (by assumption) FG' B
      exact hexc _ _ _ g₂ _ (fun k h1 h2 => hseen k h1 h2) T₂ F₂ K₂ N₂ I₂
    | some v =>
      obtain ⟨tv, rfl⟩ := hi.2 j v hx
      have hj : j < xs.length := by
        rw [← hi.1]
        exact (Array.getElem?_eq_some_iff.mp hx).1
      k_steps
      · exact ((by assumption : News g' L' _ ((it, _) :: _)) (bm, bmObj S) (.tail _ (.tail _ (.tail _ (.head _))))).1
      · exact none
      · refine IH (j + 1) _ (by omega) ⟨by omega, _, _, some (.str (xs.getD j ⟨#[]⟩) tv), rfl, fr_same (by assumption) ?ee, (by assumption), by omega, fun k h1 h2 => ?_⟩
        case ee =>
          intro y
          by_cases h1 : y = Str.ofString "item"
          · subst h1; exact rfl
          simp [mFF, h1]
        · by_cases hk : k = j
          · rw [hk]; assumption
          · exact hseen k h1 (by omega)
      · exact hret j tv _ _ hij hj hseen (by assumption) (by assumption) (by assumption)

end
section
open PySem PySem.W PyProof.Rows PySem.Calls PySem.Spec
set_option maxRecDepth 100000
set_option maxHeartbeats 4000000
section
variable {prog : Program} {w : World} {A : Around} {E : Value → Shared → Prop} {s : Shared} {h₀ : Heap} {L it l : Addr} {m : Str → Option Value} {news pre post : List (Addr × Obj)} {items : Array Value} {i n : Nat} {x : Value}
theorem pn_iter {Q : Value → Shared → Prop} (F : Fr h₀ L s.heap m) (N : News h₀ L s.heap news) (hm : (l, listOf items n) ∈ news)
    (h : ∀ I h', Fr h₀ L h' m → News h₀ L h' ((I, liObj l 0) :: news) → (∀ p ∈ news, p.1 < I) → Q (.ref I) { s with heap := h' }) :
    wpAny (model prog w) A (pyIter (.ref l)) Q E s := by
  have hl : s.heap.IsList l items := ⟨_, (N _ hm).1, rfl, _, rfl⟩
  refine wpAny_pyIter_list hl ?_
  exact h _ _ (F.push _) (News.push F N _ rfl) (fun q hq => Heap.lt_size (N q hq).1)
theorem pn_item {Q : Option Value → Shared → Prop} (F : Fr h₀ L s.heap m) (N : News h₀ L s.heap (pre ++ (it, liObj l i) :: post)) (hm : (l, listOf items n) ∈ pre ++ (it, liObj l i) :: post) (h1 : ∀ p ∈ pre, p.1 ≠ it) (h2 : ∀ p ∈ post, p.1 ≠ it) (hx : items[i]? = some x)
    (h : ∀ h', Fr h₀ L h' m → News h₀ L h' (pre ++ (it, liObj l (i + 1)) :: post) → Q (some x) { s with heap := h' }) :
    wpAny (model prog w) A (pyNext (.ref it)) Q E s := by
  have ho : s.heap.get? it = some (liObj l i) := (N (it, liObj l i) (by simp)).1
  have hT : s.TypeIs (.ref it) "list_iterator" := ⟨_, ho, rfl⟩
  have hol : s.heap.get? l = some (listOf items n) := (N _ hm).1
  unfold pyNext
  refine wpAny_bind (wpAny_attempt (wpAny_callSpecial?_slot (name := Str.ofString "__next__") hT slot_listiter_next
    (wpAny_call_entry slot_listiter_next hT entry_listiter_next ?_ (args_listiter_next _))))
  show wpAny _ _ (field (.ref it) 0 >>= _) _ _ s
  refine wpAny_bind (wpAny_field ho rfl (x := .ref l) rfl ?_)
  show wpAny _ _ (if (Value.ref l == Value.none) = true then _ else _) _ _ s
  rw [if_neg (show ¬ ((Value.ref l == Value.none) = true) from Bool.false_ne_true)]
  show wpAny _ _ (field (.ref it) 1 >>= _) _ _ s
  refine wpAny_bind (wpAny_field ho rfl (x := .int i 0) rfl ?_)
  show wpAny _ _ (seqItems? (.ref l) >>= _) _ _ s
  refine wpAny_bind (wpAny_seqItems hol rfl ?_)
  simp only [Int.toNat_natCast, hx]
  refine wpAny_bind (wpAny_setField ho rfl (by simp) (wpAny_pure ⟨x, rfl, wpAny_pure ?_⟩))
  obtain ⟨F1, N1⟩ := news_upd (pre := pre) (post := post) (o := liObj l i) (o' := liObj l (i + 1)) (f := Obj.mapFields (·.setIfInBounds 1 (rawInt ((i : Int) + 1)))) F N h1 h2 rfl rfl
  exact h _ F1 N1
theorem pn_end {Q : Option Value → Shared → Prop} (hh : A.handled = none) (F : Fr h₀ L s.heap m) (N : News h₀ L s.heap (pre ++ (it, liObj l i) :: post)) (hm : (l, listOf items n) ∈ pre ++ (it, liObj l i) :: post) (h1 : ∀ p ∈ pre, p.1 ≠ it) (h2 : ∀ p ∈ post, p.1 ≠ it) (hx : items[i]? = none)
    (h : ∀ h', Fr h₀ L h' m → News h₀ L h' (pre ++ (it, liEnd i) :: post) → Q none { s with heap := h' }) :
    wpAny (model prog w) A (pyNext (.ref it)) Q E s := by
  have ho : s.heap.get? it = some (liObj l i) := (N (it, liObj l i) (by simp)).1
  have hT : s.TypeIs (.ref it) "list_iterator" := ⟨_, ho, rfl⟩
  have hol : s.heap.get? l = some (listOf items n) := (N _ hm).1
  unfold pyNext
  refine wpAny_bind (wpAny_attempt (wpAny_callSpecial?_slot (name := Str.ofString "__next__") hT slot_listiter_next
    (wpAny_call_entry slot_listiter_next hT entry_listiter_next ?_ (args_listiter_next _))))
  show wpAny _ _ (field (.ref it) 0 >>= _) _ _ s
  refine wpAny_bind (wpAny_field ho rfl (x := .ref l) rfl ?_)
  show wpAny _ _ (if (Value.ref l == Value.none) = true then _ else _) _ _ s
  rw [if_neg (show ¬ ((Value.ref l == Value.none) = true) from Bool.false_ne_true)]
  show wpAny _ _ (field (.ref it) 1 >>= _) _ _ s
  refine wpAny_bind (wpAny_field ho rfl (x := .int i 0) rfl ?_)
  show wpAny _ _ (seqItems? (.ref l) >>= _) _ _ s
  refine wpAny_bind (wpAny_seqItems hol rfl ?_)
  simp only [Int.toNat_natCast, hx]
  refine wpAny_bind (wpAny_rule (wpAny_bind (wpAny_setField ho rfl (by simp) ?_)))
  obtain ⟨F1, N1⟩ := news_upd (pre := pre) (post := post) (o := liObj l i) (o' := liEnd i) (f := Obj.mapFields (·.setIfInBounds 0 .none)) F N h1 h2 rfl rfl
  show wpAny _ _ (newExc (.type "StopIteration") [] >>= _) _ _ _
  refine wpAny_bind ?_
  simp only [newExc, newTuple]
  refine wpAny_bind (wpAny_newObj_type ?_ (by size_fits))
  refine wpAny_bind (m := firstArgMember _ _) (wpAny_of_eq (a := Value.none) (by first | rfl | (simp only [firstArgMember]; rfl)) ?_)
  refine wpAny_newObj_type ?_ (by size_fits)
  simp only [raiseNew]
  refine wpAny_bind (wpAny_handled ?_)
  rw [show A.in1.handled = none from hh]
  refine wpAny_bind (wpAny_pure (wpAny_throw ?_))
  refine wpAny_bind (wpAny_isInstance (T := "StopIteration") (b := true) ⟨_, Heap.get?_push_size _ rfl, rfl⟩ isSubtype_stop ?_)
  refine wpAny_pure (h _ ((F1.push _).push _) (cb_drop (News.push (F1.push _) (News.push F1 N1 _ (by rfl)) _ (by rfl)) (fun p hp => .tail _ (.tail _ hp))))
end
section
variable {prog : Program} {w : World} {A : Around} {E : Value → Shared → Prop} {env : Env} {v : Str} {body : List Stmt} {Q : Flow → Shared → Prop} {it : Addr}
/-- a for over an iterator by an invariant over the turn's number -/
theorem for_rest {n : Nat} (I : Nat → Shared → Prop) (turn : ∀ i s, i ≤ n → I i s → wpAny (model prog w) A (pyNext (.ref it)) (OwitTurn prog w A E env v body Q (fun s' => i < n ∧ I (i + 1) s')) E s) :
    ∀ (k i : Nat) (s : Shared), n - i ≤ k → i ≤ n → I i s → OwitRest prog w A E env v body Q it (k + 1) s := by
  have mono : ∀ (R1 R2 : Shared → Prop), (∀ s, R1 s → R2 s) → ∀ r s, OwitTurn prog w A E env v body Q R1 r s → OwitTurn prog w A E env v body Q R2 r s := by
    intro R1 R2 hR r s h
    cases r with
    | none => exact h
    | some y =>
      refine wpAny_mono (h : wpAny _ _ _ _ _ _) (fun _ s2 h2 => wpAny_mono h2 (fun f s3 h3 => ?_) fun _ _ z => z) fun _ _ z => z
      cases f with
      | next => exact hR _ h3
      | cont => exact hR _ h3
      | brk => exact h3
      | ret _ => exact h3
  intro k
  induction k with
  | zero =>
    intro i s hk hi h
    refine OwitRest.succ (wpAny_mono (turn i s hi h) (fun r s1 hr => mono _ _ (fun s2 h2 => ?_) r s1 hr) fun _ _ z => z)
    exact absurd h2.1 (by omega)
  | succ k ih =>
    intro i s hk hi h
    refine OwitRest.succ (wpAny_mono (turn i s hi h) (fun r s1 hr => mono _ _ (fun s2 h2 => ?_) r s1 hr) fun _ _ z => z)
    exact ih (i + 1) s2 (by omega) (by omega) h2.2
end

end
section
open PySem PySem.W PyProof.Rows PySem.Calls
set_option maxRecDepth 100000
set_option maxHeartbeats 8000000

theorem c_ffit {w : World} (x : Addr) : Con w 774 1 8 [.ref x] (fun v tl => v = .ref x ∧ tl = []) := by
  unfold Con
  k_fill
  intro dp un gd cn cs a ccd cl outer A₀ base h₀ L m news s mean mg mb Q E B F X N T hk hd hu hret
  refine wpAny_call ?_
  refine' code_def (binds := [(Str.ofString "self", Value.ref x)]) ?k1 ?k2 ?k3 ?k4 ?k5 ?kA ?kF ?kK ?k6 ?k7 ?k8 ?k9 ?kB ?_ ?c2 ?c3 ?c4 ?c5
  case kA => exact rfl
  case kF => exact rfl
  case kK => assumption
  case k1 => k_asm
  case k2 => k_asm
  case k3 => k_asm
  case k4 => k_asm
  case k5 => k_asm
  case k6 => k_is
  case k7 => k_is
  case k8 => ktr_room
  case k9 => first | exact BindsTo.of_eq rfl | exact binds_K (by k_in) rfl (by k_is) rfl rfl rfl
  case c5 => decide
  case kB => exact locs rfl
  case c2 => exact rfl
  case c3 => exact rfl
  case c4 => exact rfl
  k_whole
  intro g' L' h' FG' F' N' B' X' T'
  try dsimp only
  try k_lift B'
  try k_fold

  k_steps
  refine hret _ _ _ [] (by assumption) (by assumption) (fun _ _ _ h => nomatch h) ⟨rfl, rfl⟩
theorem f_it785 (P : Params) : findIn (KF P) (.ref 785) "__iter__" = some (some (.ref 774)) := by kernel_rfl
theorem f_fn774 (P : Params) : isFn (KF P) (.ref 774) = true := by kernel_rfl
theorem f_nx785 (P : Params) : findIn (KF P) (.ref 785) "__next__" = some (some (.ref 781)) := by kernel_rfl
theorem f_fn781 (P : Params) : isFn (KF P) (.ref 781) = true := by kernel_rfl
theorem f_ln785 (P : Params) : findIn (KF P) (.ref 785) "__len__" = some none := by kernel_rfl
theorem f_lh785 (P : Params) : findIn (KF P) (.ref 785) "__length_hint__" = some none := by kernel_rfl
theorem sub_stop2 : isSubtype (.type "StopIteration") (.type "StopIteration") = pure true := by rw [isSubtype_type]; kernel_rfl
theorem mem_mid2 {α : Type} {pre rest : List α} {S q : α} (h : q ∈ pre ++ S :: rest) : q ∈ S :: (pre ++ rest) := by
  simp only [List.mem_append, List.mem_cons] at h ⊢
  rcases h with h | h | h
  · exact .inr (.inl h)
  · exact .inl h
  · exact .inr (.inr h)
abbrev outP (ys : List Str) (x : Str) : Bool := !decide (x ∈ ys)
theorem filt_skip {xs ys : List Str} {i : Nat} : ∀ (j : Nat), i ≤ j → j ≤ xs.length → (∀ k, i ≤ k → k < j → xs.getD k ⟨#[]⟩ ∈ ys) → (xs.take j).filter (outP ys) = (xs.take i).filter (outP ys) := by
  intro j
  induction j with
  | zero => intro h _ _; rw [Nat.le_zero.mp h]
  | succ j ih =>
    intro h hl hk
    by_cases e : i = j + 1
    · rw [e]
    · have hj : j < xs.length := hl
      have h1 := ih (by omega) (by omega) (fun k a b => hk k a (by omega))
      have h2 := hk j (by omega) (Nat.lt_succ_self j)
      rw [List.take_succ_eq_append_getElem hj, List.filter_append, h1]
      have h3 : xs[j] ∈ ys := by simpa [hj] using h2
      simp [outP, h3]
theorem filt_step {xs ys : List Str} {i j : Nat} (h : i ≤ j) (hj : j < xs.length) (hk : ∀ k, i ≤ k → k < j → xs.getD k ⟨#[]⟩ ∈ ys) (hn : xs.getD j ⟨#[]⟩ ∉ ys) :
    (xs.take (j + 1)).filter (outP ys) = (xs.take i).filter (outP ys) ++ [xs.getD j ⟨#[]⟩] := by
  rw [List.take_succ_eq_append_getElem hj, List.filter_append, filt_skip j h (by omega) hk]
  have h3 : xs[j] ∉ ys := by simpa [hj] using hn
  simp [outP, h3, hj]
theorem filt_end {xs ys : List Str} {i : Nat} (h : i ≤ xs.length) (hk : ∀ k, i ≤ k → k < xs.length → xs.getD k ⟨#[]⟩ ∈ ys) : xs.filter (outP ys) = (xs.take i).filter (outP ys) := by
  have := filt_skip xs.length h (Nat.le_refl _) hk
  rwa [List.take_length] at this
theorem strsAt_push {vs : Array Value} {l : List Str} {x : Str} {t : Tok} (h : StrsAt vs l) : StrsAt (vs.push (.str x t)) (l ++ [x]) := by
  refine ⟨by simp [h.1], fun i v hv => ?_⟩
  rw [Array.getElem?_push] at hv
  by_cases e : i = vs.size
  · rw [if_pos e] at hv
    cases hv
    refine ⟨t, ?_⟩
    rw [e, h.1]
    simp
  · rw [if_neg e] at hv
    obtain ⟨t', ht⟩ := h.2 i v hv
    have hlt : i < l.length := by rw [← h.1]; exact (Array.getElem?_eq_some_iff.mp hv).1
    refine ⟨t', ?_⟩
    rw [ht]
    simp [List.getD, hlt, List.getElem?_append_left hlt]
theorem turn_nil {g g' h : Heap} {L : Addr} {m : Str → Option Value} (T : KtsTurn [] g g') (F : Fr g' L h m) : Fr g L h m :=
  ⟨F.ns, fun b o e => F.keep b o (T.other b o e (by simp)), by rw [← T.size]; exact F.above⟩
theorem turn_nilN {g g' h : Heap} {L : Addr} {news : List (Addr × Obj)} (T : KtsTurn [] g g') (N : News g' L h news) : News g L h news := fun p hp => ⟨(N p hp).1, (N p hp).2.1, by
  cases q : g.get? p.1 with
  | none => rfl
  | some o => have := T.other _ _ q (by simp); rw [(N p hp).2.2] at this; cases this⟩

def FfSt (x it dx bm S R ml : Addr) (o : Obj) (xs ys : List Str) (h₀ : Heap) (L : Addr) (m : Str → Option Value) (news : List (Addr × Obj)) (s : Shared) (n : Nat) (s' : Shared) : Prop :=
  ∃ i h tk c vs, n = xs.length - i ∧ i ≤ xs.length ∧ s' = { s with heap := h, toks := tk } ∧ Fr h₀ L h m ∧ News h₀ L h ((it, liObj ml i) :: (x, ffObj dx #[some (.ref bm), some (.ref it)]) :: (dx, dictOf [] 0) :: (bm, bmObj S) :: (S, o) :: (R, listOf vs c) :: news) ∧ StrsAt vs ((xs.take i).filter (outP ys))
theorem ff_list {w : World} {ml S bm dx x it : Addr} {o : Obj} {c n1 : Nat} {vs1 : Array Value} {xs ys : List Str} {news : List (Addr × Obj)} (hi : StrsAt vs1 xs) (hb : xs.length ≤ 1000) (hm1 : (ml, listOf vs1 n1) ∈ news) (ho : o.SetObjOf (PySem.strKind PySem.Challenge.rw_ij0131_01.row.prog w) (fun k => decide (k ∈ ys)) c) (hc : c < scanBound)
    (dp un : Nat) (gd : Option (List Code)) (cn : Str) (cs : Scope) (a : Addr) (ccd : Value) (cl : List (Str × Addr)) (A₀ : Around) (base h₀ : Heap) (L : Addr) (m : Str → Option Value) (s : Shared)
    (mean : ExcName → Option Value) (mg mb : Str → Option Value) (Q E : Value → Shared → Prop) (lS : ∀ p ∈ news, p.1 < S) (l1 : @LT.lt Nat _ S bm) (l2 : @LT.lt Nat _ bm dx) (l3 : @LT.lt Nat _ dx x) (l4 : @LT.lt Nat _ x it)
    (B : Below A₀ base [] h₀) (F : Fr h₀ L s.heap m) (X : (KF w.params).In h₀) (N : News h₀ L s.heap ((it, liObj ml 0) :: (x, ffObj dx #[some (.ref bm), some (.ref it)]) :: (dx, dictOf [] 0) :: (bm, bmObj S) :: (S, o) :: news)) (T : Top qv (looseW qv lo) mean mg mb h₀) (hk : cs.kind = .function) (hd : dp + 2 < recursionLimit) (hu : un + 40 < cLine)
    (hret : ∀ R h' tk' c vs, Fr h₀ L h' m → News h₀ L h' ((R, listOf vs c) :: news) → (∀ p ∈ news, p.1 < R) → StrsAt vs (xs.filter (outP ys)) → Q (.ref R) { s with heap := h', toks := tk' }) :
    wpAny (model PySem.Challenge.rw_ij0131_01.row.prog w) (ktrTop dp un gd cn cs L a ccd cl []) (call (.type "list") [.ref x]) Q E s := by
  refine list_own (K := KF w.params) (C := 785) (x := x) (fi := 774) (fn := 781) (ox := ffObj dx #[some (.ref bm), some (.ref it)]) F X N (fun h1 N1 => ff_inst N1 (.tail _ (.head _)) (.tail _ (.tail _ (.head _)))) (f_it785 _) (f_fn774 _) (f_nx785 _) (f_ln785 _) (f_lh785 _) ⟨_, .tail _ (.head _)⟩ ?_
  intro R h1 c0 F1 N1 lt1
  have r1 : @LT.lt Nat _ it R := lt1 _ (.head _)
  have lr : ∀ q ∈ news, @LT.lt Nat _ q.1 R := fun q hq => lt1 _ (.tail _ (.tail _ (.tail _ (.tail _ (.tail _ hq)))))
  have hpre : ∀ (o1 o2 o3 o4 o5 : Obj), ∀ q ∈ [(it, o1), (x, o2), (dx, o3), (bm, o4), (S, o5)], q.1 ≠ R := by
    intro o1 o2 o3 o4 o5 q hq
    simp only [List.mem_cons, List.mem_nil_iff, or_false] at hq
    rcases hq with rfl | rfl | rfl | rfl | rfl
    · exact Nat.ne_of_lt r1
    · exact Nat.ne_of_lt (Nat.lt_trans l4 r1)
    · exact Nat.ne_of_lt (Nat.lt_trans l3 (Nat.lt_trans l4 r1))
    · exact Nat.ne_of_lt (Nat.lt_trans l2 (Nat.lt_trans l3 (Nat.lt_trans l4 r1)))
    · exact Nat.ne_of_lt (Nat.lt_trans l1 (Nat.lt_trans l2 (Nat.lt_trans l3 (Nat.lt_trans l4 r1))))
  have hnit : ∀ (oR : Obj), ∀ p ∈ (R, oR) :: news, p.1 ≠ it := by
    intro oR p hp
    rcases List.mem_cons.mp hp with rfl | hp
    · exact Nat.ne_of_gt r1
    · exact Nat.ne_of_lt (Nat.lt_trans (lS p hp) (Nat.lt_trans l1 (Nat.lt_trans l2 (Nat.lt_trans l3 l4))))
  have hd1 : dp + 1 < recursionLimit := by omega
  have hu1 : (un + 1 + 1) + 8 < cLine := by omega
  have hu2 : (un + 1 + 1) + 32 < cLine := by omega
  refine c_ffit x dp (un + 1 + 1) gd cn cs a ccd cl [] A₀ base h₀ L m ((R, listOf #[] c0) :: _) _ mean mg mb _ E B F1 X N1 T hk hd1 hu1 ?_
  rintro v h2 tk2 tl2 F2 N2 _ ⟨rfl, rfl⟩
  have N2 : News h₀ L h2 ((it, liObj ml 0) :: (x, ffObj dx #[some (.ref bm), some (.ref it)]) :: (dx, dictOf [] 0) :: (bm, bmObj S) :: (S, o) :: (R, listOf #[] c0) :: news) := cb_drop N2 (fun q hq => mem_mid2 (pre := [_, _, _, _, _]) hq)
  refine ⟨rfl, X.keeps F2.keep, ⟨_, _, ff_inst N2 (.tail _ (.head _)) (.tail _ (.tail _ (.head _)))⟩, c0, (N2 _ (.tail _ (.tail _ (.tail _ (.tail _ (.tail _ (.head _))))))).1, FfSt x it dx bm S R ml o xs ys h₀ L m news s, xs.length, ?_, ?_⟩
  · rintro n s' ⟨i, h, tk, c', vs, rfl, hil, rfl, F3, N3, hvs⟩
    have hsz : vs.size ≤ 1000 := by
      rw [hvs.1]
      have := List.length_filter_le (outP ys) (xs.take i)
      have := List.length_take_le i xs
      omega
    refine owit_next F3 X (ff_inst N3 (.tail _ (.head _)) (.tail _ (.tail _ (.head _)))) (f_nx785 _) (f_fn781 _) ?_
    refine c_ffnext (news := (R, listOf vs c') :: news) i hil hi ⟨_, .tail _ hm1⟩ ho hc dp (un + 1 + 1) gd cn cs a ccd cl [] A₀ base h₀ L m _ mean mg mb _ _ (hnit _) l1 l2 l3 l4 B F3 X N3 T hk hd hu2 ?_ ?_
    · intro j t h' tk' hij hjl hseen hnot F4 N4
      obtain ⟨F5, N5⟩ := news_upd (pre := [_, _, _, _, _]) (post := news) (o := listOf vs c') (o' := listOf (vs.push (.str (xs.getD j ⟨#[]⟩) t)) _) (f := Obj.mapSeq (·.push (.str (xs.getD j ⟨#[]⟩) t))) F4 N4 (hpre _ _ _ _ _) (fun q hq => Nat.ne_of_lt (lr q hq)) rfl rfl
      refine ⟨vs, c', xs.length - (j + 1), (N4 _ (.tail _ (.tail _ (.tail _ (.tail _ (.tail _ (.head _))))))).1, hsz, by omega, j + 1, _, tk', _, _, rfl, by omega, rfl, F5, N5, ?_⟩
      rw [filt_step hij hjl hseen hnot]
      exact strsAt_push hvs
    · intro h' tk' e g₂ j hseen T4 F4 B4 N4 I4
      refine wpAny_isInstance (show Shared.TypeIs _ _ "StopIteration" from I4) sub_stop2 ?_
      show (if true = true then _ else _)
      rw [if_pos rfl]
      refine hret R h' tk' c' vs (turn_nil T4 F4) (turn_nilN T4 (cb_drop N4 fun q hq => .tail _ (.tail _ (.tail _ (.tail _ (.tail _ hq)))))) lr ?_
      rw [filt_end hil hseen]
      exact hvs
  · obtain ⟨F3, N3⟩ := news_upd (pre := [_, _, _, _, _]) (post := news) (o := listOf #[] c0) (o' := listOf #[.none] _) (f := Obj.mapSeq (·.push .none)) F2 N2 (hpre _ _ _ _ _) (fun q hq => Nat.ne_of_lt (lr q hq)) rfl rfl
    obtain ⟨F4, N4⟩ := news_upd (pre := [_, _, _, _, _]) (post := news) (o := listOf #[.none] _) (o' := listOf #[] _) (f := Obj.mapSeq (·.pop)) F3 N3 (hpre _ _ _ _ _) (fun q hq => Nat.ne_of_lt (lr q hq)) rfl rfl
    exact ⟨0, _, tk2, _, #[], rfl, Nat.zero_le _, rfl, F4, N4, ⟨rfl, fun i v h => by simp at h⟩⟩

end
section
open PySem PySem.W PyProof.Rows PySem.Calls PySem.Spec
set_option maxRecDepth 100000
set_option maxHeartbeats 4000000
section
variable {prog : Program} {w : World} {A : Around} {h₀ : Heap} {L : Addr} {m : Str → Option Value} {env : Env} {elt : Expr} {x : Str} {scope : Scope} {cl : List (Str × Addr)} {s : Shared} {S : List (Addr × Obj) → Prop} {P : Nat → Value → Prop} {Fin : List Value → List (Addr × Obj) → Prop} {news : List (Addr × Obj)}
/-- a comprehension of one clause by an invariant over the turn's number, what is made and the ledger -/
theorem cr_inv {n : Nat} (J : Nat → List Value → List (Addr × Obj) → Prop) (h0 : J 0 [] news)
    (turn : ∀ i v I oI C oC D m₂ ys nw h tk (E' : Value → Shared → Prop), i < n → P i v → J i ys nw → LCg.NsObj oC m₂ → m₂ x = some v → Fr h₀ L h m → News h₀ L h ((I, oI) :: (C, oC) :: (D, LCg.lst ys) :: nw) → LCg.Off3 I C D nw → ((@Ne Nat I C) ∧ (@Ne Nat I D) ∧ (@Ne Nat C D)) →
      wpAny (model prog w) A (eval elt (compEnvC scope cl C env)) (LCg.CompEnd h₀ L m { s with heap := h, toks := tk } I oI C oC D (LCg.lst ys) S (fun y nw' => J (i + 1) (ys ++ [y]) nw')) E' { s with heap := h, toks := tk })
    (fin : ∀ ys nw, J n ys nw → Fin ys nw) : LCg.CompRest prog w A h₀ L m env elt x scope cl s S P Fin n 0 [] news := by
  have key : ∀ (j i : Nat) (ys : List Value) (nw : List (Addr × Obj)), i + j = n → J i ys nw → LCg.CompRest prog w A h₀ L m env elt x scope cl s S P Fin j i ys nw := by
    intro j
    induction j with
    | zero =>
      intro i ys nw hi hJ
      have e : i = n := by omega
      subst e
      exact LCg.CompRest.zero (fin ys nw hJ)
    | succ j ih =>
      intro i ys nw hi hJ
      refine LCg.CompRest.succ ?_
      intro v I oI C oC D m₂ h tk E' hv hC hx F N off ne
      refine wpAny_mono (turn i v I oI C oC D m₂ ys nw h tk E' (by omega) hv hJ hC hx F N off ne) (fun y s₂ hq => ?_) fun _ _ e => e
      obtain ⟨h', tk', nw', e, F', N', off', hS, hJ'⟩ := hq
      exact ⟨h', tk', nw', e, F', N', off', hS, ih (i + 1) _ _ (by omega) hJ'⟩
  exact key n 0 [] news (by omega) h0
/-- the same, the ledger as it was -/
theorem cr_const {n : Nat} (J : Nat → List Value → Prop) (h0 : J 0 [])
    (turn : ∀ i v I oI C oC D m₂ ys h tk (E' : Value → Shared → Prop), i < n → P i v → J i ys → LCg.NsObj oC m₂ → m₂ x = some v → Fr h₀ L h m → News h₀ L h ((I, oI) :: (C, oC) :: (D, LCg.lst ys) :: news) → LCg.Off3 I C D news → ((@Ne Nat I C) ∧ (@Ne Nat I D) ∧ (@Ne Nat C D)) →
      wpAny (model prog w) A (eval elt (compEnvC scope cl C env)) (LCg.CompEnd h₀ L m { s with heap := h, toks := tk } I oI C oC D (LCg.lst ys) S (fun y nw' => nw' = news ∧ J (i + 1) (ys ++ [y]))) E' { s with heap := h, toks := tk })
    (fin : ∀ ys, J n ys → Fin ys news) : LCg.CompRest prog w A h₀ L m env elt x scope cl s S P Fin n 0 [] news := by
  refine cr_inv (fun i ys nw => nw = news ∧ J i ys) ⟨rfl, h0⟩ ?_ ?_
  · rintro i v I oI C oC D m₂ ys nw h tk E' hi hv ⟨rfl, hJ⟩ hC hx F N off ne
    exact turn i v I oI C oC D m₂ ys h tk E' hi hv hJ hC hx F N off ne
  · rintro ys nw ⟨rfl, hJ⟩
    exact fin ys hJ
/-- the same with one test -/
theorem cr_invT {ct : Expr} {n : Nat} (J : Nat → List Value → List (Addr × Obj) → Prop) (h0 : J 0 [] news)
    (turn : ∀ i v I oI C oC D m₂ ys nw h tk (E' : Value → Shared → Prop), i < n → P i v → J i ys nw → LCg.NsObj oC m₂ → m₂ x = some v → Fr h₀ L h m → News h₀ L h ((I, oI) :: (C, oC) :: (D, LCg.lst ys) :: nw) → LCg.Off3 I C D nw → ((@Ne Nat I C) ∧ (@Ne Nat I D) ∧ (@Ne Nat C D)) →
      wpAny (model prog w) A (isTrue ct (compEnvC scope cl C env) (eval ct (compEnvC scope cl C env))) (fun ok s' => if ok = true then
        wpAny (model prog w) A (eval elt (compEnvC scope cl C env)) (LCg.CompEnd h₀ L m { s with heap := h, toks := tk } I oI C oC D (LCg.lst ys) S (fun y nw' => J (i + 1) (ys ++ [y]) nw')) E' s'
        else LCg.CompEnd h₀ L m { s with heap := h, toks := tk } I oI C oC D (LCg.lst ys) S (fun _ nw' => J (i + 1) ys nw') Value.none s') E' { s with heap := h, toks := tk })
    (fin : ∀ ys nw, J n ys nw → Fin ys nw) : LCt.CompRestT prog w A h₀ L m env ct elt x scope cl s S P Fin n 0 [] news := by
  have key : ∀ (j i : Nat) (ys : List Value) (nw : List (Addr × Obj)), i + j = n → J i ys nw → LCt.CompRestT prog w A h₀ L m env ct elt x scope cl s S P Fin j i ys nw := by
    intro j
    induction j with
    | zero =>
      intro i ys nw hi hJ
      have e : i = n := by omega
      subst e
      exact LCt.CompRestT.zero (fin ys nw hJ)
    | succ j ih =>
      intro i ys nw hi hJ
      refine LCt.CompRestT.succ ?_
      intro v I oI C oC D m₂ h tk E' hv hC hx F N off ne
      refine wpAny_mono (turn i v I oI C oC D m₂ ys nw h tk E' (by omega) hv hJ hC hx F N off ne) (fun ok s₂ hq => ?_) fun _ _ e => e
      cases ok with
      | true =>
        rw [if_pos rfl] at hq ⊢
        refine wpAny_mono hq (fun y s₃ hq => ?_) fun _ _ e => e
        obtain ⟨h', tk', nw', e, F', N', off', hS, hJ'⟩ := hq
        exact ⟨h', tk', nw', e, F', N', off', hS, ih (i + 1) _ _ (by omega) hJ'⟩
      | false =>
        rw [if_neg Bool.false_ne_true] at hq ⊢
        obtain ⟨h', tk', nw', e, F', N', off', hS, hJ'⟩ := hq
        exact ⟨h', tk', nw', e, F', N', off', hS, ih (i + 1) _ _ (by omega) hJ'⟩
  exact key n 0 [] news (by omega) h0
end
section
variable {prog : Program} {w : World} {A : Around} {E : Value → Shared → Prop} {s : Shared} {h₀ : Heap} {L : Addr} {m : Str → Option Value} {news : List (Addr × Obj)}
theorem strOk_iff {x : Str} : PyData.strOk x = true ↔ ∀ c ∈ x.cps.toList, c < 0x110000 := by
  unfold PyData.strOk
  rw [← Array.all_toList, List.all_eq_true]
  simp only [decide_eq_true_eq]
theorem strOk_append {x y : Str} (hx : PyData.strOk x = true) (hy : PyData.strOk y = true) : PyData.strOk (x ++ y) = true := by
  rw [strOk_iff] at hx hy ⊢
  have e : (x ++ y).cps = x.cps ++ y.cps := rfl
  rw [e, Array.toList_append]
  intro c hc
  rcases List.mem_append.mp hc with h | h
  · exact hx c h
  · exact hy c h
theorem strOk_left {x y : Str} (h : PyData.strOk (x ++ y) = true) : PyData.strOk x = true ∧ PyData.strOk y = true := by
  rw [strOk_iff] at h ⊢
  rw [strOk_iff]
  have e : (x ++ y).cps = x.cps ++ y.cps := rfl
  rw [e, Array.toList_append] at h
  exact ⟨fun c hc => h c (List.mem_append_left _ hc), fun c hc => h c (List.mem_append_right _ hc)⟩
theorem strOk_join {sep : Str} (hs : PyData.strOk sep = true) {l : List Str} (h : ∀ x ∈ l, PyData.strOk x = true) : PyData.strOk (Str.join sep l) = true := by
  induction l with
  | nil => exact (by decide +kernel : PyData.strOk Str.empty = true)
  | cons a r ih =>
    cases r with
    | nil => exact h a (.head _)
    | cons b r => exact strOk_append (strOk_append (h a (.head _)) hs) (ih fun x hx => h x (.tail _ hx))
theorem strOk_parts {sep : Str} {l : List Str} (h : PyData.strOk (Str.join sep l) = true) : ∀ x ∈ l, PyData.strOk x = true := by
  induction l with
  | nil => exact fun x hx => nomatch hx
  | cons a r ih =>
    cases r with
    | nil =>
      intro x hx
      rw [List.mem_singleton.mp hx]
      exact h
    | cons b r =>
      have h1 := strOk_left (x := a ++ sep) (y := Str.join sep (b :: r)) h
      intro x hx
      rcases List.mem_cons.mp hx with rfl | hx
      · exact (strOk_left h1.1).1
      · exact ih h1.2 x hx
theorem strOk_replace {x z : Str} {c : Nat} (hz : PyData.strOk z = true) (h : PyData.strOk x = true) : PyData.strOk (Txt.replace x ⟨#[c]⟩ z) = true := by
  rw [StrLaws.replace_one]
  refine strOk_join hz (strOk_parts (sep := ⟨#[c]⟩) ?_)
  rw [StrLaws.join_split]
  exact h
theorem join_one {D : Addr} {c : Nat} {ys : List Value} {l : List Str} {t : Tok} {Q : Value → Shared → Prop} (N : News h₀ L s.heap news) (hm : (D, ({ cls := .type "list", data := .seq ys.toArray c } : Obj)) ∈ news) (hy : StrsAre ys l) (hl : l.length ≤ 1000) (h1 : ∀ x ∈ l, x.length = 1 ∧ PyData.strOk x = true)
    (h : ∀ x t' k, x.length ≤ l.length → PyData.strOk x = true → Q (.str x t') { s with toks := k }) : wpAny (model prog w) A (call (.builtin "str.join") [.str (Str.ofString "") t, .ref D]) Q E s := by
  have hs : (l.map (·.length)).sum = l.length := by
    clear hy hl hm h
    induction l with
    | nil => rfl
    | cons a r ih =>
      rw [List.map_cons, List.sum_cons, (h1 a (.head _)).1, ih (fun x hx => h1 x (.tail _ hx)), List.length_cons]
      omega
  refine join_listW (items := ys.toArray) ⟨_, (N _ hm).1, rfl, _, rfl⟩ hy (by decide) (by first | omega | (simp only [hs]; omega)) ?_
  intro t' k
  refine h _ t' k ?_ (by show PyData.strOk (Builtin.Str.glued _ _) = true; rw [StrLaws.glued_eq_join]; exact strOk_join (by decide +kernel) (fun x hx => (h1 x hx).2))
  have hj := StrLaws.join_length_le (Str.ofString "") l
  have e0 : (Str.ofString "").length = 0 := by decide +kernel
  rw [e0, hs, Nat.mul_zero, Nat.add_zero] at hj
  show (Builtin.Str.glued _ _).length ≤ _
  rw [StrLaws.glued_eq_join]
  exact hj
theorem tup_item {value slice : Expr} {D : Addr} {l : List Value} {n : Nat} {k : Int} {u : Tok} {Q : Value → Shared → Prop} (N : News h₀ L s.heap news) (hm : (D, ({ cls := .type "tuple", data := .seq l.toArray n } : Obj)) ∈ news) (h0 : 0 ≤ k) (h1 : k < l.length) (hz : l.length ≤ 100) {P : Str → Prop} (hall : ∀ v ∈ l, ∃ x t, v = .str x t ∧ P x)
    (h : ∀ x t, P x → Q (.str x t) s)
    (hs : subscripted slice false (.ref D) (.int k u) = operate [.ref D, .int k u] (getItem (.ref D) (.int k u)) := by with_unfolding_all rfl) :
    wpAny (model prog w) A (subscriptTail value slice (.ref D) (.int k u)) Q E s := by
  have hk : k.toNat < l.length := by omega
  obtain ⟨x, t, e, hx⟩ := hall _ (List.getElem_mem hk)
  have hj : seqIndex? k l.length = some k.toNat := by
    unfold seqIndex?
    have e1 : (if k < 0 then k + (l.length : Int) else k) = k := if_neg (by omega)
    have e2 : (decide (0 ≤ k) && decide (k < (l.length : Int))) = true := by simp [h0, h1]
    simp only [e1, e2, if_true]
  refine item_tupleT ⟨_, (N _ hm).1, rfl, _, rfl⟩ (by omega) (by omega) hj (List.getElem?_eq_some_iff.mpr ⟨hk, e⟩) (h x t hx) hs
end

end
section
open PySem PySem.W PyProof.Rows PySem.Calls
set_option maxRecDepth 100000
set_option maxHeartbeats 8000000
local macro_rules | `(tactic| walk_at "call ref") => `(tactic| (k_here; (with_reducible show wpAny _ _ (call (Value.ref 752) [Value.str _ _]) _ _ _); k_dflt (refine' use_quote ?kx ?k1 ?k2 ?k3 ?k4 ?k5 ?k6 ?k7 ?k8 ?_; (case kx => first | omega | decide +kernel); (case k1 => k_asm); (case k2 => k_asm); (case k3 => k_asm); (case k4 => k_asm); (case k5 => k_asm); (case k6 => first | exact rfl | assumption); (case k7 => ktr_room); (case k8 => ktr_units); k_whole); intro h9 tk9 t9 F9 N9; (try dsimp only); (try k_fold)))
local macro_rules | `(tactic| walk_at "exec For Name Subscript cons nil") => `(tactic| (k_here; refine owit_for ?_))
local macro_rules | `(tactic| walk_at "pyIter ref") => `(tactic| (k_here; (with_reducible show wpAny _ _ (pyIter (Value.ref _)) (OwitAt _ _ _ _ _ _ _ _) _ _); k_dflt (refine' pn_iter ?k1 ?k2 ?k3 ?_; (case k1 => k_asm); (case k2 => k_asm); (case k3 => (first | k_mem | (repeat (first | assumption | refine List.Mem.tail _ ?_)))); k_whole); intro a' h' F' N' l1; (try k_lt l1); (try k_sweep); refine OwitAt.intro ?_; refine stop_intro ?_))
theorem rng_small {b : Int} (h0 : 0 ≤ b) (h1 : b < 4) : Builtin.Range.small 0 b 1 = true := by
  have : b = 0 ∨ b = 1 ∨ b = 2 ∨ b = 3 := by omega
  rcases this with rfl | rfl | rfl | rfl <;> rfl
theorem rng_size {b : Int} (h0 : 0 ≤ b) (h1 : b < 4) : Builtin.Range.rangeSize 0 b 1 = ((b.toNat : Nat) : Int) := by
  have : b = 0 ∨ b = 1 ∨ b = 2 ∨ b = 3 := by omega
  rcases this with rfl | rfl | rfl | rfl <;> rfl
theorem rng_n {b : Int} (h1 : b < 4) : b.toNat ≤ sizeLine := by rw [sizeLine_eq]; omega
theorem all_ten {a b c d e f g h i j : Str} {ta tb tc td te tf tg th ti tj : Tok} (ha : a.length = 1 ∧ PyData.strOk a = true) (hb : b.length = 1 ∧ PyData.strOk b = true) (hc : c.length = 1 ∧ PyData.strOk c = true) (hd : d.length = 1 ∧ PyData.strOk d = true) (he : e.length = 1 ∧ PyData.strOk e = true) (hf : f.length = 1 ∧ PyData.strOk f = true) (hg : g.length = 1 ∧ PyData.strOk g = true) (hh : h.length = 1 ∧ PyData.strOk h = true) (hi : i.length = 1 ∧ PyData.strOk i = true) (hj : j.length = 1 ∧ PyData.strOk j = true) :
    ∀ v ∈ [Value.str a ta, .str b tb, .str c tc, .str d td, .str e te, .str f tf, .str g tg, .str h th, .str i ti, .str j tj], ∃ x t, v = Value.str x t ∧ (x.length = 1 ∧ PyData.strOk x = true) := by
  intro v hv
  simp only [List.mem_cons, List.mem_nil_iff, or_false] at hv
  rcases hv with rfl | rfl | rfl | rfl | rfl | rfl | rfl | rfl | rfl | rfl <;> exact ⟨_, _, rfl, by assumption⟩
theorem fm10 (a : Int) : 0 ≤ a.fmod 10 ∧ a.fmod 10 < 10 := ⟨Int.fmod_nonneg_of_pos a (by decide), Int.fmod_lt_of_pos a (by decide)⟩
theorem fm4 (a : Int) : 0 ≤ a.fmod 4 ∧ a.fmod 4 < 4 := ⟨Int.fmod_nonneg_of_pos a (by decide), Int.fmod_lt_of_pos a (by decide)⟩
theorem toNat3 {b : Int} : (b.fmod 4).toNat ≤ 3 := by
  have := (fm4 b).2
  omega
theorem strsAre_snoc {ys : List Value} {l : List Str} {x : Str} {t : Tok} (h : StrsAre ys l) : StrsAre (ys ++ [.str x t]) (l ++ [x]) := by
  induction h with
  | nil => exact .cons _ _ .nil
  | cons a u h ih => exact .cons _ _ ih
local macro_rules | `(tactic| walk_at "call builtin:str.join") => `(tactic| (k_here; (with_reducible show wpAny _ _ (call (Value.builtin "str.join") [Value.str _ _, Value.ref _]) _ _ _); k_dflt (refine' join_one ?k1 ?k2 ?k3 ?k4 ?k5 ?_; (case k1 => k_asm); (case k2 => k_mem); (case k3 => assumption); (case k4 => omega); (case k5 => assumption)); intro x9 t9 k9 hx9 ho9))
local macro_rules | `(tactic| walk_at "call builtin:list.append") => `(tactic| (k_here; (with_reducible show wpAny _ _ (call (Value.builtin _) [Value.ref _, _]) _ _ _); k_dflt (refine' append_K ?k1 ?k2 ?k3 ?_ ?z; (case k1 => k_asm); (case k2 => k_asm); (case k3 => k_upd); (case z => assumption); k_whole); intro h' F' N'; (try k_sweep)))
theorem lt3 {k : Nat} {b : Int} (h : k < (b.fmod 4).toNat) : k = 0 ∨ k = 1 ∨ k = 2 := by
  have := (fm4 b).2
  omega
local macro_rules | `(tactic| walk_at "CompSrc") => `(tactic| (k_here; refine stop_intro ?_))
theorem chrc (a : Int) : (a.fmod 55296).toNat < 0x110000 := by
  have h := Int.fmod_lt_of_pos a (b := 55296) (by decide)
  omega
theorem one1 : (Str.ofString "'").length = 1 ∧ PyData.strOk (Str.ofString "'") = true := by decide +kernel
theorem one2 : (Str.ofString "\"").length = 1 ∧ PyData.strOk (Str.ofString "\"") = true := by decide +kernel
theorem one3 : (Str.ofString "a").length = 1 ∧ PyData.strOk (Str.ofString "a") = true := by decide +kernel
theorem one4 : (Str.ofString " ").length = 1 ∧ PyData.strOk (Str.ofString " ") = true := by decide +kernel
theorem one5 : (Str.ofString "$").length = 1 ∧ PyData.strOk (Str.ofString "$") = true := by decide +kernel
theorem one6 : (Str.ofString ".").length = 1 ∧ PyData.strOk (Str.ofString ".") = true := by decide +kernel
theorem one7 : (Str.ofString "\n").length = 1 ∧ PyData.strOk (Str.ofString "\n") = true := by decide +kernel
theorem tup_item10 {prog : Program} {w : World} {A : Around} {E : Value → Shared → Prop} {s : Shared} {h₀ : Heap} {L : Addr} {news : List (Addr × Obj)} {value slice : Expr} {D : Addr} {n : Nat} {k : Int} {u : Tok} {c : Nat} {ta tb tc td te tf tg th ti tj : Tok} {Q : Value → Shared → Prop} (N : News h₀ L s.heap news)
    (hm : (D, ({ cls := .type "tuple", data := .seq #[.str (Str.ofString "'") ta, .str (Str.ofString "\"") tb, .str (Str.ofString "a") tc, .str (Str.ofString " ") td, .str (Str.ofString "$") te, .str (Str.ofString ".") tf, .str (Str.ofString "'") tg, .str (Str.ofString "\n") th, .str (Str.ofString "\"") ti, .str ⟨#[c]⟩ tj] n } : Obj)) ∈ news)
    (hc : c < 0x110000) (h : ∀ x t, x.length = 1 ∧ PyData.strOk x = true → Q (.str x t) s)
    (hs : subscripted slice false (.ref D) (.int (k.fmod 10) u) = operate [.ref D, .int (k.fmod 10) u] (getItem (.ref D) (.int (k.fmod 10) u)) := by rfl) :
    wpAny (model prog w) A (subscriptTail value slice (.ref D) (.int (k.fmod 10) u)) Q E s :=
  tup_item (l := [_, _, _, _, _, _, _, _, _, _]) N hm (fm10 _).1 (fm10 _).2 (by show 10 ≤ 100; decide) (all_ten one1 one2 one3 one4 one5 one6 one1 one7 one2 ⟨rfl, by simp [PyData.strOk, hc]⟩) h hs
local macro_rules | `(tactic| walk_at "subscriptTail Name BinOp ref int") => `(tactic| (k_here; (with_reducible show wpAny _ _ (subscriptTail _ _ (Value.ref _) (Value.int _ _)) _ _ _); k_dflt (refine' tup_item10 ?k1 ?k2 ?k3 ?_ ?k8; (case k1 => k_asm); (case k2 => k_mem); (case k3 => first | exact chrc _ | omega); (case k8 => with_unfolding_all rfl)); intro x9 t9 hx9))
theorem divmod_rule {prog : Program} {w : World} {A : Around} {E : Value → Shared → Prop} {s : Shared} {h₀ : Heap} {L : Addr} {m : Str → Option Value} {news : List (Addr × Obj)} {a b : Int} {t u : Tok} {Q : Value → Shared → Prop} (F : Fr h₀ L s.heap m) (N : News h₀ L s.heap news) (hb : b ≠ 0)
    (h : ∀ D h' t1 t2 tk, Fr h₀ L h' m → News h₀ L h' ((D, { cls := .type "tuple", data := .seq #[.int (a.fdiv b) t1, .int (a.fmod b) t2] }) :: news) → (∀ p ∈ news, p.1 < D) → Q (.ref D) { s with heap := h', toks := tk })
    (hp : Builtin.divisionGoesByPylong a b = false) :
    wpAny (model prog w) A (call (.builtin "divmod") [.int a t, .int b u]) Q E s :=
  divmod_N F N hb (fun h' F' N' => h _ h' _ _ _ F' N' (fun p hp => Heap.lt_size (N p hp).1)) (.inl hp)
local macro_rules | `(tactic| walk_at "call builtin:divmod") => `(tactic| (k_here; (with_reducible show wpAny _ _ (call (Value.builtin "divmod") [Value.int _ _, Value.int _ _]) _ _ _); (refine' divmod_rule ?k1 ?k2 ?k3 ?_ ?k5; (case k1 => k_asm); (case k2 => k_asm); (case k3 => first | decide | decide +kernel); (case k5 => first | exact PyProof.noPylong_of_log2 (by decide +kernel) | exact PyProof.noPylong_small (by omega)); k_whole); intro a' h' t' t2' tk' F' N' l1; (try k_lt l1); (try k_sweep)))
local macro_rules | `(tactic| k_all) => `(tactic| (refine' ne_above ?a ?b; (case a => assumption); (case b => omega)))

abbrev mRow (R sc : Addr) (cv hv tv : Option Value) : Str → Option Value := fun y => if y = Str.ofString "told" then tv else if y = Str.ofString "high" then hv else if y = Str.ofString "cell" then cv else if y = Str.ofString "row" then some (.ref R) else if y = Str.ofString "script" then some (.ref sc) else none
def rowBase : List Str := [Str.ofString "", Str.ofString "a", Str.ofString "'a'", Str.ofString "it's", quoteF (quoteF (Str.ofString "$")), Str.ofString "$"]
def RowI (g : Heap) (L' sc I D R : Addr) (ws : List Value) (news : List (Addr × Obj)) (s : Shared) (i : Nat) (s' : Shared) : Prop :=
  ∃ (hh : Heap) (tk : Nat) (rs : Array Value) (c : Nat) (l : List Str) (oS oN : Obj) (sv nv cv hv tv : Option Value), s' = { s with heap := hh, toks := tk } ∧ Fr g L' hh (mRow R sc cv hv tv) ∧ News g L' hh ((I, liObj D i) :: (D, listOf ws.toArray 0) :: (R, listOf rs c) :: (L' + 1 + 1, oS) :: (L' + 1, oN) :: news) ∧ oS.data = .cell sv ∧ oN.data = .cell nv ∧ StrsAt rs l ∧ (∀ x ∈ l, x.length ≤ 25 ∧ PyData.strOk x = true) ∧ (∃ l2, l = rowBase ++ l2 ∧ l2.length = i)
theorem bindL_one {k : Str → Option NameKind} {n y : Str} {v : Value} (h : k n = some .local) (hy : y ≠ n) : bindL k [(n, v)] (fun _ => none) y = none := by
  show (if k n = some .local then fun y => if y = n then some v else none else fun _ => none) y = none
  rw [if_pos h]
  exact if_neg hy
theorem rowBase_at {t0 t1 t2 t3 t4 t5 : Tok} : StrsAt #[.str (Str.ofString "") t0, .str (Str.ofString "a") t1, .str (Str.ofString "'a'") t2, .str (Str.ofString "it's") t3, .str (quoteF (quoteF (Str.ofString "$"))) t4, .str (Str.ofString "$") t5] rowBase := by
  refine ⟨rfl, fun i v h => ?_⟩
  match i, h with
  | 0, h => cases h; exact ⟨_, rfl⟩
  | 1, h => cases h; exact ⟨_, rfl⟩
  | 2, h => cases h; exact ⟨_, rfl⟩
  | 3, h => cases h; exact ⟨_, rfl⟩
  | 4, h => cases h; exact ⟨_, rfl⟩
  | 5, h => cases h; exact ⟨_, rfl⟩
  | n + 6, h => exact absurd (Array.getElem?_eq_some_iff.mp h).1 (by show ¬ n + 6 < 6; omega)
theorem rowBase_len : ∀ x ∈ rowBase, x.length ≤ 25 ∧ PyData.strOk x = true := by decide +kernel
theorem strOk_quote {x : Str} (h : PyData.strOk x = true) : PyData.strOk (quoteF x) = true := by
  unfold quoteF
  split
  · decide +kernel
  split
  · exact h
  · exact strOk_append (strOk_append (by decide +kernel) (strOk_replace (c := 39) (by decide +kernel) h)) (by decide +kernel)
theorem quoteF_len (x : Str) : (quoteF x).length ≤ 6 * x.length + 7 := by
  have h := replF_len x
  have e1 : (Str.ofString "'").length = 1 := by decide +kernel
  have e2 : (Str.ofString "''").length = 2 := by decide +kernel
  unfold quoteF
  split
  · omega
  split
  · omega
  · rw [Str.length_append, Str.length_append, e1]
    omega
theorem ne_I {I D R L' : Addr} {news : List (Addr × Obj)} {o1 o2 o3 o4 : Obj} (lI : @LT.lt Nat _ D I ∧ @LT.lt Nat _ R I ∧ @LT.lt Nat _ (L' + 1 + 1) I ∧ @LT.lt Nat _ (L' + 1) I ∧ AllLt I news) (l1 : ∀ p ∈ news, p.1 < L') : ∀ p ∈ (D, o1) :: (R, o2) :: (L' + 1 + 1, o3) :: (L' + 1, o4) :: news, p.1 ≠ I := by
  intro p hp
  simp only [List.mem_cons] at hp
  rcases hp with rfl | rfl | rfl | rfl | hp
  · exact Nat.ne_of_lt lI.1
  · exact Nat.ne_of_lt lI.2.1
  · exact Nat.ne_of_lt lI.2.2.1
  · exact Nat.ne_of_lt lI.2.2.2.1
  · exact Nat.ne_of_lt (Nat.lt_trans (l1 p hp) (Nat.lt_trans (Nat.lt_succ_self _) lI.2.2.2.1))
theorem rowI_more {g : Heap} {L' sc I D R : Addr} {ws : List Value} {news tl : List (Addr × Obj)} {s : Shared} {i : Nat} {hh : Heap} {tk : Nat} {rs : Array Value} {c : Nat} {l2 : List Str} {oS oN : Obj} {sv nv cv hv tv : Option Value} {x : Str} {t : Tok} {m : Str → Option Value}
    (F : Fr g L' hh m) (e : ∀ y, m y = mRow R sc cv hv tv y) (N : News g L' hh (tl ++ (I, liObj D (i + 1)) :: (D, listOf ws.toArray 0) :: (R, listOf (rs.push (.str x t)) c) :: (L' + 1 + 1, oS) :: (L' + 1, oN) :: news)) (dS : oS.data = .cell sv) (dN : oN.data = .cell nv) (hrs : StrsAt rs (rowBase ++ l2)) (h25 : ∀ x ∈ rowBase ++ l2, x.length ≤ 25 ∧ PyData.strOk x = true) (hl2 : l2.length = i) (hx : x.length ≤ 25) (hxo : PyData.strOk x = true) :
    RowI g L' sc I D R ws news s (i + 1) { s with heap := hh, toks := tk } :=
  ⟨hh, tk, _, c, rowBase ++ (l2 ++ [x]), oS, oN, sv, nv, cv, hv, tv, rfl, fr_same F e, cb_drop N (fun p hp => List.mem_append_right _ hp), dS, dN, by rw [← List.append_assoc]; exact strsAt_push hrs, fun y hy => by
    rw [← List.append_assoc] at hy
    rcases List.mem_append.mp hy with hy | hy
    · exact h25 y hy
    · rw [List.mem_singleton.mp hy]; exact ⟨hx, hxo⟩, l2 ++ [x], rfl, by rw [List.length_append, hl2]; rfl⟩
theorem c_row {w : World} {sc : Addr} {vs : List Value} {ns : List Int} (dp un : Nat) (gd : Option (List Code)) (cn : Str) (cs : Scope) (a : Addr) (ccd : Value) (cl : List (Str × Addr)) (outer : List Env) (A₀ : Around) (base h₀ : Heap) (L : Addr) (m : Str → Option Value) (news : List (Addr × Obj)) (s : Shared)
    (mean : ExcName → Option Value) (mg mb : Str → Option Value) (Q E : Value → Shared → Prop) (hsc : h₀.IsList sc vs.toArray) (hin : IntsAre vs ns) (hn : ns.length ≤ 63)
    (B : Below A₀ base outer h₀) (F : Fr h₀ L s.heap m) (X : (KF w.params).In h₀) (N : News h₀ L s.heap news) (T : Top qv (looseW qv lo) mean mg mb h₀) (hk : cs.kind = .function) (hd : dp + 6 < recursionLimit) (hu : un + 96 < cLine)
    (hret : ∀ R h' tk' rs c l2, Fr h₀ L h' m → News h₀ L h' ((R, listOf rs c) :: news) → (∀ p ∈ news, p.1 < R) → StrsAt rs (rowBase ++ l2) → (∀ x ∈ rowBase ++ l2, x.length ≤ 25 ∧ PyData.strOk x = true) → l2.length ≤ 3 → Q (.ref R) { s with heap := h', toks := tk' }) :
    wpAny (model PySem.Challenge.rw_ij0131_01.row.prog w) (ktrTop dp un gd cn cs L a ccd cl outer) (call (.ref 827) [.ref sc]) Q E s := by
  revert X
  k_fill
  intro X
  refine wpAny_call ?_
  refine' code_defC (binds := [(Str.ofString "script", Value.ref sc)]) ?k1 ?k2 ?k3 ?k4 ?k5 ?kA ?kF ?kK ?k6 ?k7 ?k8 ?k9 ?kB ?kD ?_ ?c2 ?c3 ?c4
  case kA => exact rfl
  case kF => exact rfl
  case kK => assumption
  case k1 => k_asm
  case k2 => k_asm
  case k3 => k_asm
  case k4 => k_asm
  case k5 => k_asm
  case k6 => k_is
  case k7 => k_is
  case k8 => ktr_room
  case k9 => first | exact BindsTo.of_eq rfl | exact binds_K (by k_in) rfl (by k_is) rfl rfl rfl
  case kB => exact rfl
  case kD => decide +kernel
  case c2 => exact rfl
  case c3 => exact rfl
  case c4 => exact rfl
  k_whole
  intro g' L' h' tk' cells' FG' F' N' Y' B' X' T' l1
  try k_lt l1
  k_cells Y'
  rename_i oS oN dS dN
  try simp only [List.cons_append, List.nil_append] at N'
  try dsimp only
  try k_lift B'
  try k_fold
  have hsc' : g'.IsList sc vs.toArray := stays_list FG'.keep hsc
  k_steps
  unfold Stop
  rename Fr g' L' _ _ => FF
  rename News g' L' _ ((_, liObj _ _) :: (_, _) :: (_, _) :: _) => NN
  rename_i R _ lR _ _ D ws _ hI hC _ lD I _ lI
  have hlen3 : (List.take 3 ns).length ≤ 3 := by omega
  refine for_rest (n := (List.take 3 ns).length) (RowI g' L' sc I D R ws news s) ?turn 63 0 _ (by omega) (by omega) ?init
  case init =>
    refine ⟨_, _, _, _, rowBase ++ [], oS, oN, _, _, none, none, none, rfl, fr_same FF ?e, NN, dS, dN, by rw [List.append_nil]; exact rowBase_at, by rw [List.append_nil]; exact rowBase_len, [], rfl, rfl⟩
    intro y
    by_cases h2 : y = Str.ofString "row"
    · subst h2; exact rfl
    by_cases h1 : y = Str.ofString "script"
    · subst h1; rfl
    have e1 : mRow R sc none none none y = none := by simp [mRow, h1, h2]
    rw [e1]
    simp only [h2, if_false]
    exact bindL_one rfl h1
  case turn =>
    clear NN FF dS dN
    rintro i s' hi ⟨hh, tk, rs, c, l, oS, oN, sv, nv, cv, hv, tv, rfl, F1, N1, dS, dN, hrs, h25, l2, rfl, hl2⟩
    cases hx : ws.toArray[i]? with
    | none =>
      have hil : i = (List.take 3 ns).length := by
        have := Array.getElem?_eq_none_iff.mp hx
        rw [List.size_toArray, hI.length] at this
        omega
      refine pn_end (pre := []) rfl F1 N1 (.tail _ (.head _)) (fun _ h => nomatch h) (ne_I lI l1) hx ?_
      intro h9 F9 N9
      simp only [List.nil_append] at N9
      dsimp only [OwitTurn]
      k_steps
      exact hret _ _ _ rs c l2 (by assumption) (cb_drop (by assumption) (fun p hp => by
        rcases List.mem_cons.mp hp with hp | hp
        · exact hp ▸ .tail _ (.tail _ (.head _))
        · exact .tail _ (.tail _ (.tail _ (.tail _ (.tail _ hp)))))) (fun p hp => Nat.lt_trans (l1 p hp) (by omega)) hrs h25 (by omega)
    | some v =>
      have hzR : rs.size ≤ sizeLine := by
        rw [hrs.1, List.length_append, hl2, sizeLine_eq]
        show 6 + i ≤ _
        omega
      have hil : i < (List.take 3 ns).length := by
        have := (Array.getElem?_eq_some_iff.mp hx).1
        rw [List.size_toArray, hI.length] at this
        exact this
      obtain ⟨tv0, hv0⟩ := IntsAre.int_at hI i v (by rw [← hx]; simp)
      subst hv0
      refine pn_item (pre := []) F1 N1 (.tail _ (.head _)) (fun _ h => nomatch h) (ne_I lI l1) hx ?_
      intro h9 F9 N9
      simp only [List.nil_append] at N9
      dsimp only [OwitTurn]
      k_steps
      unfold Stop
      k_here
      refine' LCg.CompSrc.range ?k0 ?k1 ?k2 ?k3 ?k4 ?k5 ?k6 ?_
      case k0 => exact rfl
      case k1 => k_asm
      case k2 => k_asm
      case k3 => assumption
      case k4 => exact rng_small (fm4 _).1 (fm4 _).2
      case k5 => exact rng_size (fm4 _).1 (fm4 _).2
      case k6 => exact rng_n (fm4 _).2
      intro g2
      refine cr_const (fun k ys => ∃ l : List Str, StrsAre ys l ∧ l.length = k ∧ ∀ x ∈ l, x.length = 1 ∧ PyData.strOk x = true) ⟨[], .nil, rfl, fun x hx => nomatch hx⟩ ?turnC ?finC
      case turnC =>
        rintro k v2 I2 oI2 C2 oC2 D2 m2 ys h2 tk2 E2 hk2 ⟨tk9, rfl⟩ ⟨l, hl, hll, h1⟩ hC2 hx2 F2 N2 off2 ne2
        have hk3 := lt3 hk2
        rcases hk3 with rfl | rfl | rfl
        all_goals
          k_steps
          rename_i x9 t9 hx9
          exact LCg.CompEnd.intro (by assumption) N2 _ (fun p hp => hp) off2 trivial ⟨rfl, l ++ [x9], strsAre_snoc hl, by rw [List.length_append, hll]; rfl, fun y hy => by
            rcases List.mem_append.mp hy with hy | hy
            · exact h1 y hy
            · rw [List.mem_singleton.mp hy]; exact hx9⟩
      case finC =>
        rintro ys ⟨l, hl, hll, h1⟩
        have hl3 : l.length ≤ 3 := by rw [hll]; exact toNat3
        clear hll
        k_steps
        all_goals
          refine' rowI_more (cv := some _) (hv := some _) (tv := some _) (tl := [_, _, _]) (by assumption) ?eM (by assumption) (by assumption) (by assumption) hrs h25 hl2 ?lenM ?okM
          case okM => first | assumption | exact strOk_quote (by assumption)
          case lenM => first | omega | exact Nat.le_trans (quoteF_len _) (by omega)
          case eM =>
            intro y
            by_cases h1 : y = Str.ofString "told"
            · subst h1; exact rfl
            by_cases h2 : y = Str.ofString "high"
            · subst h2; exact rfl
            by_cases h3 : y = Str.ofString "cell"
            · subst h3; exact rfl
            simp [mRow, h1, h2, h3]

end
section
section
open PySem PySem.W PyProof.Rows PySem.Calls
set_option maxRecDepth 100000
set_option maxHeartbeats 8000000
def scopeOf (s : Stmt) : Scope := match s with
  | .FunctionDef _ _ _ _ _ _ scope _ _ _ => scope
  | _ => { kind := .function, names := [], isGenerator := false, isCoroutine := false }
def bodyOf (s : Stmt) : List Stmt := match s with
  | .FunctionDef _ _ body _ _ _ _ _ _ _ => body
  | .For _ _ body _ _ => body
  | _ => []
def nthOf (l : List Stmt) (i : Nat) : Stmt := match l[i]? with
  | some s => s
  | none => .Pass ⟨0, 0, 0, 0⟩
def lawAt (i : Nat) : Stmt := nthOf (bodyOf (stmAt 35)) i
def turnAt (i : Nat) : Stmt := nthOf (bodyOf (lawAt 1)) i
def lawScope : Scope := scopeOf (stmAt 35)
abbrev lawCells (L : Addr) : List (Str × Addr) := cellsFrom (L + 1) lawScope.names []
abbrev mLaw (sc : Addr) (row turn quoted roots tips : Option Value) : Str → Option Value := fun y => if y = Str.ofString "tips" then tips else if y = Str.ofString "roots" then roots else if y = Str.ofString "quoted" then quoted else if y = Str.ofString "turn" then turn else if y = Str.ofString "row" then row else if y = Str.ofString "script" then some (.ref sc) else none
theorem off1_mem {D : Addr} : ∀ {l : List (Addr × Obj)}, LCg.Off1 D l → ∀ p ∈ l, p.1 ≠ D
  | [], _, _, h => nomatch h
  | _ :: _, x, p, h => by
    rcases List.mem_cons.mp h with rfl | h
    · exact x.1
    · exact off1_mem x.2 p h
theorem off1_of {D : Addr} : ∀ {l : List (Addr × Obj)}, (∀ p ∈ l, p.1 ≠ D) → LCg.Off1 D l
  | [], _ => trivial
  | _ :: _, h => ⟨h _ List.mem_cons_self, off1_of fun p hp => h p (List.mem_cons_of_mem _ hp)⟩
theorem finE_mono {h₀ : Heap} {L : Addr} {m : Str → Option Value} {s : Shared} {Q : Value → Shared → Prop} {ys : List Value} {nw nw' : List (Addr × Obj)} (h : ∀ p ∈ nw', p ∈ nw) (f : LCg.FinE h₀ L m s Q ys nw') : LCg.FinE h₀ L m s Q ys nw := by
  intro D g tk F N o
  refine f D g tk F (cb_drop N fun p hp => ?_) (off1_of fun p hp => off1_mem o p (h p hp))
  rcases List.mem_cons.mp hp with rfl | hp
  · exact .head _
  · exact .tail _ (h p hp)
theorem finA_mono {h₀ : Heap} {L : Addr} {m : Str → Option Value} {s : Shared} {y : Str} {Q : Flow → Shared → Prop} {ys : List Value} {nw nw' : List (Addr × Obj)} (h : ∀ p ∈ nw', p ∈ nw) (f : LCg.FinA h₀ L m s y Q ys nw') : LCg.FinA h₀ L m s y Q ys nw := by
  intro D g tk F N o
  refine f D g tk F (cb_drop N fun p hp => ?_) (off1_of fun p hp => off1_mem o p (h p hp))
  rcases List.mem_cons.mp hp with rfl | hp
  · exact .head _
  · exact .tail _ (h p hp)
theorem comp_close {h₀ : Heap} {L I C D : Addr} {m : Str → Option Value} {s₁ : Shared} {oI oC oD : Obj} {S : List (Addr × Obj) → Prop} {rest : Value → List (Addr × Obj) → Prop} {y : Value} {h' : Heap} {tk : Nat} {tl nw : List (Addr × Obj)}
    (F : Fr h₀ L h' m) (N : News h₀ L h' (tl ++ (I, oI) :: (C, oC) :: (D, oD) :: nw)) (l : ∀ q ∈ (I, oI) :: (C, oC) :: (D, oD) :: nw, ∀ p ∈ tl, q.1 < p.1) (off : LCg.Off3 I C D nw) (hS : S (tl ++ nw)) (r : rest y (tl ++ nw)) :
    LCg.CompEnd h₀ L m s₁ I oI C oC D oD S rest y { s₁ with heap := h', toks := tk } := by
  refine LCg.CompEnd.intro F N (tl ++ nw) (fun p hp => ?_) (LCg.Off3.of fun p hp => ?_) hS r
  · rcases List.mem_cons.mp hp with rfl | hp
    · exact List.mem_append_right _ (.head _)
    rcases List.mem_cons.mp hp with rfl | hp
    · exact List.mem_append_right _ (.tail _ (.head _))
    rcases List.mem_cons.mp hp with rfl | hp
    · exact List.mem_append_right _ (.tail _ (.tail _ (.head _)))
    rcases List.mem_append.mp hp with hp | hp
    · exact List.mem_append_left _ hp
    · exact List.mem_append_right _ (.tail _ (.tail _ (.tail _ hp)))
  · rcases List.mem_append.mp hp with hp | hp
    · exact ⟨Ne.symm (Nat.ne_of_lt (l _ (.head _) p hp)), Ne.symm (Nat.ne_of_lt (l _ (.tail _ (.head _)) p hp)), Ne.symm (Nat.ne_of_lt (l _ (.tail _ (.tail _ (.head _))) p hp))⟩
    · exact off.mem p hp
theorem strsAt_are {ys : List Value} {l : List Str} (h : StrsAre ys l) : StrsAt ys.toArray l := by
  induction h with
  | nil => exact ⟨rfl, fun i v h => by simp at h⟩
  | cons x t h ih =>
    refine ⟨by simp only [List.size_toArray, List.length_cons]; have := ih.1; rw [List.size_toArray] at this; rw [this], fun i v e => ?_⟩
    cases i with
    | zero =>
      simp at e
      exact ⟨t, by simp [← e]⟩
    | succ i =>
      obtain ⟨u, hu⟩ := ih.2 i v (by simpa using e)
      exact ⟨u, by simpa using hu⟩
theorem datAll_snoc {n : List (Addr × Obj)} {v : Value} {d : Dat} : ∀ {ys : List Value} {ds : List Dat}, DatAll n ys ds → DatIn n v d → DatAll n (ys ++ [v]) (ds ++ [d])
  | _, _, .nil, hd => .cons hd .nil
  | _, _, .cons h r, hd => .cons h (datAll_snoc r hd)
theorem datAll_get {n : List (Addr × Obj)} : ∀ {ys : List Value} {ds : List Dat} {i : Nat} {v : Value}, DatAll n ys ds → ys[i]? = some v → ∃ d, ds[i]? = some d ∧ DatIn n v d
  | _, _, _, _, .nil, h => by simp at h
  | _, _, 0, _, .cons h r, e => by
    simp only [List.getElem?_cons_zero, Option.some.injEq] at e
    exact ⟨_, rfl, e ▸ h⟩
  | _, _, i + 1, _, .cons h r, e => by
    simp only [List.getElem?_cons_succ] at e ⊢
    exact datAll_get r e
theorem datAll_len {n : List (Addr × Obj)} : ∀ {ys : List Value} {ds : List Dat}, DatAll n ys ds → ys.length = ds.length
  | _, _, .nil => rfl
  | _, _, .cons h r => by rw [List.length_cons, List.length_cons, datAll_len r]
theorem strsAt_get {rs : Array Value} {l : List Str} {i : Nat} {v : Value} (h : StrsAt rs l) (e : rs[i]? = some v) : ∃ x t, v = Value.str x t ∧ l[i]? = some x := by
  obtain ⟨t, rfl⟩ := h.2 i v e
  have hi : i < rs.size := (Array.getElem?_eq_some_iff.mp e).1
  have hl : i < l.length := h.1 ▸ hi
  exact ⟨_, t, rfl, by rw [List.getElem?_eq_getElem hl]; simp [hl]⟩
theorem take_snoc {α : Type} {l : List α} {i : Nat} {x : α} (h : l[i]? = some x) : l.take (i + 1) = l.take i ++ [x] := by
  rw [List.take_add_one, h]
  rfl
theorem take_snocF {α β : Type} {f : α → β} {l : List α} {i : Nat} {x : α} (h : l[i]? = some x) : (l.take (i + 1)).map f = (l.take i).map f ++ [f x] := by
  rw [take_snoc h, List.map_append]
  rfl
theorem ne_below {tx : List (Addr × Obj)} {d c : Addr} (h : ∀ p ∈ tx, @LT.lt Nat _ d p.1) (hc : @LE.le Nat _ c d) : ∀ p ∈ tx, p.1 ≠ c := fun p hp => Nat.ne_of_gt (Nat.lt_of_le_of_lt hc (h p hp))
theorem sub3 {α : Type} {a b c : α} {ty tx : List α} : ∀ p ∈ a :: b :: c :: (ty ++ tx), p ∈ ty ++ a :: b :: c :: tx := by
  intro p hp
  simp only [List.mem_cons, List.mem_append] at hp ⊢
  rcases hp with h | h | h | h | h
  · exact .inr (.inl h)
  · exact .inr (.inr (.inl h))
  · exact .inr (.inr (.inr (.inl h)))
  · exact .inl h
  · exact .inr (.inr (.inr (.inr h)))
theorem sub4 {α : Type} {a b c d : α} {ty tx : List α} : ∀ p ∈ a :: b :: c :: d :: (ty ++ tx), p ∈ ty ++ a :: b :: c :: d :: tx := by
  intro p hp
  simp only [List.mem_cons, List.mem_append] at hp ⊢
  rcases hp with h | h | h | h | h | h
  · exact .inr (.inl h)
  · exact .inr (.inr (.inl h))
  · exact .inr (.inr (.inr (.inl h)))
  · exact .inr (.inr (.inr (.inr (.inl h))))
  · exact .inl h
  · exact .inr (.inr (.inr (.inr (.inr h))))
theorem sub5 {α : Type} {a b c d e : α} {ty tx : List α} : ∀ p ∈ a :: b :: c :: d :: e :: (ty ++ tx), p ∈ ty ++ a :: b :: c :: d :: e :: tx := by
  intro p hp
  rcases List.mem_cons.mp hp with h | hp
  · exact List.mem_append_right _ (h ▸ .head _)
  rcases List.mem_append.mp (sub4 p hp) with h | h
  · exact List.mem_append_left _ h
  · exact List.mem_append_right _ (.tail _ h)
theorem linkD_inj {a b : Str × Int} (h : linkD a = linkD b) : a = b := by
  unfold linkD at h
  injection h with h
  injection h with h1 h2
  injection h2 with h3 h4
  injection h1 with h1
  injection h3 with h3
  exact Prod.ext h1 h3
theorem mem_linkD {r : Str × Int} {l : List (Str × Int)} : linkD r ∈ l.map linkD ↔ r ∈ l := by
  rw [List.mem_map]
  exact ⟨fun ⟨a, ha, e⟩ => linkD_inj e ▸ ha, fun h => ⟨r, h, rfl⟩⟩
theorem linkD_ok {l : List (Str × Int)} (h : ∀ r ∈ l, kqdOk 8 (linkD r) = true) : ∀ d ∈ l.map linkD, kqdOk 8 d = true := by
  intro d hd
  obtain ⟨r, hr, rfl⟩ := List.mem_map.mp hd
  exact h r hr
theorem linkL_ok {l : List Str} (h : ∀ x ∈ l, kqdOk 8 (linkD (linkAt x 0)) = true) : ∀ d ∈ (l.map fun x => linkD (linkAt x 0)), kqdOk 8 d = true := by
  intro d hd
  obtain ⟨r, hr, rfl⟩ := List.mem_map.mp hd
  exact h r hr
theorem add_two {prog : Program} {w : World} {A : Around} {E : Value → Shared → Prop} {s : Shared} {h₀ : Heap} {L R TI : Addr} {m : Str → Option Value} {nw : List (Addr × Obj)} {rs vs : Array Value} {c d : Nat} {Q : Value → Shared → Prop} (F : Fr h₀ L s.heap m) (N : News h₀ L s.heap nw) (hm : (R, listOf rs c) ∈ nw) (hmt : (TI, listOf vs d) ∈ nw) (h1 : rs.size ≤ 1000) (h2 : vs.size ≤ 1000)
    (h : ∀ R' h', Fr h₀ L h' m → News h₀ L h' ((R', listOf (rs.toList ++ vs.toList).toArray 0) :: nw) → (∀ p ∈ nw, p.1 < R') → Q (.ref R') { s with heap := h' }) : wpAny (model prog w) A (binaryOp .Add (.ref R) (.ref TI)) Q E s := by
  have a1 : s.heap.IsList R rs.toList.toArray := ⟨_, (N _ hm).1, rfl, _, rfl⟩
  have a2 : s.heap.IsList TI vs.toList.toArray := ⟨_, (N _ hmt).1, rfl, _, rfl⟩
  exact add_lists F N a1 a2 (fun h' F' N' => h _ h' F' N' (fun p hp => Heap.lt_size (N p hp).1)) (by rw [Array.length_toList, Array.length_toList, sizeLine_eq]; omega)
theorem strsAt_add {rs vs : Array Value} {l k : List Str} (h1 : StrsAt rs l) (h2 : StrsAt vs k) : StrsAt (rs.toList ++ vs.toList).toArray (l ++ k) := by
  refine ⟨by rw [List.size_toArray, List.length_append, List.length_append, Array.length_toList, Array.length_toList, h1.1, h2.1], fun i v hv => ?_⟩
  have hv : (rs.toList ++ vs.toList)[i]? = some v := by simpa using hv
  rw [List.getElem?_append] at hv
  split at hv
  · next hlt =>
    obtain ⟨t, ht⟩ := h1.2 i v (by simpa using hv)
    have hl : i < l.length := by rw [← h1.1]; simpa using hlt
    exact ⟨t, by rw [ht, List.getD_eq_getElem?_getD, List.getD_eq_getElem?_getD, List.getElem?_append_left hl]⟩
  · next hge =>
    have hge : rs.size ≤ i := by simpa using hge
    obtain ⟨t, ht⟩ := h2.2 (i - rs.size) v (by simpa using hv)
    refine ⟨t, ?_⟩
    rw [ht, List.getD_eq_getElem?_getD, List.getD_eq_getElem?_getD, List.getElem?_append_right (by rw [← h1.1]; exact hge), ← h1.1]

end
open PySem PySem.W PyProof.Rows PySem.Calls
set_option maxRecDepth 100000
set_option maxHeartbeats 8000000
local macro_rules | `(tactic| walk_at "CompSrc") => `(tactic| (k_here; refine stop_intro ?_))
local macro_rules | `(tactic| walk_at "CompSrcT") => `(tactic| (k_here; refine stop_intro ?_))
section
open PySem PySem.W PyProof.Rows PySem.Calls
set_option maxRecDepth 100000
set_option maxHeartbeats 8000000
local macro_rules | `(tactic| walk_at "call ref") => `(tactic| (k_here; (with_reducible show wpAny _ _ (call (Value.ref 815) [Value.str _ _]) _ _ _); k_dflt (refine' use_link ?kx ?k1 ?k2 ?k3 ?k4 ?k5 ?k6 ?k7 ?k8 ?_; (case kx => assumption); (case k1 => k_asm); (case k2 => k_asm); (case k3 => k_asm); (case k4 => k_asm); (case k5 => k_asm); (case k6 => first | exact rfl | assumption); (case k7 => ktr_room); (case k8 => ktr_units); k_whole); intro h9 tk9 v9 tl9 F9 N9 l9 hv9; (try dsimp only); (try k_fold)))
local macro_rules | `(tactic| k_all) => `(tactic| (refine' ne_below ?a ?b; (case a => assumption); (case b => omega)))
theorem law_links {R : Addr} {rs : Array Value} {c : Nat} {l : List Str} {w : World} (dp un : Nat) (gd : Option (List Code)) (a : Addr) (ccd : Value) (A₀ : Around) (base h₀ : Heap) (L : Addr) (s : Shared) (mean : ExcName → Option Value) (mg mb : Str → Option Value) (Q : Flow → Shared → Prop) (E : Value → Shared → Prop) (rest : List Stmt)
    (B : Below A₀ base [] h₀) (X : (KF w.params).In h₀) (T : Top qv (looseW qv lo) mean mg mb h₀) (hd : dp + 12 < recursionLimit) (hu : un + 130 < cLine)
    {oA oL : Obj} {av lv : Option Value} {tx : List (Addr × Obj)} {sc : Addr} {tn qo ro ti : Option Value} (dA : oA.data = .cell av) (dL : oL.data = .cell lv) (hrs : StrsAt rs l) (hlen : ∀ x ∈ l, x.length ≤ 1000) (hn : l.length ≤ 1000) (lR : @Ne Nat (L + 1 + 1) R ∧ @Ne Nat (L + 1) R) (htx : ∀ p ∈ tx, @LT.lt Nat _ (L + 1 + 1) p.1)
    (F : Fr h₀ L s.heap (mLaw sc (some (.ref R)) tn qo ro ti)) (N : News h₀ L s.heap ((R, listOf rs c) :: (L + 1 + 1, oA) :: (L + 1, oL) :: tx))
    (hret : ∀ h' tk' KL kvs ty oL', Fr h₀ L h' (mLaw sc (some (.ref R)) tn qo ro ti) → News h₀ L h' ((KL, LCg.lst kvs) :: (R, listOf rs c) :: (L + 1 + 1, oA) :: (L + 1, oL') :: (ty ++ tx)) → oL'.data = .cell (some (.ref KL)) → DatAll ty kvs (l.map fun x => linkD (linkAt x 0)) → (∀ p ∈ ty ++ tx, @LT.lt Nat _ (L + 1 + 1) p.1) → (@Ne Nat (L + 1 + 1) KL ∧ @Ne Nat (L + 1) KL) → wpAny (model PySem.Challenge.rw_ij0131_01.row.prog w) (ktrTop dp un gd (Str.ofString "law") lawScope L a ccd (lawCells L) []) (execs (rest) (envX (Str.ofString "law") lawScope L a ccd (lawCells L))) Q E { s with heap := h', toks := tk' }) :
    wpAny (model PySem.Challenge.rw_ij0131_01.row.prog w) (ktrTop dp un gd (Str.ofString "law") lawScope L a ccd (lawCells L) []) (execs (turnAt 0 :: rest) (envX (Str.ofString "law") lawScope L a ccd (lawCells L))) Q E s := by
  revert X
  k_fill
  intro X
  have hsc : lawScope = lawScope := rfl
  conv at hsc => lhs; whnf
  rw [← hsc] at hret ⊢
  clear hsc
  have hcl : lawCells L = lawCells L := rfl
  conv at hcl => lhs; whnf
  rw [← hcl] at hret ⊢
  clear hcl
  have hst : turnAt 0 = turnAt 0 := rfl
  conv at hst => lhs; whnf
  rw [← hst]
  clear hst
  k_steps
  unfold Stop
  refine' LCg.CompSrc.ledger ?k0 ?k1 ?k2 ?k3 ?k4 ?_
  case k0 => exact rfl
  case k1 => k_asm
  case k2 => k_asm
  case k3 => first | exact .head _ | k_mem
  case k4 => rw [hrs.1, sizeLine_eq]; omega
  intro g2
  refine cr_inv (fun i ys nw => ∃ ty, nw = ty ++ ((R, listOf rs c) :: (L + 1 + 1, oA) :: (L + 1, oL) :: tx) ∧ DatAll ty ys ((l.take i).map fun x => linkD (linkAt x 0)) ∧ ∀ p ∈ ty, @LT.lt Nat _ (L + 1 + 1) p.1) ⟨[], rfl, .nil, fun _ h => nomatch h⟩ ?turn ?fin
  case turn =>
    clear N F
    rintro i v I2 oI2 C2 oC2 D2 m2 ys nw h2 tk2 E2 hi hv ⟨ty, rfl, hD, hz⟩ hC2 hx2 F2 N2 off2 ne2
    obtain ⟨x, t9, rfl, hxl⟩ := strsAt_get hrs hv
    have hx9 : x.length ≤ 1000 := hlen x (List.mem_of_getElem? hxl)
    k_steps
    rename_i h9 tk9 v9 tl9 F9 N9 l9 hv9
    refine comp_close F9 N9 l9 off2 (.inr ⟨_, List.mem_append_right _ (List.mem_append_right _ (.head _)), rfl, _, rfl⟩) ⟨tl9 ++ ty, (List.append_assoc _ _ _).symm, ?_, ?_⟩
    · rw [take_snocF hxl]
      exact datAll_snoc (hD.mono fun p hp => List.mem_append_right _ hp) (hv9.mono fun p hp => List.mem_append_left _ hp)
    · intro p hp
      rcases List.mem_append.mp hp with hp | hp
      · exact l9 _ (.tail _ (.tail _ (.tail _ (List.mem_append_right _ (.tail _ (.head _)))))) p hp
      · exact hz p hp
  case fin =>
    rintro ys nw ⟨ty, rfl, hD, hz⟩
    have hz2 : ∀ p ∈ ty ++ tx, @LT.lt Nat _ (L + 1 + 1) p.1 := fun p hp => (List.mem_append.mp hp).elim (hz p) (htx p)
    refine finE_mono (nw' := (R, listOf rs c) :: (L + 1 + 1, oA) :: (L + 1, oL) :: (ty ++ tx)) (fun p hp => ?_) ?_
    · exact sub3 p hp
    rw [hrs.1, List.take_length] at hD
    k_steps
    exact hret _ _ _ _ _ _ (by assumption) (by assumption) (by assumption) hD hz2 ⟨by omega, by omega⟩

open PySem PySem.W PyProof.Rows PySem.Calls
set_option maxRecDepth 100000
set_option maxHeartbeats 8000000
local macro_rules | `(tactic| walk_at "compareOp NotIn") => `(tactic| (k_here; (with_reducible show wpAny _ _ (compareOp CmpOp.NotIn (Value.ref _) (Value.ref _)) _ _ _); refine stop_intro ?_))
local macro_rules | `(tactic| walk_at "compareOp NotEq ref ref") => `(tactic| (k_here; (with_reducible show wpAny _ _ (compareOp CmpOp.NotEq (Value.ref _) (Value.ref _)) _ _ _); refine stop_intro ?_))
open Classical in
theorem law_if1 {AL KL RO : Addr} {avs kvs : List Value} {vs : Array Value} {c : Nat} {l : List Str} {ars krs : List (Str × Int)} {w : World} (dp un : Nat) (gd : Option (List Code)) (a : Addr) (ccd : Value) (A₀ : Around) (base h₀ : Heap) (L : Addr) (s : Shared) (mean : ExcName → Option Value) (mg mb : Str → Option Value) (Q : Flow → Shared → Prop) (E : Value → Shared → Prop) (rest : List Stmt)
    (B : Below A₀ base [] h₀) (X : (KF w.params).In h₀) (T : Top qv (looseW qv lo) mean mg mb h₀) (hd : dp + 12 < recursionLimit) (hu : un + 130 < cLine)
    {oA oL : Obj} {tx : List (Addr × Obj)} {sc : Addr} {row tn qo ti : Option Value} (dA : oA.data = .cell (some (.ref AL))) (dL : oL.data = .cell (some (.ref KL))) (hks : DatAll tx kvs (krs.map linkD)) (has : DatAll tx avs (ars.map linkD)) (hvs : StrsAt vs l) (hlen : ∀ x ∈ l, x.length ≤ 1000) (hn : l.length ≤ 1000) (hkn : krs.length ≤ 1000) (han : ars.length ≤ 1000) (hko : ∀ r ∈ krs, kqdOk 8 (linkD r) = true) (hao : ∀ r ∈ ars, kqdOk 8 (linkD r) = true) (hlo : ∀ x ∈ l, kqdOk 8 (linkD (linkAt x 0)) = true)
    (htx : ∀ p ∈ tx, @LT.lt Nat _ (L + 1 + 1) p.1) (heq : (l.map fun x => linkAt x 0) = krs.filter (fun d => !decide (d ∈ ars)))
    (F : Fr h₀ L s.heap (mLaw sc row tn qo (some (.ref RO)) ti)) (N : News h₀ L s.heap ((AL, LCg.lst avs) :: (KL, LCg.lst kvs) :: (RO, listOf vs c) :: (L + 1 + 1, oA) :: (L + 1, oL) :: tx))
    (hret : ∀ h' tk', Fr h₀ L h' (mLaw sc row tn qo (some (.ref RO)) ti) → News h₀ L h' ((AL, LCg.lst avs) :: (KL, LCg.lst kvs) :: (RO, listOf vs c) :: (L + 1 + 1, oA) :: (L + 1, oL) :: tx) → wpAny (model PySem.Challenge.rw_ij0131_01.row.prog w) (ktrTop dp un gd (Str.ofString "law") lawScope L a ccd (lawCells L) []) (execs (rest) (envX (Str.ofString "law") lawScope L a ccd (lawCells L))) Q E { s with heap := h', toks := tk' }) :
    wpAny (model PySem.Challenge.rw_ij0131_01.row.prog w) (ktrTop dp un gd (Str.ofString "law") lawScope L a ccd (lawCells L) []) (execs (turnAt 5 :: rest) (envX (Str.ofString "law") lawScope L a ccd (lawCells L))) Q E s := by
  revert X
  k_fill
  intro X
  have hsc : lawScope = lawScope := rfl
  conv at hsc => lhs; whnf
  rw [← hsc] at hret ⊢
  clear hsc
  have hcl : lawCells L = lawCells L := rfl
  conv at hcl => lhs; whnf
  rw [← hcl] at hret ⊢
  clear hcl
  have hst : turnAt 5 = turnAt 5 := rfl
  conv at hst => lhs; whnf
  rw [← hst]
  clear hst
  k_steps
  unfold Stop
  refine' LCg.CompSrc.ledger ?k0 ?k1 ?k2 ?k3 ?k4 ?_
  case k0 => exact rfl
  case k1 => k_asm
  case k2 => k_asm
  case k3 => first | exact .head _ | k_mem
  case k4 => rw [hvs.1, sizeLine_eq]; omega
  intro g2
  refine cr_inv (fun i ys nw => ∃ ty, nw = ty ++ ((AL, LCg.lst avs) :: (KL, LCg.lst kvs) :: (RO, listOf vs c) :: (L + 1 + 1, oA) :: (L + 1, oL) :: tx) ∧ DatAll ty ys ((l.take i).map fun x => linkD (linkAt x 0)) ∧ ∀ p ∈ ty, @LT.lt Nat _ (L + 1 + 1) p.1) ⟨[], rfl, .nil, fun _ h => nomatch h⟩ ?turn ?fin
  case turn =>
    clear N F
    rintro i v I2 oI2 C2 oC2 D2 m2 ys nw h2 tk2 E2 hi hv ⟨ty, rfl, hD, hz⟩ hC2 hx2 F2 N2 off2 ne2
    obtain ⟨x, t9, rfl, hxl⟩ := strsAt_get hvs hv
    have hx9 : x.length ≤ 1000 := hlen x (List.mem_of_getElem? hxl)
    k_steps
    rename_i h9 tk9 v9 tl9 F9 N9 l9 hv9
    refine comp_close F9 N9 l9 off2 (.inr ⟨_, List.mem_append_right _ (List.mem_append_right _ (.tail _ (.tail _ (.head _)))), rfl, _, rfl⟩) ⟨tl9 ++ ty, (List.append_assoc _ _ _).symm, ?_, ?_⟩
    · rw [take_snocF hxl]
      exact datAll_snoc (hD.mono fun p hp => List.mem_append_right _ hp) (hv9.mono fun p hp => List.mem_append_left _ hp)
    · intro p hp
      rcases List.mem_append.mp hp with hp | hp
      · exact l9 _ (.tail _ (.tail _ (.tail _ (List.mem_append_right _ (.tail _ (.tail _ (.tail _ (.head _)))))))) p hp
      · exact hz p hp
  case fin =>
    rintro ys nw ⟨ty, rfl, hD, hz⟩
    refine finE_mono (nw' := (AL, LCg.lst avs) :: (KL, LCg.lst kvs) :: (RO, listOf vs c) :: (L + 1 + 1, oA) :: (L + 1, oL) :: (ty ++ tx)) (fun p hp => ?_) ?_
    · exact sub5 p hp
    rw [hvs.1, List.take_length] at hD
    k_steps
    rename_i D1 h1 tk1 F1 N1 o1
    unfold Stop
    have hsl : kvs.length = krs.length := by rw [datAll_len hks, List.length_map]
    have hT : ∀ p ∈ tx, p ∈ (D1, LCg.lst ys) :: (AL, LCg.lst avs) :: (KL, LCg.lst kvs) :: (RO, listOf vs c) :: (L + 1 + 1, oA) :: (L + 1, oL) :: (ty ++ tx) := fun p hp => .tail _ (.tail _ (.tail _ (.tail _ (.tail _ (.tail _ (List.mem_append_right _ hp))))))
    refine' LCt.CompSrcT.ledger ?k0 ?k1 ?k2 ?k3 ?k4 ?_
    case k0 => exact rfl
    case k1 => k_asm
    case k2 => k_asm
    case k3 => exact .tail _ (.tail _ (.head _))
    case k4 => rw [List.size_toArray, hsl, sizeLine_eq]; omega
    intro g3
    refine cr_invT (fun i zs nw => nw = (D1, LCg.lst ys) :: (AL, LCg.lst avs) :: (KL, LCg.lst kvs) :: (RO, listOf vs c) :: (L + 1 + 1, oA) :: (L + 1, oL) :: (ty ++ tx) ∧ DatAll tx zs (((krs.take i).filter (fun d => !decide (d ∈ ars))).map linkD)) ⟨rfl, .nil⟩ ?turn2 ?fin2
    case turn2 =>
      clear N1 F1 N F
      rintro i v I3 oI3 C3 oC3 D3 m3 zs nw h3 tk3 E3 hi hv ⟨rfl, hZ⟩ hC3 hx3 F3 N3 off3 ne3
      have hv2 : kvs[i]? = some v := by simpa using hv
      obtain ⟨d, hd2, hdv⟩ := datAll_get hks hv2
      rw [List.getElem?_map] at hd2
      obtain ⟨r, hrl, rfl⟩ := Option.map_eq_some_iff.mp hd2
      obtain ⟨b, nn, t9, u9, rfl, hm⟩ := linkD_inv hdv
      k_steps
      unfold Stop
      refine' kqd_notIn (oa := LCg.lst avs) ?q1 ?q2 rfl rfl has ?q3 hdv ?q4 ?q5 ?q6 ?q7 ?_
      case q1 => k_asm
      case q2 => exact .tail _ (.tail _ (.tail _ (.tail _ (.head _))))
      case q3 => exact fun p hp => .tail _ (.tail _ (.tail _ (hT p hp)))
      case q4 => exact fun p hp => .tail _ (.tail _ (.tail _ (hT p hp)))
      case q5 => exact linkD_ok hao
      case q6 => exact hko r (List.mem_of_getElem? hrl)
      case q7 => first | (show un + 64 < cLine; omega) | ktr_units
      by_cases hin : r ∈ ars
      · rw [decide_eq_true (mem_linkD.mpr hin)]
        k_steps
        refine LCg.CompEnd.intro (by assumption) (by assumption) _ (fun p hp => hp) off3 (.inr ⟨_, .tail _ (.tail _ (.head _)), rfl, _, rfl⟩) ⟨rfl, ?_⟩
        rw [take_snoc hrl, List.filter_append, show [r].filter (fun d => !decide (d ∈ ars)) = [] by simp [hin], List.append_nil]
        exact hZ
      · rw [decide_eq_false (fun h => hin (mem_linkD.mp h))]
        k_steps
        refine LCg.CompEnd.intro (by assumption) (by assumption) _ (fun p hp => hp) off3 (.inr ⟨_, .tail _ (.tail _ (.head _)), rfl, _, rfl⟩) ⟨rfl, ?_⟩
        rw [take_snoc hrl, List.filter_append, show [r].filter (fun d => !decide (d ∈ ars)) = [r] by simp [hin], List.map_append]
        exact datAll_snoc hZ hdv
    case fin2 =>
      rintro zs nw ⟨rfl, hZ⟩
      rw [List.size_toArray, hsl, List.take_length, ← heq] at hZ
      k_steps
      unfold Stop
      refine' kqd_ne (oa := LCg.lst ys) (ob := LCg.lst zs) ?r1 ?r2 rfl rfl hD ?r3 ?r4 rfl rfl hZ ?r5 ?r6 ?r7 ?r8 ?_
      case r1 => k_asm
      case r2 => first | exact .tail _ (.head _) | k_mem
      case r3 => exact fun p hp => .tail _ (.tail _ (.tail _ (.tail _ (.tail _ (.tail _ (.tail _ (List.mem_append_left _ hp)))))))
      case r4 => first | exact .head _ | k_mem
      case r5 => exact fun p hp => .tail _ (hT p hp)
      case r6 => exact linkL_ok hlo
      case r7 => rw [List.map_map]; exact linkL_ok hlo
      case r8 => first | (show un + 64 < cLine; omega) | ktr_units
      rw [decide_eq_true (by rw [List.map_map]; rfl)]
      k_steps
      exact hret _ _ (by assumption) (cb_drop (by assumption) (fun p hp => by
        simp only [List.mem_cons, List.mem_append] at hp ⊢
        rcases hp with h | h | h | h | h | h <;> simp [h]))

open PySem PySem.W PyProof.Rows PySem.Calls
set_option maxRecDepth 100000
set_option maxHeartbeats 8000000
open Classical in
theorem law_if2 {AL KL RO : Addr} {avs kvs : List Value} {vs : Array Value} {c : Nat} {l : List Str} {ars krs : List (Str × Int)} {w : World} (dp un : Nat) (gd : Option (List Code)) (a : Addr) (ccd : Value) (A₀ : Around) (base h₀ : Heap) (L : Addr) (s : Shared) (mean : ExcName → Option Value) (mg mb : Str → Option Value) (Q : Flow → Shared → Prop) (E : Value → Shared → Prop) (rest : List Stmt)
    (B : Below A₀ base [] h₀) (X : (KF w.params).In h₀) (T : Top qv (looseW qv lo) mean mg mb h₀) (hd : dp + 12 < recursionLimit) (hu : un + 130 < cLine)
    {oA oL : Obj} {tx : List (Addr × Obj)} {sc : Addr} {row tn qo ro : Option Value} (dA : oA.data = .cell (some (.ref AL))) (dL : oL.data = .cell (some (.ref KL))) (hks : DatAll tx kvs (krs.map linkD)) (has : DatAll tx avs (ars.map linkD)) (hvs : StrsAt vs l) (hlen : ∀ x ∈ l, x.length ≤ 1000) (hn : l.length ≤ 1000) (hkn : krs.length ≤ 1000) (han : ars.length ≤ 1000) (hko : ∀ r ∈ krs, kqdOk 8 (linkD r) = true) (hao : ∀ r ∈ ars, kqdOk 8 (linkD r) = true) (hlo : ∀ x ∈ l, kqdOk 8 (linkD (linkAt x 0)) = true)
    (htx : ∀ p ∈ tx, @LT.lt Nat _ (L + 1 + 1) p.1) (heq : (l.map fun x => linkAt x 0) = ars.filter (fun d => !decide (d ∈ krs)))
    (F : Fr h₀ L s.heap (mLaw sc row tn qo ro (some (.ref RO)))) (N : News h₀ L s.heap ((AL, LCg.lst avs) :: (KL, LCg.lst kvs) :: (RO, listOf vs c) :: (L + 1 + 1, oA) :: (L + 1, oL) :: tx))
    (hret : ∀ h' tk', Fr h₀ L h' (mLaw sc row tn qo ro (some (.ref RO))) → News h₀ L h' ((AL, LCg.lst avs) :: (KL, LCg.lst kvs) :: (RO, listOf vs c) :: (L + 1 + 1, oA) :: (L + 1, oL) :: tx) → wpAny (model PySem.Challenge.rw_ij0131_01.row.prog w) (ktrTop dp un gd (Str.ofString "law") lawScope L a ccd (lawCells L) []) (execs (rest) (envX (Str.ofString "law") lawScope L a ccd (lawCells L))) Q E { s with heap := h', toks := tk' }) :
    wpAny (model PySem.Challenge.rw_ij0131_01.row.prog w) (ktrTop dp un gd (Str.ofString "law") lawScope L a ccd (lawCells L) []) (execs (turnAt 6 :: rest) (envX (Str.ofString "law") lawScope L a ccd (lawCells L))) Q E s := by
  revert X
  k_fill
  intro X
  have hsc : lawScope = lawScope := rfl
  conv at hsc => lhs; whnf
  rw [← hsc] at hret ⊢
  clear hsc
  have hcl : lawCells L = lawCells L := rfl
  conv at hcl => lhs; whnf
  rw [← hcl] at hret ⊢
  clear hcl
  have hst : turnAt 6 = turnAt 6 := rfl
  conv at hst => lhs; whnf
  rw [← hst]
  clear hst
  k_steps
  unfold Stop
  refine' LCg.CompSrc.ledger ?k0 ?k1 ?k2 ?k3 ?k4 ?_
  case k0 => exact rfl
  case k1 => k_asm
  case k2 => k_asm
  case k3 => first | exact .head _ | k_mem
  case k4 => rw [hvs.1, sizeLine_eq]; omega
  intro g2
  refine cr_inv (fun i ys nw => ∃ ty, nw = ty ++ ((AL, LCg.lst avs) :: (KL, LCg.lst kvs) :: (RO, listOf vs c) :: (L + 1 + 1, oA) :: (L + 1, oL) :: tx) ∧ DatAll ty ys ((l.take i).map fun x => linkD (linkAt x 0)) ∧ ∀ p ∈ ty, @LT.lt Nat _ (L + 1 + 1) p.1) ⟨[], rfl, .nil, fun _ h => nomatch h⟩ ?turn ?fin
  case turn =>
    clear N F
    rintro i v I2 oI2 C2 oC2 D2 m2 ys nw h2 tk2 E2 hi hv ⟨ty, rfl, hD, hz⟩ hC2 hx2 F2 N2 off2 ne2
    obtain ⟨x, t9, rfl, hxl⟩ := strsAt_get hvs hv
    have hx9 : x.length ≤ 1000 := hlen x (List.mem_of_getElem? hxl)
    k_steps
    rename_i h9 tk9 v9 tl9 F9 N9 l9 hv9
    refine comp_close F9 N9 l9 off2 (.inr ⟨_, List.mem_append_right _ (List.mem_append_right _ (.tail _ (.tail _ (.head _)))), rfl, _, rfl⟩) ⟨tl9 ++ ty, (List.append_assoc _ _ _).symm, ?_, ?_⟩
    · rw [take_snocF hxl]
      exact datAll_snoc (hD.mono fun p hp => List.mem_append_right _ hp) (hv9.mono fun p hp => List.mem_append_left _ hp)
    · intro p hp
      rcases List.mem_append.mp hp with hp | hp
      · exact l9 _ (.tail _ (.tail _ (.tail _ (List.mem_append_right _ (.tail _ (.tail _ (.tail _ (.head _)))))))) p hp
      · exact hz p hp
  case fin =>
    rintro ys nw ⟨ty, rfl, hD, hz⟩
    refine finE_mono (nw' := (AL, LCg.lst avs) :: (KL, LCg.lst kvs) :: (RO, listOf vs c) :: (L + 1 + 1, oA) :: (L + 1, oL) :: (ty ++ tx)) (fun p hp => ?_) ?_
    · exact sub5 p hp
    rw [hvs.1, List.take_length] at hD
    k_steps
    rename_i D1 h1 tk1 F1 N1 o1
    unfold Stop
    have hsl : avs.length = ars.length := by rw [datAll_len has, List.length_map]
    have hT : ∀ p ∈ tx, p ∈ (D1, LCg.lst ys) :: (AL, LCg.lst avs) :: (KL, LCg.lst kvs) :: (RO, listOf vs c) :: (L + 1 + 1, oA) :: (L + 1, oL) :: (ty ++ tx) := fun p hp => .tail _ (.tail _ (.tail _ (.tail _ (.tail _ (.tail _ (List.mem_append_right _ hp))))))
    refine' LCt.CompSrcT.ledger ?k0 ?k1 ?k2 ?k3 ?k4 ?_
    case k0 => exact rfl
    case k1 => k_asm
    case k2 => k_asm
    case k3 => exact .tail _ (.head _)
    case k4 => rw [List.size_toArray, hsl, sizeLine_eq]; omega
    intro g3
    refine cr_invT (fun i zs nw => nw = (D1, LCg.lst ys) :: (AL, LCg.lst avs) :: (KL, LCg.lst kvs) :: (RO, listOf vs c) :: (L + 1 + 1, oA) :: (L + 1, oL) :: (ty ++ tx) ∧ DatAll tx zs (((ars.take i).filter (fun d => !decide (d ∈ krs))).map linkD)) ⟨rfl, .nil⟩ ?turn2 ?fin2
    case turn2 =>
      clear N1 F1 N F
      rintro i v I3 oI3 C3 oC3 D3 m3 zs nw h3 tk3 E3 hi hv ⟨rfl, hZ⟩ hC3 hx3 F3 N3 off3 ne3
      have hv2 : avs[i]? = some v := by simpa using hv
      obtain ⟨d, hd2, hdv⟩ := datAll_get has hv2
      rw [List.getElem?_map] at hd2
      obtain ⟨r, hrl, rfl⟩ := Option.map_eq_some_iff.mp hd2
      obtain ⟨b, nn, t9, u9, rfl, hm⟩ := linkD_inv hdv
      k_steps
      unfold Stop
      refine' kqd_notIn (oa := LCg.lst kvs) ?q1 ?q2 rfl rfl hks ?q3 hdv ?q4 ?q5 ?q6 ?q7 ?_
      case q1 => k_asm
      case q2 => exact .tail _ (.tail _ (.tail _ (.tail _ (.tail _ (.head _)))))
      case q3 => exact fun p hp => .tail _ (.tail _ (.tail _ (hT p hp)))
      case q4 => exact fun p hp => .tail _ (.tail _ (.tail _ (hT p hp)))
      case q5 => exact linkD_ok hko
      case q6 => exact hao r (List.mem_of_getElem? hrl)
      case q7 => first | (show un + 64 < cLine; omega) | ktr_units
      by_cases hin : r ∈ krs
      · rw [decide_eq_true (mem_linkD.mpr hin)]
        k_steps
        refine LCg.CompEnd.intro (by assumption) (by assumption) _ (fun p hp => hp) off3 (.inr ⟨_, .tail _ (.head _), rfl, _, rfl⟩) ⟨rfl, ?_⟩
        rw [take_snoc hrl, List.filter_append, show [r].filter (fun d => !decide (d ∈ krs)) = [] by simp [hin], List.append_nil]
        exact hZ
      · rw [decide_eq_false (fun h => hin (mem_linkD.mp h))]
        k_steps
        refine LCg.CompEnd.intro (by assumption) (by assumption) _ (fun p hp => hp) off3 (.inr ⟨_, .tail _ (.head _), rfl, _, rfl⟩) ⟨rfl, ?_⟩
        rw [take_snoc hrl, List.filter_append, show [r].filter (fun d => !decide (d ∈ krs)) = [r] by simp [hin], List.map_append]
        exact datAll_snoc hZ hdv
    case fin2 =>
      rintro zs nw ⟨rfl, hZ⟩
      rw [List.size_toArray, hsl, List.take_length, ← heq] at hZ
      k_steps
      unfold Stop
      refine' kqd_ne (oa := LCg.lst ys) (ob := LCg.lst zs) ?r1 ?r2 rfl rfl hD ?r3 ?r4 rfl rfl hZ ?r5 ?r6 ?r7 ?r8 ?_
      case r1 => k_asm
      case r2 => first | exact .tail _ (.head _) | k_mem
      case r3 => exact fun p hp => .tail _ (.tail _ (.tail _ (.tail _ (.tail _ (.tail _ (.tail _ (List.mem_append_left _ hp)))))))
      case r4 => first | exact .head _ | k_mem
      case r5 => exact fun p hp => .tail _ (hT p hp)
      case r6 => exact linkL_ok hlo
      case r7 => rw [List.map_map]; exact linkL_ok hlo
      case r8 => first | (show un + 64 < cLine; omega) | ktr_units
      rw [decide_eq_true (by rw [List.map_map]; rfl)]
      k_steps
      exact hret _ _ (by assumption) (cb_drop (by assumption) (fun p hp => by
        simp only [List.mem_cons, List.mem_append] at hp ⊢
        rcases hp with h | h | h | h | h | h <;> simp [h]))

end
section
open PySem PySem.W PyProof.Rows PySem.Calls
set_option maxRecDepth 100000
set_option maxHeartbeats 8000000
local macro_rules | `(tactic| walk_at "call ref") => `(tactic| (k_here; (with_reducible show wpAny _ _ (call (Value.ref 822) [Value.ref _]) _ _ _); k_dflt (refine' use_next ?kx ?k1 ?k2 ?k3 ?k4 ?k5 ?k6 ?k7 ?k8 ?_; (case kx => assumption); (case k1 => k_asm); (case k2 => k_asm); (case k3 => k_asm); (case k4 => k_asm); (case k5 => k_asm); (case k6 => first | exact rfl | assumption); (case k7 => ktr_room); (case k8 => ktr_units); k_whole); intro h9 tk9 v9 tl9 F9 N9 l9 hv9; (try dsimp only); (try k_fold)))
local macro_rules | `(tactic| k_all) => `(tactic| (refine' ne_below ?a ?b; (case a => assumption); (case b => omega)))
theorem law_above {R KL : Addr} {rs : Array Value} {kvs : List Value} {c : Nat} {l : List Str} {w : World} (dp un : Nat) (gd : Option (List Code)) (a : Addr) (ccd : Value) (A₀ : Around) (base h₀ : Heap) (L : Addr) (s : Shared) (mean : ExcName → Option Value) (mg mb : Str → Option Value) (Q : Flow → Shared → Prop) (E : Value → Shared → Prop) (rest : List Stmt)
    (B : Below A₀ base [] h₀) (X : (KF w.params).In h₀) (T : Top qv (looseW qv lo) mean mg mb h₀) (hd : dp + 12 < recursionLimit) (hu : un + 130 < cLine)
    {oA oL : Obj} {av : Option Value} {tx : List (Addr × Obj)} {sc : Addr} {tn qo ro ti : Option Value} (dA : oA.data = .cell av) (dL : oL.data = .cell (some (.ref KL))) (hks : DatAll tx kvs (l.map fun x => linkD (linkAt x 0))) (hn : l.length ≤ 1000) (lR : @Ne Nat (L + 1 + 1) R ∧ @Ne Nat (L + 1) R) (lK : @Ne Nat (L + 1 + 1) KL ∧ @Ne Nat (L + 1) KL) (htx : ∀ p ∈ tx, @LT.lt Nat _ (L + 1 + 1) p.1)
    (F : Fr h₀ L s.heap (mLaw sc (some (.ref R)) tn qo ro ti)) (N : News h₀ L s.heap ((KL, LCg.lst kvs) :: (R, listOf rs c) :: (L + 1 + 1, oA) :: (L + 1, oL) :: tx))
    (hret : ∀ h' tk' AL avs ty oA', Fr h₀ L h' (mLaw sc (some (.ref R)) tn qo ro ti) → News h₀ L h' ((AL, LCg.lst avs) :: (KL, LCg.lst kvs) :: (R, listOf rs c) :: (L + 1 + 1, oA') :: (L + 1, oL) :: (ty ++ tx)) → oA'.data = .cell (some (.ref AL)) → DatAll (ty ++ tx) avs (l.map fun x => linkD (nextF (linkAt x 0))) → (∀ p ∈ ty ++ tx, @LT.lt Nat _ (L + 1 + 1) p.1) → (@Ne Nat (L + 1 + 1) AL ∧ @Ne Nat (L + 1) AL) → wpAny (model PySem.Challenge.rw_ij0131_01.row.prog w) (ktrTop dp un gd (Str.ofString "law") lawScope L a ccd (lawCells L) []) (execs (rest) (envX (Str.ofString "law") lawScope L a ccd (lawCells L))) Q E { s with heap := h', toks := tk' }) :
    wpAny (model PySem.Challenge.rw_ij0131_01.row.prog w) (ktrTop dp un gd (Str.ofString "law") lawScope L a ccd (lawCells L) []) (execs (turnAt 1 :: rest) (envX (Str.ofString "law") lawScope L a ccd (lawCells L))) Q E s := by
  revert X
  k_fill
  intro X
  have hsc : lawScope = lawScope := rfl
  conv at hsc => lhs; whnf
  rw [← hsc] at hret ⊢
  clear hsc
  have hcl : lawCells L = lawCells L := rfl
  conv at hcl => lhs; whnf
  rw [← hcl] at hret ⊢
  clear hcl
  have hst : turnAt 1 = turnAt 1 := rfl
  conv at hst => lhs; whnf
  rw [← hst]
  clear hst
  have hkl : kvs.length = l.length := by rw [datAll_len hks, List.length_map]
  k_steps
  unfold Stop
  refine' LCg.CompSrc.ledger ?k0 ?k1 ?k2 ?k3 ?k4 ?_
  case k0 => exact rfl
  case k1 => k_asm
  case k2 => k_asm
  case k3 => first | exact .head _ | k_mem
  case k4 => rw [List.size_toArray, hkl, sizeLine_eq]; omega
  intro g2
  refine cr_inv (fun i ys nw => ∃ ty, nw = ty ++ ((KL, LCg.lst kvs) :: (R, listOf rs c) :: (L + 1 + 1, oA) :: (L + 1, oL) :: tx) ∧ DatAll (ty ++ tx) ys ((l.take i).map fun x => linkD (nextF (linkAt x 0))) ∧ ∀ p ∈ ty, @LT.lt Nat _ (L + 1 + 1) p.1) ⟨[], rfl, .nil, fun _ h => nomatch h⟩ ?turn ?fin
  case turn =>
    clear N F
    rintro i v I2 oI2 C2 oC2 D2 m2 ys nw h2 tk2 E2 hi hv ⟨ty, rfl, hD, hz⟩ hC2 hx2 F2 N2 off2 ne2
    have hv2 : kvs[i]? = some v := by simpa using hv
    obtain ⟨d, hd2, hdv⟩ := datAll_get hks hv2
    rw [List.getElem?_map] at hd2
    obtain ⟨x, hxl, rfl⟩ := Option.map_eq_some_iff.mp hd2
    obtain ⟨b, nn, t9, u9, rfl, hm⟩ := linkD_inv hdv
    have hm9 : (b, ({ cls := .type "tuple", data := .seq [Value.str (linkAt x 0).1 t9, Value.int (linkAt x 0).2 u9].toArray nn } : Obj)) ∈ (I2, oI2) :: (C2, oC2) :: (D2, LCg.lst ys) :: (ty ++ ((KL, LCg.lst kvs) :: (R, listOf rs c) :: (L + 1 + 1, oA) :: (L + 1, oL) :: tx)) := .tail _ (.tail _ (.tail _ (List.mem_append_right _ (.tail _ (.tail _ (.tail _ (.tail _ hm)))))))
    k_steps
    rename_i h9 tk9 v9 tl9 F9 N9 l9 hv9
    refine comp_close F9 N9 l9 off2 (.inr ⟨_, List.mem_append_right _ (List.mem_append_right _ (.head _)), rfl, _, rfl⟩) ⟨tl9 ++ ty, (List.append_assoc _ _ _).symm, ?_, ?_⟩
    · rw [take_snocF hxl]
      refine datAll_snoc (hD.mono fun p hp => ?_) (hv9.mono fun p hp => ?_)
      · rw [List.append_assoc]
        exact List.mem_append_right _ hp
      · rcases List.mem_append.mp hp with hp | hp
        · exact List.mem_append_left _ (List.mem_append_left _ hp)
        · rw [List.mem_singleton.mp hp]
          exact List.mem_append_right _ hm
    · intro p hp
      rcases List.mem_append.mp hp with hp | hp
      · exact l9 _ (.tail _ (.tail _ (.tail _ (List.mem_append_right _ (.tail _ (.tail _ (.head _))))))) p hp
      · exact hz p hp
  case fin =>
    rintro ys nw ⟨ty, rfl, hD, hz⟩
    have hz2 : ∀ p ∈ ty ++ tx, @LT.lt Nat _ (L + 1 + 1) p.1 := fun p hp => (List.mem_append.mp hp).elim (hz p) (htx p)
    refine finE_mono (nw' := (KL, LCg.lst kvs) :: (R, listOf rs c) :: (L + 1 + 1, oA) :: (L + 1, oL) :: (ty ++ tx)) (fun p hp => ?_) ?_
    · exact sub4 p hp
    rw [List.size_toArray, hkl, List.take_length] at hD
    k_steps
    exact hret _ _ _ _ _ _ (by assumption) (by assumption) (by assumption) hD hz2 ⟨by omega, by omega⟩

end
section
open PySem PySem.W PyProof.Rows PySem.Calls
set_option maxRecDepth 100000
set_option maxHeartbeats 8000000
local macro_rules | `(tactic| walk_at "call ref") => `(tactic| (k_here; (with_reducible show wpAny _ _ (call (Value.ref 752) [Value.str _ _]) _ _ _); k_dflt (refine' use_quote ?kx ?k1 ?k2 ?k3 ?k4 ?k5 ?k6 ?k7 ?k8 ?_; (case kx => first | assumption | omega | decide +kernel); (case k1 => k_asm); (case k2 => k_asm); (case k3 => k_asm); (case k4 => k_asm); (case k5 => k_asm); (case k6 => first | exact rfl | assumption); (case k7 => ktr_room); (case k8 => ktr_units); k_whole); intro h9 tk9 t9 F9 N9; (try dsimp only); (try k_fold)))
local macro_rules | `(tactic| walk_at "idle 1") => `(tactic| skip)
theorem law_quoted {R : Addr} {rs : Array Value} {c : Nat} {l : List Str} {w : World} (dp un : Nat) (gd : Option (List Code)) (a : Addr) (ccd : Value) (A₀ : Around) (base h₀ : Heap) (L : Addr) (s : Shared) (mean : ExcName → Option Value) (mg mb : Str → Option Value) (Q : Flow → Shared → Prop) (E : Value → Shared → Prop) (rest : List Stmt)
    (B : Below A₀ base [] h₀) (X : (KF w.params).In h₀) (T : Top qv (looseW qv lo) mean mg mb h₀) (hd : dp + 12 < recursionLimit) (hu : un + 130 < cLine)
    {nw : List (Addr × Obj)} {sc : Addr} {tn qo ro ti : Option Value} (hm : (R, listOf rs c) ∈ nw) (hrs : StrsAt rs l) (hlen : ∀ x ∈ l, x.length ≤ 1000) (hn : l.length ≤ 1000)
    (F : Fr h₀ L s.heap (mLaw sc (some (.ref R)) tn qo ro ti)) (N : News h₀ L s.heap nw)
    (hret : ∀ h' tk' QL qvs n, Fr h₀ L h' (mLaw sc (some (.ref R)) tn (some (.ref QL)) ro ti) → News h₀ L h' ((QL, listOf qvs n) :: nw) → StrsAt qvs (l.map quoteF) → (∀ p ∈ nw, p.1 ≠ QL) → wpAny (model PySem.Challenge.rw_ij0131_01.row.prog w) (ktrTop dp un gd (Str.ofString "law") lawScope L a ccd (lawCells L) []) (execs (rest) (envX (Str.ofString "law") lawScope L a ccd (lawCells L))) Q E { s with heap := h', toks := tk' }) :
    wpAny (model PySem.Challenge.rw_ij0131_01.row.prog w) (ktrTop dp un gd (Str.ofString "law") lawScope L a ccd (lawCells L) []) (execs (turnAt 2 :: rest) (envX (Str.ofString "law") lawScope L a ccd (lawCells L))) Q E s := by
  revert X
  k_fill
  intro X
  have hsc : lawScope = lawScope := rfl
  conv at hsc => lhs; whnf
  rw [← hsc] at hret ⊢
  clear hsc
  have hcl : lawCells L = lawCells L := rfl
  conv at hcl => lhs; whnf
  rw [← hcl] at hret ⊢
  clear hcl
  have hst : turnAt 2 = turnAt 2 := rfl
  conv at hst => lhs; whnf
  rw [← hst]
  clear hst
  k_steps
  unfold Stop
  refine' LCg.CompSrc.ledger ?k0 ?k1 ?k2 ?k3 ?k4 ?_
  case k0 => exact rfl
  case k1 => k_asm
  case k2 => k_asm
  case k3 => exact hm
  case k4 => rw [hrs.1, sizeLine_eq]; omega
  intro g2
  refine cr_const (fun i ys => StrsAre ys ((l.take i).map quoteF)) .nil ?turn ?fin
  case turn =>
    clear N F
    intro i v I2 oI2 C2 oC2 D2 m2 ys h2 tk2 E2 hi hv hD hC2 hx2 F2 N2 off2 ne2
    obtain ⟨x, t9, rfl, hxl⟩ := strsAt_get hrs hv
    have hx9 : x.length ≤ 1000 := hlen x (List.mem_of_getElem? hxl)
    k_steps
    refine LCg.CompEnd.intro (by assumption) (by assumption) nw (fun p hp => hp) off2 (.inr ⟨_, hm, rfl, _, rfl⟩) ⟨rfl, ?_⟩
    rw [take_snocF hxl]
    exact strsAre_snoc hD
  case fin =>
    intro ys hD
    rw [hrs.1, List.take_length] at hD
    k_steps
    rename_i D9 h9 tk9 F9 N9 o9
    refine hret _ _ D9 _ _ (fr_same F9 ?e9) N9 (strsAt_are hD) (fun p hp => off1_mem o9 p hp)
    case e9 =>
      intro y
      by_cases h1 : y = Str.ofString "quoted"
      · subst h1; exact rfl
      simp [mLaw, h1]

end
section
open PySem PySem.W PyProof.Rows PySem.Calls
set_option maxRecDepth 100000
set_option maxHeartbeats 8000000
local macro_rules | `(tactic| walk_at "call ref") => `(tactic| (k_here; (with_reducible show wpAny _ _ (call (Value.ref 796) [Value.ref _, Value.ref _]) _ _ _); k_dflt (refine' c_diff ?h1 ?h2 ?h3 _ _ _ _ _ _ _ _ _ _ _ _ _ _ _ _ _ _ _ _ _ ?m1 ?m2 ?k1 ?k2 ?k3 ?k4 ?k5 ?k6 ?k7 ?k8 ?_; (case k1 => k_asm); (case k2 => k_asm); (case k3 => k_asm); (case k4 => k_asm); (case k5 => k_asm); (case m1 => assumption); (case m2 => assumption); (case h1 => assumption); (case h2 => assumption); (case h3 => assumption); (case k6 => first | exact rfl | assumption); (case k7 => ktr_room); (case k8 => ktr_units); k_whole); intro S8 o8 c8 bm8 dx8 x8 it8 h8 tk8 F8 N8 so8 sb8 ls8 la8 lb8 lc8 ld8; (try dsimp only); (try k_fold)))
local macro_rules | `(tactic| walk_at "call type:list") => `(tactic| (k_here; (with_reducible show wpAny _ _ (call (Value.type "list") [Value.ref _]) _ _ _); k_dflt (refine' ff_list ?h1 ?h2 ?h3 ?h4 ?h5 _ _ _ _ _ _ _ _ _ _ _ _ _ _ _ _ _ _ _ ?s1 ?s2 ?s3 ?s4 ?s5 ?k1 ?k2 ?k3 ?k4 ?k5 ?k6 ?k7 ?k8 ?_; (case k1 => k_asm); (case k2 => k_asm); (case k3 => k_asm); (case k4 => k_asm); (case k5 => k_asm); (case h4 => assumption); (case h3 => assumption); (case h1 => assumption); (case h2 => assumption); (case h5 => assumption); (case s1 => assumption); (case s2 => assumption); (case s3 => assumption); (case s4 => assumption); (case s5 => assumption); (case k6 => first | exact rfl | assumption); (case k7 => ktr_room); (case k8 => ktr_units); k_whole); intro R9 h9 tk9 c9 vs9 F9 N9 r9 hs9; (try dsimp only); (try k_fold)))
local macro_rules | `(tactic| walk_at "idle 2") => `(tactic| skip)
theorem law_roots {PA PB : Addr} {va vb : Array Value} {ca cb : Nat} {la lb : List Str} {w : World} (dp un : Nat) (gd : Option (List Code)) (a : Addr) (ccd : Value) (A₀ : Around) (base h₀ : Heap) (L : Addr) (s : Shared) (mean : ExcName → Option Value) (mg mb : Str → Option Value) (Q : Flow → Shared → Prop) (E : Value → Shared → Prop) (rest : List Stmt)
    (B : Below A₀ base [] h₀) (X : (KF w.params).In h₀) (T : Top qv (looseW qv lo) mean mg mb h₀) (hd : dp + 12 < recursionLimit) (hu : un + 130 < cLine)
    {nw : List (Addr × Obj)} {sc : Addr} {tn r9 ti : Option Value} (hma : (PA, listOf va ca) ∈ nw) (hmb : (PB, listOf vb cb) ∈ nw) (hsa : StrsAt va la) (hsb : StrsAt vb lb) (hna : la.length ≤ 1000) (hnb : lb.length ≤ 1000)
    (F : Fr h₀ L s.heap (mLaw sc (some (.ref PA)) tn (some (.ref PB)) r9 ti)) (N : News h₀ L s.heap nw)
    (hret : ∀ h' tk' RO vs c, Fr h₀ L h' (mLaw sc (some (.ref PA)) tn (some (.ref PB)) (some (.ref RO)) ti) → News h₀ L h' ((RO, listOf vs c) :: nw) → StrsAt vs (la.filter (outP lb)) → (∀ p ∈ nw, p.1 < RO) → wpAny (model PySem.Challenge.rw_ij0131_01.row.prog w) (ktrTop dp un gd (Str.ofString "law") lawScope L a ccd (lawCells L) []) (execs (rest) (envX (Str.ofString "law") lawScope L a ccd (lawCells L))) Q E { s with heap := h', toks := tk' }) :
    wpAny (model PySem.Challenge.rw_ij0131_01.row.prog w) (ktrTop dp un gd (Str.ofString "law") lawScope L a ccd (lawCells L) []) (execs (turnAt 3 :: rest) (envX (Str.ofString "law") lawScope L a ccd (lawCells L))) Q E s := by
  revert X
  k_fill
  intro X
  have hsc : lawScope = lawScope := rfl
  conv at hsc => lhs; whnf
  rw [← hsc] at hret ⊢
  clear hsc
  have hcl : lawCells L = lawCells L := rfl
  conv at hcl => lhs; whnf
  rw [← hcl] at hret ⊢
  clear hcl
  have hst : turnAt 3 = turnAt 3 := rfl
  conv at hst => lhs; whnf
  rw [← hst]
  clear hst
  have hza : va.size ≤ 1000 := by rw [hsa.1]; exact hna
  have hzb : vb.size ≤ 1000 := by rw [hsb.1]; exact hnb
  k_steps
  refine' hret _ _ _ _ _ (fr_same (by assumption) ?e9) (by assumption) (by assumption) (by assumption)
  case e9 =>
    intro y
    by_cases h1 : y = Str.ofString "roots"
    · subst h1; exact rfl
    simp [mLaw, h1]

open PySem PySem.W PyProof.Rows PySem.Calls
set_option maxRecDepth 100000
set_option maxHeartbeats 8000000
theorem law_tips {PA PB : Addr} {va vb : Array Value} {ca cb : Nat} {la lb : List Str} {w : World} (dp un : Nat) (gd : Option (List Code)) (a : Addr) (ccd : Value) (A₀ : Around) (base h₀ : Heap) (L : Addr) (s : Shared) (mean : ExcName → Option Value) (mg mb : Str → Option Value) (Q : Flow → Shared → Prop) (E : Value → Shared → Prop) (rest : List Stmt)
    (B : Below A₀ base [] h₀) (X : (KF w.params).In h₀) (T : Top qv (looseW qv lo) mean mg mb h₀) (hd : dp + 12 < recursionLimit) (hu : un + 130 < cLine)
    {nw : List (Addr × Obj)} {sc : Addr} {tn r9 ti : Option Value} (hma : (PA, listOf va ca) ∈ nw) (hmb : (PB, listOf vb cb) ∈ nw) (hsa : StrsAt va la) (hsb : StrsAt vb lb) (hna : la.length ≤ 1000) (hnb : lb.length ≤ 1000)
    (F : Fr h₀ L s.heap (mLaw sc (some (.ref PB)) tn (some (.ref PA)) r9 ti)) (N : News h₀ L s.heap nw)
    (hret : ∀ h' tk' RO vs c, Fr h₀ L h' (mLaw sc (some (.ref PB)) tn (some (.ref PA)) r9 (some (.ref RO))) → News h₀ L h' ((RO, listOf vs c) :: nw) → StrsAt vs (la.filter (outP lb)) → (∀ p ∈ nw, p.1 < RO) → wpAny (model PySem.Challenge.rw_ij0131_01.row.prog w) (ktrTop dp un gd (Str.ofString "law") lawScope L a ccd (lawCells L) []) (execs (rest) (envX (Str.ofString "law") lawScope L a ccd (lawCells L))) Q E { s with heap := h', toks := tk' }) :
    wpAny (model PySem.Challenge.rw_ij0131_01.row.prog w) (ktrTop dp un gd (Str.ofString "law") lawScope L a ccd (lawCells L) []) (execs (turnAt 4 :: rest) (envX (Str.ofString "law") lawScope L a ccd (lawCells L))) Q E s := by
  revert X
  k_fill
  intro X
  have hsc : lawScope = lawScope := rfl
  conv at hsc => lhs; whnf
  rw [← hsc] at hret ⊢
  clear hsc
  have hcl : lawCells L = lawCells L := rfl
  conv at hcl => lhs; whnf
  rw [← hcl] at hret ⊢
  clear hcl
  have hst : turnAt 4 = turnAt 4 := rfl
  conv at hst => lhs; whnf
  rw [← hst]
  clear hst
  have hza : va.size ≤ 1000 := by rw [hsa.1]; exact hna
  have hzb : vb.size ≤ 1000 := by rw [hsb.1]; exact hnb
  k_steps
  refine' hret _ _ _ _ _ (fr_same (by assumption) ?e9) (by assumption) (by assumption) (by assumption)
  case e9 =>
    intro y
    by_cases h1 : y = Str.ofString "tips"
    · subst h1; exact rfl
    simp [mLaw, h1]

end
section
open PySem PySem.W PyProof.Rows PySem.Calls
set_option maxRecDepth 100000
set_option maxHeartbeats 8000000
local macro_rules | `(tactic| walk_at "call ref") => `(tactic| (k_here; (with_reducible show wpAny _ _ (call (Value.ref 744) [Value.str _ _]) _ _ _); k_dflt (refine' c_split _ _ _ ?h1 ?h2 _ _ _ _ _ _ _ _ _ _ _ _ _ _ _ _ _ _ _ _ ?k1 ?k2 ?k3 ?k4 ?k5 ?k6 ?k7 ?k8 ?_; (case k1 => k_asm); (case k2 => k_asm); (case k3 => k_asm); (case k4 => k_asm); (case k5 => k_asm); (case h1 => omega); (case h2 => assumption); (case k6 => first | exact rfl | assumption); (case k7 => ktr_room); (case k8 => ktr_units); k_whole); intro S9 h9 tk9 t9 c9 F9 N9 l9; (try dsimp only); (try k_fold)))
local macro_rules | `(tactic| walk_at "call ref") => `(tactic| (k_here; (with_reducible show wpAny _ _ (call (Value.ref 808) [Value.str _ _]) _ _ _); k_dflt (refine' use_inner ?kx ?k1 ?k2 ?k3 ?k4 ?k5 ?k6 ?k7 ?k8 ?_; (case kx => first | assumption | omega | decide +kernel); (case k1 => k_asm); (case k2 => k_asm); (case k3 => k_asm); (case k4 => k_asm); (case k5 => k_asm); (case k6 => first | exact rfl | assumption); (case k7 => ktr_room); (case k8 => ktr_units); k_whole); intro h9 tk9 v9 F9 N9 hv9; (try dsimp only); (try k_fold)))
local macro_rules | `(tactic| walk_at "compareOp NotIn") => `(tactic| (k_here; (with_reducible show wpAny _ _ (compareOp CmpOp.NotIn (Value.ref _) (Value.ref _)) _ _ _); refine stop_intro ?_))
local macro_rules | `(tactic| walk_at "compareOp NotEq ref ref") => `(tactic| (k_here; (with_reducible show wpAny _ _ (compareOp CmpOp.NotEq (Value.ref _) (Value.ref _)) _ _ _); refine stop_intro ?_))
theorem law_if3 {TI : Addr} {vs : Array Value} {c : Nat} {l : List Str} {i : Int} {u : Tok} {w : World} (dp un : Nat) (gd : Option (List Code)) (a : Addr) (ccd : Value) (A₀ : Around) (base h₀ : Heap) (L : Addr) (s : Shared) (mean : ExcName → Option Value) (mg mb : Str → Option Value) (Q : Flow → Shared → Prop) (E : Value → Shared → Prop) (rest : List Stmt)
    (B : Below A₀ base [] h₀) (X : (KF w.params).In h₀) (T : Top qv (looseW qv lo) mean mg mb h₀) (hd : dp + 12 < recursionLimit) (hu : un + 130 < cLine)
    {nw : List (Addr × Obj)} {sc : Addr} {row qo ro : Option Value} (hm : (TI, listOf vs c) ∈ nw) (hvs : StrsAt vs l) (hlen : ∀ x ∈ l, x.length ≤ 1000) (hn : l.length ≤ 1000) (hi : i = 0 ∨ i = 1) (hsp : i = 0 → ∀ x ∈ l, ∃ p, innerF x = some p ∧ lexRun .sp x.cps.toList ⟨#[]⟩ = some p ∧ PyData.strOk p = true)
    (F : Fr h₀ L s.heap (mLaw sc row (some (.int i u)) qo ro (some (.ref TI)))) (N : News h₀ L s.heap nw)
    (hret : ∀ h' tk', Fr h₀ L h' (mLaw sc row (some (.int i u)) qo ro (some (.ref TI))) → News h₀ L h' nw → wpAny (model PySem.Challenge.rw_ij0131_01.row.prog w) (ktrTop dp un gd (Str.ofString "law") lawScope L a ccd (lawCells L) []) (execs (rest) (envX (Str.ofString "law") lawScope L a ccd (lawCells L))) Q E { s with heap := h', toks := tk' }) :
    wpAny (model PySem.Challenge.rw_ij0131_01.row.prog w) (ktrTop dp un gd (Str.ofString "law") lawScope L a ccd (lawCells L) []) (execs (turnAt 7 :: rest) (envX (Str.ofString "law") lawScope L a ccd (lawCells L))) Q E s := by
  revert X
  k_fill
  intro X
  have hsc : lawScope = lawScope := rfl
  conv at hsc => lhs; whnf
  rw [← hsc] at hret ⊢
  clear hsc
  have hcl : lawCells L = lawCells L := rfl
  conv at hcl => lhs; whnf
  rw [← hcl] at hret ⊢
  clear hcl
  have hst : turnAt 7 = turnAt 7 := rfl
  conv at hst => lhs; whnf
  rw [← hst]
  clear hst
  rcases hi with rfl | rfl
  case inr =>
    k_steps
    all_goals exact hret _ _ (by assumption) (by assumption)
  have hsp := hsp rfl
  k_steps
  unfold Stop
  refine' LCg.CompSrc.ledger ?k0 ?k1 ?k2 ?k3 ?k4 ?_
  case k0 => exact rfl
  case k1 => k_asm
  case k2 => k_asm
  case k3 => exact hm
  case k4 => rw [hvs.1, sizeLine_eq]; omega
  intro g2
  refine cr_inv (fun i ys nw' => ∃ ty, nw' = ty ++ nw ∧ DatAll ty ys ((l.take i).map (fun x => Dat.list [Dat.str ((innerF x).getD x)]))) ⟨[], rfl, .nil⟩ ?turn ?fin
  case turn =>
    clear N F
    rintro i v I2 oI2 C2 oC2 D2 m2 ys nw' h2 tk2 E2 hi hv ⟨ty, rfl, hD⟩ hC2 hx2 F2 N2 off2 ne2
    obtain ⟨x, t9, rfl, hxl⟩ := strsAt_get hvs hv
    have hx9 : x.length ≤ 1000 := hlen x (List.mem_of_getElem? hxl)
    obtain ⟨p, hp1, hp2, hp3⟩ := hsp x (List.mem_of_getElem? hxl)
    k_steps
    rename_i S9 h9 tk9 t9 c9 F9 N9 l9
    refine comp_close (tl := [(S9, _)]) F9 N9 (fun q hq p hp => by rw [List.mem_singleton.mp hp]; exact l9 q hq) off2 (.inr ⟨listOf vs c, List.mem_append_right _ (List.mem_append_right _ hm), rfl, c, rfl⟩) ⟨(S9, _) :: ty, rfl, ?_⟩
    rw [take_snocF hxl, hp1]
    exact datAll_snoc (hD.mono fun p hp => .tail _ hp) (DatIn.list (vs := [_]) (.head _) (.cons (.str _ _) .nil))
  case fin =>
    rintro ys nw' ⟨ty, rfl, hD⟩
    rw [hvs.1, List.take_length] at hD
    k_steps
    rename_i D1 h1 tk1 F1 N1 o1
    unfold Stop
    refine' LCg.CompSrc.ledger ?j0 ?j1 ?j2 ?j3 ?j4 ?_
    case j0 => exact rfl
    case j1 => k_asm
    case j2 => k_asm
    case j3 => exact .tail _ (List.mem_append_right _ hm)
    case j4 => rw [hvs.1, sizeLine_eq]; omega
    intro g3
    refine cr_inv (fun i zs nw' => ∃ tz, nw' = tz ++ (D1, LCg.lst ys) :: (ty ++ nw) ∧ DatAll tz zs ((l.take i).map (fun x => Dat.list [Dat.str ((innerF x).getD x)]))) ⟨[], rfl, .nil⟩ ?turn2 ?fin2
    case turn2 =>
      clear N1 F1 N F
      rintro i v I2 oI2 C2 oC2 D2 m2 zs nw' h2 tk2 E2 hi hv ⟨tz, rfl, hZ⟩ hC2 hx2 F2 N2 off2 ne2
      obtain ⟨x, t9, rfl, hxl⟩ := strsAt_get hvs hv
      have hx9 : x.length ≤ 1000 := hlen x (List.mem_of_getElem? hxl)
      obtain ⟨p, hp1, hp2, hp3⟩ := hsp x (List.mem_of_getElem? hxl)
      k_steps
      rename_i S9 h9 F9 N9 l9
      rename OptV _ _ => hv9
      rw [hp1] at hv9
      obtain ⟨t8, rfl⟩ := hv9
      refine comp_close (tl := [(S9, _)]) F9 N9 (fun q hq p hp => by rw [List.mem_singleton.mp hp]; exact allLt_all ((I2, oI2) :: (C2, oC2) :: (D2, LCg.lst zs) :: _) l9 q hq) off2 (.inr ⟨listOf vs c, List.mem_append_right _ (List.mem_append_right _ (.tail _ (List.mem_append_right _ hm))), rfl, c, rfl⟩) ⟨(S9, _) :: tz, rfl, ?_⟩
      rw [take_snocF hxl, hp1]
      exact datAll_snoc (hZ.mono fun p hp => .tail _ hp) (DatIn.list (vs := [_]) (.head _) (.cons (.str _ _) .nil))
    case fin2 =>
      rintro zs nw' ⟨tz, rfl, hZ⟩
      rw [hvs.1, List.take_length] at hZ
      k_steps
      rename_i D4 h4 tk4 F4 N4 o4
      unfold Stop
      have hok : ∀ d ∈ l.map (fun x => Dat.list [Dat.str ((innerF x).getD x)]), kqdOk 8 d = true := by
        intro d hd
        obtain ⟨x, hx, rfl⟩ := List.mem_map.mp hd
        obtain ⟨p, hp1, hp2, hp3⟩ := hsp x hx
        rw [hp1]
        simp [kqdOk, hp3]
      refine' kqd_ne (oa := LCg.lst ys) (ob := LCg.lst zs) ?r1 ?r2 rfl rfl hD ?r3 ?r4 rfl rfl hZ ?r5 hok hok ?r8 ?_
      case r1 => k_asm
      case r2 => exact .tail _ (List.mem_append_right _ (.head _))
      case r3 => exact fun p hp => .tail _ (List.mem_append_right _ (.tail _ (List.mem_append_left _ hp)))
      case r4 => exact .head _
      case r5 => exact fun p hp => .tail _ (List.mem_append_left _ hp)
      case r8 => first | (show un + 64 < cLine; omega) | ktr_units
      rw [show ∀ (i : Decidable (l.map (fun x => Dat.list [Dat.str ((innerF x).getD x)]) = l.map (fun x => Dat.list [Dat.str ((innerF x).getD x)]))), @decide _ i = true from fun i => @decide_eq_true _ i rfl]
      k_steps
      exact hret _ _ (by assumption) (cb_drop (by assumption) (fun p hp => .tail _ (List.mem_append_right _ (.tail _ (List.mem_append_right _ hp)))))

end
section
open PySem PySem.W PyProof.Rows PySem.Calls
set_option maxRecDepth 100000
set_option maxHeartbeats 8000000
local macro_rules | `(tactic| walk_at "binaryOp Add") => `(tactic| (k_here; (with_reducible show wpAny _ _ (binaryOp _ (Value.ref _) (Value.ref _)) _ _ _); k_dflt (refine' add_two ?k1 ?k2 ?h1 ?h2 ?h3 ?h4 ?_; (case k1 => k_asm); (case k2 => k_asm); (case h1 => assumption); (case h2 => assumption); (case h3 => assumption); (case h4 => assumption)); intro R9 h9 F9 N9 l9))
theorem law_add {R TI : Addr} {rs vs : Array Value} {c d : Nat} {l k : List Str} {w : World} (dp un : Nat) (gd : Option (List Code)) (a : Addr) (ccd : Value) (A₀ : Around) (base h₀ : Heap) (L : Addr) (s : Shared) (mean : ExcName → Option Value) (mg mb : Str → Option Value) (Q : Flow → Shared → Prop) (E : Value → Shared → Prop) (rest : List Stmt)
    (B : Below A₀ base [] h₀) (X : (KF w.params).In h₀) (T : Top qv (looseW qv lo) mean mg mb h₀) (hd : dp + 12 < recursionLimit) (hu : un + 130 < cLine)
    {nw : List (Addr × Obj)} {sc : Addr} {tn qo ro : Option Value} (hm : (R, listOf rs c) ∈ nw) (hmt : (TI, listOf vs d) ∈ nw) (hrs : StrsAt rs l) (hvs : StrsAt vs k) (hn : l.length ≤ 1000) (hnk : k.length ≤ 1000)
    (F : Fr h₀ L s.heap (mLaw sc (some (.ref R)) tn qo ro (some (.ref TI)))) (N : News h₀ L s.heap nw)
    (hret : ∀ h' tk' R' rs' c', Fr h₀ L h' (mLaw sc (some (.ref R')) tn qo ro (some (.ref TI))) → News h₀ L h' ((R', listOf rs' c') :: nw) → StrsAt rs' (l ++ k) → (∀ p ∈ nw, p.1 < R') → wpAny (model PySem.Challenge.rw_ij0131_01.row.prog w) (ktrTop dp un gd (Str.ofString "law") lawScope L a ccd (lawCells L) []) (execs (rest) (envX (Str.ofString "law") lawScope L a ccd (lawCells L))) Q E { s with heap := h', toks := tk' }) :
    wpAny (model PySem.Challenge.rw_ij0131_01.row.prog w) (ktrTop dp un gd (Str.ofString "law") lawScope L a ccd (lawCells L) []) (execs (turnAt 8 :: rest) (envX (Str.ofString "law") lawScope L a ccd (lawCells L))) Q E s := by
  revert X
  k_fill
  intro X
  have hsc : lawScope = lawScope := rfl
  conv at hsc => lhs; whnf
  rw [← hsc] at hret ⊢
  clear hsc
  have hcl : lawCells L = lawCells L := rfl
  conv at hcl => lhs; whnf
  rw [← hcl] at hret ⊢
  clear hcl
  have hst : turnAt 8 = turnAt 8 := rfl
  conv at hst => lhs; whnf
  rw [← hst]
  clear hst
  have hz1 : rs.size ≤ 1000 := by rw [hrs.1]; exact hn
  have hz2 : vs.size ≤ 1000 := by rw [hvs.1]; exact hnk
  k_steps
  refine' hret _ _ _ _ _ (fr_same (by assumption) ?e9) (by assumption) (strsAt_add hrs hvs) (by assumption)
  case e9 =>
    intro y
    by_cases h1 : y = Str.ofString "row"
    · subst h1; exact rfl
    simp [mLaw, h1]

end
section
open PySem PySem.W PyProof.Rows PySem.Calls
set_option maxRecDepth 100000
set_option maxHeartbeats 8000000
open Classical in
/-- what the turn asks of its row -/
structure RowOk (l : List Str) : Prop where
  len : ∀ x ∈ l, x.length ≤ 157 ∧ PyData.strOk x = true
  cnt : l.length ≤ 500
  roots : ((l.filter (outP (l.map quoteF))).map fun x => linkAt x 0) = (l.map fun x => linkAt x 0).filter (fun r => !decide (r ∈ (l.map fun x => nextF (linkAt x 0))))
  tips : (((l.map quoteF).filter (outP l)).map fun x => linkAt x 0) = (l.map fun x => nextF (linkAt x 0)).filter (fun r => !decide (r ∈ (l.map fun x => linkAt x 0)))
  ok : ∀ x, PyData.strOk x = true → kqdOk 8 (linkD (linkAt x 0)) = true
  okN : ∀ x, PyData.strOk x = true → kqdOk 8 (linkD (nextF (linkAt x 0))) = true
  qlen : ∀ x ∈ l.map quoteF, x.length ≤ 1000 ∧ PyData.strOk x = true
abbrev tipsOf (l : List Str) : List Str := (l.map quoteF).filter (outP l)
theorem law_turn {R : Addr} {rs : Array Value} {c : Nat} {l : List Str} {w : World} (dp un : Nat) (gd : Option (List Code)) (a : Addr) (ccd : Value) (A₀ : Around) (base h₀ : Heap) (L : Addr) (s : Shared) (mean : ExcName → Option Value) (mg mb : Str → Option Value) (Q : Flow → Shared → Prop) (E : Value → Shared → Prop) (rest : List Stmt)
    (B : Below A₀ base [] h₀) (X : (KF w.params).In h₀) (T : Top qv (looseW qv lo) mean mg mb h₀) (hd : dp + 12 < recursionLimit) (hu : un + 130 < cLine)
    {oA oL : Obj} {sc : Addr} {i : Int} {u : Tok} {qo ro ti : Option Value} {tz : List (Addr × Obj)} (htz : ∀ p ∈ tz, @LT.lt Nat _ (L + 1 + 1) p.1) (hA : ∃ v, oA.data = .cell v) (hL : ∃ v, oL.data = .cell v) (hrs : StrsAt rs l) (ok : RowOk l) (hi : i = 0 ∨ i = 1) (hsp : i = 0 → ∀ x ∈ tipsOf l, ∃ p, innerF x = some p ∧ lexRun .sp x.cps.toList ⟨#[]⟩ = some p ∧ PyData.strOk p = true)
    (lR : @LT.lt Nat _ (L + 1 + 1) R)
    (F : Fr h₀ L s.heap (mLaw sc (some (.ref R)) (some (.int i u)) qo ro ti)) (N : News h₀ L s.heap ((R, listOf rs c) :: (L + 1 + 1, oA) :: (L + 1, oL) :: tz))
    (hret : ∀ h' tk' R' rs' c' oA' oL' qo' ro' ti', Fr h₀ L h' (mLaw sc (some (.ref R')) (some (.int i u)) qo' ro' ti') → News h₀ L h' ((R', listOf rs' c') :: (L + 1 + 1, oA') :: (L + 1, oL') :: tz) → (∃ v, oA'.data = .cell v) → (∃ v, oL'.data = .cell v) → StrsAt rs' (l ++ tipsOf l) → @LT.lt Nat _ (L + 1 + 1) R' → (∀ p ∈ tz, @LT.lt Nat _ p.1 R') →
      wpAny (model PySem.Challenge.rw_ij0131_01.row.prog w) (ktrTop dp un gd (Str.ofString "law") lawScope L a ccd (lawCells L) []) (execs (rest) (envX (Str.ofString "law") lawScope L a ccd (lawCells L))) Q E { s with heap := h', toks := tk' }) :
    wpAny (model PySem.Challenge.rw_ij0131_01.row.prog w) (ktrTop dp un gd (Str.ofString "law") lawScope L a ccd (lawCells L) []) (execs (turnAt 0 :: turnAt 1 :: turnAt 2 :: turnAt 3 :: turnAt 4 :: turnAt 5 :: turnAt 6 :: turnAt 7 :: turnAt 8 :: rest) (envX (Str.ofString "law") lawScope L a ccd (lawCells L))) Q E s := by
  obtain ⟨av, dA⟩ := hA
  obtain ⟨lv, dL⟩ := hL
  have hlen : ∀ x ∈ l, x.length ≤ 1000 := fun x hx => Nat.le_trans (ok.len x hx).1 (by decide)
  have hn : l.length ≤ 1000 := Nat.le_trans ok.cnt (by decide)
  have hnq : (l.map quoteF).length ≤ 1000 := by rw [List.length_map]; exact hn
  have hnr : ∀ p : Str → Bool, (l.filter p).length ≤ 1000 := fun p => Nat.le_trans (List.length_filter_le _ _) hn
  have hnt : ∀ p : Str → Bool, ((l.map quoteF).filter p).length ≤ 1000 := fun p => Nat.le_trans (List.length_filter_le _ _) hnq
  have ne1 : @Ne Nat (L + 1 + 1) R ∧ @Ne Nat (L + 1) R := ⟨by omega, by omega⟩
  refine law_links (tx := tz) dp un gd a ccd A₀ base h₀ L s mean mg mb Q E _ B X T hd hu dA dL hrs hlen hn ne1 htz F N ?_
  intro h1 tk1 KL kvs ty oL1 F1 N1 dL1 hk1 hz1 neK
  refine law_above dp un gd a ccd A₀ base h₀ L _ mean mg mb Q E _ B X T hd hu dA dL1 (hk1.mono fun p hp => List.mem_append_left _ hp) hn ne1 neK hz1 F1 N1 ?_
  intro h2 tk2 AL avs ty2 oA2 F2 N2 dA2 ha2 hz2 neA
  generalize hT : ty2 ++ (ty ++ tz) = T2 at N2 ha2 hz2
  have hk2 : DatAll T2 kvs (l.map fun x => linkD (linkAt x 0)) := hk1.mono fun p hp => hT ▸ List.mem_append_right _ (List.mem_append_left _ hp)
  refine law_quoted dp un gd a ccd A₀ base h₀ L _ mean mg mb Q E _ B X T hd hu (.tail _ (.tail _ (.head _))) hrs hlen hn F2 N2 ?_
  intro h3 tk3 QL qvs n3 F3 N3 hq3 ne3
  refine law_roots dp un gd a ccd A₀ base h₀ L _ mean mg mb Q E _ B X T hd hu (.tail _ (.tail _ (.tail _ (.head _)))) (.head _) hrs hq3 hn hnq F3 N3 ?_
  intro h4 tk4 RO ros c4 F4 N4 hr4 l4
  refine law_tips dp un gd a ccd A₀ base h₀ L _ mean mg mb Q E _ B X T hd hu (.tail _ (.head _)) (.tail _ (.tail _ (.tail _ (.tail _ (.head _))))) hq3 hrs hnq hn F4 N4 ?_
  intro h5 tk5 TI tis c5 F5 N5 ht5 l5
  have lTI : @LT.lt Nat _ (L + 1 + 1) TI := l5 _ (.tail _ (.tail _ (.tail _ (.tail _ (.tail _ (.head _))))))
  have hzF : ∀ p ∈ (R, listOf rs c) :: (TI, listOf tis c5) :: T2, @LT.lt Nat _ (L + 1 + 1) p.1 := by
    intro p hp
    rcases List.mem_cons.mp hp with rfl | hp
    · exact lR
    rcases List.mem_cons.mp hp with rfl | hp
    · exact lTI
    · exact hz2 p hp
  have N5' : News h₀ L h5 ((AL, LCg.lst avs) :: (KL, LCg.lst kvs) :: (RO, listOf ros c4) :: (L + 1 + 1, oA2) :: (L + 1, oL1) :: (R, listOf rs c) :: (TI, listOf tis c5) :: T2) := cb_drop N5 (fun p hp => by
    simp only [List.mem_cons] at hp ⊢
    rcases hp with h | h | h | h | h | h | h | h <;> simp [h])
  have hks : DatAll T2 kvs ((l.map fun x => linkAt x 0).map linkD) := by rw [List.map_map]; exact hk2
  have has : DatAll T2 avs ((l.map fun x => nextF (linkAt x 0)).map linkD) := by rw [List.map_map]; exact ha2
  have hkn : (l.map fun x => linkAt x 0).length ≤ 1000 := by rw [List.length_map]; exact hn
  have han : (l.map fun x => nextF (linkAt x 0)).length ≤ 1000 := by rw [List.length_map]; exact hn
  have hko : ∀ r ∈ (l.map fun x => linkAt x 0), kqdOk 8 (linkD r) = true := by
    intro r hr
    obtain ⟨x, hx, rfl⟩ := List.mem_map.mp hr
    exact ok.ok x (ok.len x hx).2
  have hao : ∀ r ∈ (l.map fun x => nextF (linkAt x 0)), kqdOk 8 (linkD r) = true := by
    intro r hr
    obtain ⟨x, hx, rfl⟩ := List.mem_map.mp hr
    exact ok.okN x (ok.len x hx).2
  refine law_if1 dp un gd a ccd A₀ base h₀ L _ mean mg mb Q E _ B X T hd hu dA2 dL1 (hks.mono fun p hp => .tail _ (.tail _ hp)) (has.mono fun p hp => .tail _ (.tail _ hp)) hr4 (fun x hx => hlen x (List.mem_filter.mp hx).1) (hnr _) hkn han hko hao (fun x hx => ok.ok x (ok.len x (List.mem_filter.mp hx).1).2) hzF ok.roots F5 N5' ?_
  intro h6 tk6 F6 N6
  have N6' : News h₀ L h6 ((AL, LCg.lst avs) :: (KL, LCg.lst kvs) :: (TI, listOf tis c5) :: (L + 1 + 1, oA2) :: (L + 1, oL1) :: (R, listOf rs c) :: T2) := cb_drop N6 (fun p hp => by
    simp only [List.mem_cons] at hp ⊢
    rcases hp with h | h | h | h | h | h | h <;> simp [h])
  have hzG : ∀ p ∈ (R, listOf rs c) :: T2, @LT.lt Nat _ (L + 1 + 1) p.1 := by
    intro p hp
    rcases List.mem_cons.mp hp with rfl | hp
    · exact lR
    · exact hz2 p hp
  refine law_if2 dp un gd a ccd A₀ base h₀ L _ mean mg mb Q E _ B X T hd hu dA2 dL1 (hks.mono fun p hp => .tail _ hp) (has.mono fun p hp => .tail _ hp) ht5 (fun x hx => (ok.qlen x (List.mem_filter.mp hx).1).1) (hnt _) hkn han hko hao (fun x hx => ok.ok x (ok.qlen x (List.mem_filter.mp hx).1).2) hzG ok.tips F6 N6' ?_
  intro h7 tk7 F7 N7
  refine law_if3 dp un gd a ccd A₀ base h₀ L _ mean mg mb Q E _ B X T hd hu (.tail _ (.tail _ (.head _))) ht5 (fun x hx => (ok.qlen x (List.mem_filter.mp hx).1).1) (hnt _) hi hsp F7 N7 ?_
  intro h8 tk8 F8 N8
  refine law_add dp un gd a ccd A₀ base h₀ L _ mean mg mb Q E _ B X T hd hu (.tail _ (.tail _ (.tail _ (.tail _ (.tail _ (.head _)))))) (.tail _ (.tail _ (.head _))) hrs ht5 hn (hnt _) F8 N8 ?_
  intro h9 tk9 R' rs' c' F9 N9 hs9 l9
  refine hret h9 tk9 R' rs' c' oA2 oL1 _ _ _ F9 (cb_drop N9 fun p hp => ?_) ⟨_, dA2⟩ ⟨_, dL1⟩ hs9 (l9 _ (.tail _ (.tail _ (.tail _ (.head _))))) (fun p h => l9 p (.tail _ (.tail _ (.tail _ (.tail _ (.tail _ (.tail _ (hT ▸ List.mem_append_right _ (List.mem_append_right _ h)))))))))
  simp only [List.mem_cons] at hp ⊢
  rcases hp with h | h | h | h
  · simp [h]
  · simp [h]
  · simp [h]
  · have : p ∈ T2 := hT ▸ List.mem_append_right _ (List.mem_append_right _ h)
    simp [this]

end
end
end
end
section
open PySem PySem.W PyProof.Rows PySem.Calls
set_option maxRecDepth 100000
set_option maxHeartbeats 8000000
theorem str_assoc1 (t : Str) (c : Nat) (l : List Nat) : t ++ ⟨#[c]⟩ ++ ⟨l.toArray⟩ = t ++ ⟨(c :: l).toArray⟩ := by
  refine str_ext ?_
  rw [toList_app, toList_app, toList_app, List.append_assoc]
  rfl
theorem lex_free : ∀ (l : List Nat) (r : List Nat) (t : Str), 39 ∉ l → lexRun .q (l ++ r) t = lexRun .q r (t ++ ⟨l.toArray⟩)
  | [], r, t, _ => by
    rw [show t ++ (⟨[].toArray⟩ : Str) = t from str_ext (by rw [toList_app]; simp)]
    rfl
  | c :: l, r, t, h => by
    have h1 : c ≠ 39 := fun e => h (e ▸ .head _)
    show (if c = 39 then lexRun .a (l ++ r) t else lexRun .q (l ++ r) (t ++ ⟨#[c]⟩)) = _
    rw [if_neg h1, lex_free l r _ (fun q => h (.tail _ q)), str_assoc1]
theorem lex_strand (p : Str) (r : List Nat) (t : Str) (h : FreeOf 39 p) : lexRun .q (p.cps.toList ++ r) t = lexRun .q r (t ++ p) := by
  rw [lex_free _ _ _ h]
theorem lex_sep (r : List Nat) (t : Str) : lexRun .q (39 :: 34 :: 39 :: 34 :: 39 :: r) t = lexRun .q r (t ++ QT) := by
  simp [lexRun]
theorem lex_join : ∀ (ss : List Str) (p : Str) (t : Str), (∀ q ∈ p :: ss, FreeOf 39 q) → lexRun .q ((Str.join SP5 (p :: ss)).cps.toList ++ [39]) t = some (t ++ Str.join QT (p :: ss))
  | [], p, t, h => by
    show lexRun .q (p.cps.toList ++ [39]) t = some (t ++ p)
    rw [lex_strand p _ _ (h p (.head _))]
    simp [lexRun]
  | q :: ss, p, t, h => by
    have e : (Str.join SP5 (p :: q :: ss)).cps.toList = p.cps.toList ++ (39 :: 34 :: 39 :: 34 :: 39 :: (Str.join SP5 (q :: ss)).cps.toList) := by
      show (p ++ SP5 ++ Str.join SP5 (q :: ss)).cps.toList = _
      rw [toList_app, toList_app, List.append_assoc]
      rfl
    rw [e, List.append_assoc, lex_strand p _ _ (h p (.head _))]
    show lexRun .q (39 :: 34 :: 39 :: 34 :: 39 :: ((Str.join SP5 (q :: ss)).cps.toList ++ [39])) (t ++ p) = _
    rw [lex_sep, lex_join ss q _ (fun s hs => h s (.tail _ hs))]
    show some (t ++ p ++ QT ++ Str.join QT (q :: ss)) = some (t ++ (p ++ QT ++ Str.join QT (q :: ss)))
    congr 1
    refine str_ext ?_
    simp only [toList_app, List.append_assoc]
theorem lex_quote {x : Str} (h : bareF x = false) : lexRun .sp (quoteF x).cps.toList ⟨#[]⟩ = some x := by
  obtain ⟨p, ss, e⟩ := split_cons x QT
  have hf : ∀ q ∈ p :: ss, FreeOf 39 q := e ▸ StrLaws.split_free x 39
  have hj : Str.join QT (p :: ss) = x := by rw [← e]; exact StrLaws.join_split x QT
  rw [quote_not h, e]
  have e2 : (QT ++ Str.join SP5 (p :: ss) ++ QT).cps.toList = 39 :: ((Str.join SP5 (p :: ss)).cps.toList ++ [39]) := by
    rw [toList_app, toList_app]
    rfl
  rw [e2]
  show lexRun .q _ _ = _
  rw [lex_join ss p _ hf, hj]
  congr 1
  refine str_ext ?_
  rw [toList_app]
  rfl
theorem row_ok {l : List Str} (hl : ∀ x ∈ l, x.length ≤ 157 ∧ PyData.strOk x = true) (hn : l.length ≤ 500) : RowOk l where
  len := hl
  cnt := hn
  roots := by
    rw [map_next]
    exact filt_link l (l.map quoteF)
  tips := by
    rw [map_next]
    exact filt_link (l.map quoteF) l
  ok := fun x hx => kqd_link (ok_linkAt hx)
  okN := fun x hx => kqd_link (ok_nextF (ok_linkAt hx))
  qlen := fun x hx => by
    obtain ⟨y, hy, rfl⟩ := List.mem_map.mp hx
    have := quoteF_len y
    have := (hl y hy).1
    exact ⟨by omega, strOk_quote (hl y hy).2⟩
theorem plain_law (l : List Str) (hl : ∀ x ∈ l, x.length ≤ 25 ∧ PyData.strOk x = true) (hn : l.length ≤ 9) : RowOk l ∧ RowOk (l ++ tipsOf l) ∧ ∀ x ∈ tipsOf l, ∃ p, innerF x = some p ∧ lexRun .sp x.cps.toList ⟨#[]⟩ = some p ∧ PyData.strOk p = true := by
  refine ⟨row_ok (fun x hx => ⟨Nat.le_trans (hl x hx).1 (by decide), (hl x hx).2⟩) (by omega), row_ok (fun x hx => ?_) ?_, fun x hx => ?_⟩
  · rcases List.mem_append.mp hx with hx | hx
    · exact ⟨Nat.le_trans (hl x hx).1 (by decide), (hl x hx).2⟩
    · obtain ⟨y, hy, rfl⟩ := List.mem_map.mp (List.mem_filter.mp hx).1
      have := quoteF_len y
      have := (hl y hy).1
      exact ⟨by omega, strOk_quote (hl y hy).2⟩
  · have h1 : (tipsOf l).length ≤ (l.map quoteF).length := List.length_filter_le _ _
    rw [List.length_map] at h1
    rw [List.length_append]
    omega
  · obtain ⟨h1, h2⟩ := List.mem_filter.mp hx
    obtain ⟨y, hy, rfl⟩ := List.mem_map.mp h1
    have hb : bareF y = false := by
      cases e : bareF y with
      | false => rfl
      | true =>
        rw [quote_bare e] at h2
        simp [outP, hy] at h2
    exact ⟨y, inner_quote hb, lex_quote hb, (hl y hy).2⟩

end
section
open PySem PySem.W PyProof.Rows PySem.Calls
set_option maxRecDepth 100000
set_option maxHeartbeats 8000000
local macro_rules | `(tactic| k_room) => `(tactic| ktr_room)
local macro_rules | `(tactic| k_units) => `(tactic| ktr_units)
local macro_rules | `(tactic| walk_at "execs cons") => `(tactic| (k_here; refine stop_intro ?_))
local macro_rules | `(tactic| walk_at "execs nil") => `(tactic| (k_here; refine' gen_toks ?_; intro tk; (with_reducible refine wpAny_execs_nil ?_); try dsimp only))
local macro_rules | `(tactic| walk_at "UnrEnd") => `(tactic| (k_here; refine stop_intro ?_))
local macro_rules | `(tactic| walk_at "call ref") => `(tactic| (k_here; (with_reducible show wpAny _ _ (call (Value.ref 827) [Value.ref _]) _ _ _); k_dflt (refine' c_row _ _ _ _ _ _ _ _ _ _ _ _ _ _ _ _ _ _ _ _ _ ?h1 ?h2 ?h3 ?k1 ?k2 ?k3 ?k4 ?k5 ?k6 ?k7 ?k8 ?_; (case k1 => k_asm); (case k2 => k_asm); (case k3 => k_asm); (case k4 => k_asm); (case k5 => k_asm); (case h1 => assumption); (case h2 => assumption); (case h3 => assumption); (case k6 => first | exact rfl | assumption); (case k7 => ktr_room); (case k8 => ktr_units); k_whole); intro R9 h9 tk9 rs9 c9 l9 F9 N9 r9 hs9 hb9 hn9; (try dsimp only); (try k_fold)))

theorem law_exec {w : World} {sc : Addr} {vs : List Value} {ns : List Int} (dp un : Nat) (gd : Option (List Code)) (a : Addr) (ccd : Value) (A₀ : Around) (base h₀ : Heap) (L : Addr) (s : Shared) (mean : ExcName → Option Value) (mg mb : Str → Option Value) (Q : Flow → Shared → Prop) (E : Value → Shared → Prop)
    (B : Below A₀ base [] h₀) (X : (KF w.params).In h₀) (T : Top qv (looseW qv lo) mean mg mb h₀) (hd : dp + 12 < recursionLimit) (hu : un + 130 < cLine)
    {oA oL : Obj} (hA : ∃ v, oA.data = .cell v) (hL : ∃ v, oL.data = .cell v) (hsc : h₀.IsList sc vs.toArray) (hin : IntsAre vs ns) (hn : ns.length ≤ 63)
    (hpl : ∀ l : List Str, (∀ x ∈ l, x.length ≤ 25 ∧ PyData.strOk x = true) → l.length ≤ 9 → RowOk l ∧ RowOk (l ++ tipsOf l) ∧ ∀ x ∈ tipsOf l, ∃ p, innerF x = some p ∧ lexRun .sp x.cps.toList ⟨#[]⟩ = some p ∧ PyData.strOk p = true)
    (F : Fr h₀ L s.heap (mLaw sc none none none none none)) (N : News h₀ L s.heap ((L + 1 + 1, oA) :: (L + 1, oL) :: []))
    (hE : PassesOwn (model PySem.Challenge.rw_ij0131_01.row.prog w) (ktrTop dp un gd (Str.ofString "law") lawScope L a ccd (lawCells L) []) (envX (Str.ofString "law") lawScope L a ccd (lawCells L)) E)
    (hret : ∀ h' tk' m' news', Fr h₀ L h' m' → News h₀ L h' news' → Q (.ret (.bool true)) { s with heap := h', toks := tk' }) :
    wpAny (model PySem.Challenge.rw_ij0131_01.row.prog w) (ktrTop dp un gd (Str.ofString "law") lawScope L a ccd (lawCells L) []) (execs (lawAt 0 :: lawAt 1 :: lawAt 2 :: []) (envX (Str.ofString "law") lawScope L a ccd (lawCells L))) Q E s := by
  revert X
  k_fill
  intro X
  obtain ⟨av, dA⟩ := hA
  obtain ⟨lv, dL⟩ := hL
  have hsc0 : lawScope = lawScope := rfl
  conv at hsc0 => lhs; whnf
  rw [← hsc0] at hE ⊢
  clear hsc0
  have hcl : lawCells L = lawCells L := rfl
  conv at hcl => lhs; whnf
  rw [← hcl] at hE ⊢
  clear hcl
  have hst : lawAt 0 = lawAt 0 := rfl
  conv at hst => lhs; whnf
  rw [← hst]
  clear hst
  have hst : lawAt 1 = lawAt 1 := rfl
  conv at hst => lhs; whnf
  rw [← hst]
  clear hst
  have hst : lawAt 2 = lawAt 2 := rfl
  conv at hst => lhs; whnf
  rw [← hst]
  clear hst
  refine' gen_toks ?_; intro tk; (with_reducible refine wpAny_execs_cons ?_); (try dsimp only)
  k_steps
  unfold Stop
  rename_i R9 h0 tk0 rs9 c9 l9 r9 hs9 hb9 hn9 h2 F2 N2
  have lR9 : @LT.lt Nat _ (L + 1 + 1) R9 := r9 _ (.head _)
  obtain ⟨ok1, ok2, sp1⟩ := hpl _ hb9 (by rw [List.length_append]; show 6 + l9.length ≤ 9; omega)
  refine' gen_toks ?_; intro tk; (with_reducible refine wpAny_execs_cons ?_); (try dsimp only)
  k_steps
  unfold Stop
  rename_i I1 lI t1 h3 tk3 F3 N3
  have F4 : Fr h₀ L h3 (mLaw sc (some (.ref R9)) (some (.int 0 t1)) none none none) := fr_same F3 (by
    intro y
    by_cases h1 : y = Str.ofString "turn"
    · subst h1; exact rfl
    by_cases h2 : y = Str.ofString "row"
    · subst h2; exact rfl
    simp [mLaw, h1, h2])
  refine law_turn (rest := []) dp un gd a ccd A₀ base h₀ L _ mean mg mb _ _ B X T hd hu (tz := [(I1, itR 1 1)]) (fun p hp => by rw [List.mem_singleton.mp hp]; exact lI.2.1) ⟨_, dA⟩ ⟨_, dL⟩ hs9 ok1 (.inl rfl) (fun _ => sp1) lR9 F4 (cb_drop N3 fun p hp => by
    simp only [List.mem_cons, List.mem_nil_iff, or_false] at hp
    rcases hp with rfl | rfl | rfl | rfl
    · exact .tail _ (.head _)
    · exact .tail _ (.tail _ (.head _))
    · exact .tail _ (.tail _ (.tail _ (.head _)))
    · exact .head _) ?_
  intro h5 tk5 R5 rs5 c5 oA5 oL5 qo5 ro5 ti5 F5 N5 hA5 hL5 hs5 lR5 lz5
  k_steps
  unfold Stop
  refine UnrEnd.intro F5 N5 [(R5, listOf rs5 c5), (L + 1 + 1, oA5), (L + 1, oL5)] (fun p hp => by
    simp only [List.mem_cons, List.mem_nil_iff, or_false] at hp
    rcases hp with rfl | rfl | rfl | rfl
    · exact .tail _ (.tail _ (.tail _ (.head _)))
    · exact .head _
    · exact .tail _ (.head _)
    · exact .tail _ (.tail _ (.head _))) (fun p hp => by
    simp only [List.mem_cons, List.mem_nil_iff, or_false] at hp
    have l5 : @LT.lt Nat _ I1 R5 := lz5 _ (.head _)
    rcases hp with rfl | rfl | rfl
    · exact Nat.ne_of_gt l5
    · exact Nat.ne_of_lt lI.2.1
    · exact Nat.ne_of_lt lI.2.2) ?_
  k_steps
  unfold Stop
  rename_i t6 h6 tk6 F6 N6
  have F7 : Fr h₀ L h6 (mLaw sc (some (.ref R5)) (some (.int 1 t6)) qo5 ro5 ti5) := fr_same F6 (by
    intro y
    by_cases h1 : y = Str.ofString "turn"
    · subst h1; exact rfl
    simp [mLaw, h1])
  refine law_turn (rest := []) dp un gd a ccd A₀ base h₀ L _ mean mg mb _ _ B X T hd hu (tz := [(I1, itR 2 0)]) (fun p hp => by rw [List.mem_singleton.mp hp]; exact lI.2.1) hA5 hL5 hs5 ok2 (.inr rfl) (fun h => absurd h (by decide)) lR5 F7 (cb_drop N6 fun p hp => by
    simp only [List.mem_cons, List.mem_nil_iff, or_false] at hp
    rcases hp with rfl | rfl | rfl | rfl
    · exact .tail _ (.head _)
    · exact .tail _ (.tail _ (.head _))
    · exact .tail _ (.tail _ (.tail _ (.head _)))
    · exact .head _) ?_
  intro h8 tk8 R8 rs8 c8 oA8 oL8 qo8 ro8 ti8 F8 N8 hA8 hL8 hs8 lR8 lz8
  k_steps
  unfold Stop
  refine UnrEnd.intro F8 N8 [] (fun p hp => by
    rw [List.mem_singleton.mp hp]
    exact .tail _ (.tail _ (.tail _ (.head _)))) (List.forall_mem_nil _) ?_
  k_steps
  unfold Stop
  refine' gen_toks ?_; intro tk; (with_reducible refine wpAny_execs_cons ?_); (try dsimp only)
  k_steps
  exact hret _ _ _ _ (by assumption) (by assumption)

end
section
open PySem PySem.W PyProof.Rows
set_option maxRecDepth 100000
set_option maxHeartbeats 80000000
local macro_rules | `(tactic| k_qdec) => `(tactic| first | (rw [PySem.W.Fast.te17448422675489707002]; decide +kernel) | (rw [PySem.W.Fast.te2458874890965802552]; decide +kernel) | decide +kernel)
theorem law_holds : PySem.Challenge.rw_ij0131_01.Holds := by
  w_on
  refine PySem.W.holds_law ws fun said => ?_
  refine PySem.W.holds_open (q := qv) (loose := lo) (Xt := fun s => xlAt qv [] s && recOk (OpenRow.toRowW (OpenLaw.row PySem.Challenge.rw_ij0131_01)).records s) (XP := XL qv []) (Yf := Hook.obs HK) (Ya := Hook.val HK) (YP := Hook.says HK) (N := 10924) (leftO_of_T hl) (Hook.of HK) (Hook.keeps HK) (fun s e => xl_of s (Bool.and_eq_true_iff.mp e).1) XL.keeps (by rfl) (by rfl) (by rfl) (fun s e => recFacts_of (Bool.and_eq_true_iff.mp e).2) (by rfl) (by first | assumption | decide +kernel) (by decide +kernel) ⟨rfl, rfl, rfl, rfl, rfl, whole_tables⟩ ?hw ?hc
  case hw => w_witness2
  case hc =>
    w_strict (k_go0; (all_goals try k_fold))
    rename IntsAre _ _ => hI
    rename Heap.IsList _ _ _ => hL
    rename Below callerA _ _ _ => hB
    rename Frag.In _ _ => hX
    rename Top _ _ _ _ _ _ => hT
    rename Fr _ _ _ _ => hF
    rename News _ _ _ _ => hN
    rename_i oA oL dA dL X0
    refine law_exec _ _ _ _ _ _ _ _ _ _ _ _ _ _ _ hB hX hT ?d ?u ⟨_, dA⟩ ⟨_, dL⟩ hL hI ?n plain_law ?F hN ?E ?ret
    case d => show 1 + claimMargin + 1 + 12 < recursionLimit; decide +kernel
    case u => show 4 + 3 + 130 < cLine; decide +kernel
    case n => omega
    case F =>
      refine fr_same hF ?_
      intro y
      by_cases h1 : y = Str.ofString "script"
      · subst h1; exact rfl
      · refine Eq.trans (bindL_one rfl h1) ?_
        simp [mLaw, h1]
    case E => passes_own
    case ret =>
      intro h' tk' m' news' F' N'
      k_steps

end
end Mine
set_option maxRecDepth 100000 in
set_option maxHeartbeats 8000000 in
theorem PySem.Challenge.cw_ij0131_01_holds : PySem.Challenge.rw_ij0131_01.Holds :=
  Mine.law_holds
